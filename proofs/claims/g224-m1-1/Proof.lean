import JvmDerived
import JvmDerived.Pilot.@@N@@Statement
import JvmDerived.Pilot.@@N@@Code
set_option linter.unusedVariables false
set_option linter.unusedSimpArgs false
namespace Jvm.RoadKit
open Sem ClassFile Op Lib Jvm.Stand Jvm.Free Jvm.LawKit
section New
variable {p : Program} {l : Launch} {e : Env} {R : Room} {s : State} {m : MethodId} {args : Array Value} {below : List Frame} {meth : Method} {c : Code} {T : State} {locs : List Loc} {cells slots : Nat}
theorem retI (X : Stand p l e R s m args below meth c T locs cells slots) (hx : p.tables.exec = Jvm.exec) {pc : Nat} {Ls : Array Slot} {z : Int32} {rest : List Value} (hret : meth.sig.returnType = some .int) (hd : decode c.code pc = .ok (.ireturn, 1)) {fs : List Frame}
    (hl : ∀ (f : JFrame) (acts : List Action), f.method = m → f.locked = none → f.entered = [] → (doReturn e (T.setTop f) acts (some (.int z))).1 = T.setFrames fs) : Steps p.tables e below (T.setTop (mkF m pc Ls (.int z :: rest))) (T.setFrames fs) := by
  have hm' : T.vm.method? m = some meth := X.method'
  have hn : narrow .int (.int z) = .int z := rfl
  show Steps p.tables e below (T.setTop { method := m, pc := pc, locals := Ls, stack := _ :: rest, locked := none }) _
  jvm_step X.here [X.here.top, hx, hd, hm', hret, hn]
  first | (intro acts; rw [hl _ acts rfl rfl rfl]) | rw [hl _ _ rfl rfl rfl]
  exact Steps.refl _
end New
end Jvm.RoadKit
namespace Jvm.Pilot.@@N@@
open Jvm Jvm.ClassFile Sem Op Lib Jvm.Free Jvm.Stand Jvm.LawKit Jvm.RoadKit Bundle Jvm.Pilot.@@N@@.Jvm.D
theorem own_fldI {Z : State} {args : Array Value} {t : Term} {a : Addr} {C n d : String} {k : Int32} (ev : t.eval args Z none [] Z = some (.ref a)) (h : (Jvm.Cond.eq (.field t C n d) (.int k)).value args Z none Z [] = some true) : Fld Z Z.heap a C n d (.int k) := by
  obtain ⟨x, y, h1, h2, h3, -⟩ := cmp_v (Or.inl h)
  have e2 : y = .int k := (Option.some.inj (h2.symm.trans (Term.int_eval k)))
  subst e2
  have e1 : x = .int k := by
    cases x with
    | int z => simpa [Cond.value, h1, h2] using h
    | _ => simp [Cond.value, h1, h2] at h
  subst e1
  rw [fld_at ev] at h1
  exact Fld.start h1
theorem own_fldR {Z : State} {args : Array Value} {t t2 : Term} {a b : Addr} {C n d : String} (ev : t.eval args Z none [] Z = some (.ref a)) (ev2 : t2.eval args Z none [] Z = some (.ref b)) (h : (Jvm.Cond.eq (.field t C n d) t2).value args Z none Z [] = some true) : Fld Z Z.heap a C n d (.ref b) := by
  obtain ⟨x, y, h1, h2, h3, -⟩ := cmp_v (Or.inl h)
  have e2 : y = .ref b := (Option.some.inj (h2.symm.trans ev2))
  subst e2
  have e1 : x = .ref b := by
    cases x with
    | ref z => simpa [Cond.value, h1, h2] using h
    | _ => simp [Cond.value, h1, h2] at h
  subst e1
  rw [fld_at ev] at h1
  exact Fld.start h1
theorem own_fldX {Z : State} {args : Array Value} {t : Term} {a b : Addr} {C n d : String} (ev : t.eval args Z none [] Z = some (.ref a)) (h : (Term.field t C n d).eval args Z none [] Z = some (.ref b)) : Fld Z Z.heap a C n d (.ref b) := by
  rw [fld_at ev] at h
  exact Fld.start h
theorem own_not {Z : State} {a0 : Array Value} {C S K : String} {n : Nat} (w : (Jvm.Cond.superclass C S).before a0 Z = true) (w0 : (Jvm.Cond.noSuperclass S).before a0 Z = true) (wk : (Jvm.Cond.instantiable K n).before a0 Z = true) (hn : C ≠ K) (hn2 : S ≠ K) : ∃ c t, Z.vm.findClass C = some c ∧ Z.vm.findClass K = some t ∧ Z.vm.assignable c t = false := by
  obtain ⟨t, k', g0, g2, g5, g7, -⟩ := Cond.instantiable_spec wk
  have g8 : k'.isInterface = false := (Bool.or_eq_false_iff.mp g7).1
  obtain ⟨cs, ks, h1, h2, h3, -, -⟩ := Cond.noSuperclass_spec w0
  have ne1 := ids_ne h1 g0 hn2
  have n0 : NS Z S K := ⟨cs, t, h1, g0, fun fuel => by
    cases fuel with
    | zero => rfl
    | succ f => simp [Vm.isSubclassAux, ne1, h2, h3]⟩
  obtain ⟨c, t', q1, q2, q3⟩ := NS.step w n0 hn
  cases g0.symm.trans q2
  obtain ⟨p, k, kp, r1, r2, r3, r4, r5, -, r7⟩ := Cond.superclass_spec q1 w
  have ne := ids_ne q1 g0 hn
  refine ⟨c, t, q1, g0, ?_⟩
  show Z.vm.assignableAux (255 + 1) c t = false
  simp [Vm.assignableAux, ne, r2, g2, r5, g5, g8, Vm.isSubclass, q3]
theorem d1_0 : decode method_2_code 0 = .ok (.iload_n 0, 1) := by decide +kernel
theorem d1_1 : decode method_2_code 1 = .ok (.ifCond .ne 7, 3) := by decide +kernel
theorem d1_4 : decode method_2_code 4 = .ok (.getstatic 7, 3) := by decide +kernel
theorem d1_7 : decode method_2_code 7 = .ok (.areturn, 1) := by decide +kernel
theorem d1_8 : decode method_2_code 8 = .ok (.iload_n 0, 1) := by decide +kernel
theorem d1_9 : decode method_2_code 9 = .ok (.iconst 1, 1) := by decide +kernel
theorem d1_10 : decode method_2_code 10 = .ok (.if_icmp .ne 7, 3) := by decide +kernel
theorem d1_13 : decode method_2_code 13 = .ok (.getstatic 13, 3) := by decide +kernel
theorem d1_16 : decode method_2_code 16 = .ok (.areturn, 1) := by decide +kernel
theorem d1_17 : decode method_2_code 17 = .ok (.getstatic 16, 3) := by decide +kernel
theorem d1_20 : decode method_2_code 20 = .ok (.areturn, 1) := by decide +kernel
theorem pn_1 : plainName "com/example/cluster_protocol_models/clusterprotocolmodels/hermes/MessageEqualsPinLaw" = true := by first | (simp [plainName, overriddenIn]; done) | decide +kernel
theorem ef_1 (m : MethodId) (x0 : Int32) : entryFrame m #[(.int x0)] 1 = mkF m 0 #[.val (.int x0)] [] := by first | (simp [entryFrame, mkF, argsToLocals, Value.category]; done) | rfl
def own_F1 (p1 : Int32) (wI : Addr) (wA : Addr) (wV : Addr) : Addr := if p1 = (0 : Int32) then wI else if p1 = (1 : Int32) then wA else wV
def Q1 (Z : State) (p1 : Int32) (wI : Addr) (wA : Addr) (wV : Addr) (h0 : Heap) (n0 : Nat) (v : Option Value) (h : Heap) (L : List Loc) : Prop := v = some (.ref (own_F1 p1 wI wA wV)) ∧ Fr n0 L ∧ h = h0
set_option maxRecDepth 65536 in
set_option maxHeartbeats 40000000 in
theorem rm1 (l : Launch) (Z : State) (a0 : Array Value) (hw : ∀ d ∈ tables_1, d.before a0 Z = true) (ws : List Jvm.Cond) (p1 : Int32) (wI : Addr) (wA : Addr) (wV : Addr) (h0 : Heap) (n0 : Nat) (Z0 : n0 ≤ h0.size) (SI : Sta Z h0 "com/example/cluster_protocol_models/clusterprotocolmodels/hermes/Message$Kind" "INV" "Lcom/example/cluster_protocol_models/clusterprotocolmodels/hermes/Message$Kind;" (.ref wI)) (SA : Sta Z h0 "com/example/cluster_protocol_models/clusterprotocolmodels/hermes/Message$Kind" "ACK" "Lcom/example/cluster_protocol_models/clusterprotocolmodels/hermes/Message$Kind;" (.ref wA)) (SV : Sta Z h0 "com/example/cluster_protocol_models/clusterprotocolmodels/hermes/Message$Kind" "VAL" "Lcom/example/cluster_protocol_models/clusterprotocolmodels/hermes/Message$Kind;" (.ref wV)) :
    MetFree l (⟨"com/example/cluster_protocol_models/clusterprotocolmodels/hermes/MessageEqualsPinLaw", "kindOf", "(I)Lcom/example/cluster_protocol_models/clusterprotocolmodels/hermes/Message$Kind;"⟩ : MethodName) (head1 (Jvm.Cond.code (⟨"com/example/cluster_protocol_models/clusterprotocolmodels/hermes/MessageEqualsPinLaw", "kindOf", "(I)Lcom/example/cluster_protocol_models/clusterprotocolmodels/hermes/Message$Kind;"⟩ : MethodName) method_2_code 1 (some (.object "com/example/cluster_protocol_models/clusterprotocolmodels/hermes/Message$Kind")) :: ws) ({ frames := 0, cells := 0, slots := 0, locals := 0 } : Room)) (fun a U => a = #[(.int p1)] ∧ Z.Warmed39 U.vm ∧ U.heap = h0) (fun _ _ _ _ _ => True) (fun _ U o U' => ∃ v L, o = .returned v ∧ Q1 Z p1 wI wA wV h0 n0 v U'.heap L ∧ FrameEnd U o U' L ({ frames := 0, cells := 0, slots := 0, locals := 0 } : Room).cells ({ frames := 0, cells := 0, slots := 0, locals := 0 } : Room).slots) := by
  refine MetFree.of_bodySF (plainFor_of_name pn_1) hisR ?_
  intro p e s m args below meth c s₁ Bd hml0 hP hK
  obtain ⟨rfl, hZ, hh⟩ := hP
  have hx := Bd.exec
  have hby := Bd.bytes
  have hml : c.maxLocals = 1 := hml0
  have hown : s.vm.findClass "com/example/cluster_protocol_models/clusterprotocolmodels/hermes/MessageEqualsPinLaw" = some m.cls := findClass_of_methodNamed Bd.named
  have hnm := (name_of_methodNamed Bd.named Bd.method).1
  have X0 : Stand p l e ({ frames := 0, cells := 0, slots := 0, locals := 0 } : Room) s m #[(.int p1)] below meth c s₁ [] 0 0 := Stand.of_body Bd
  have e0 : s₁.heap = h0 := by rw [← hh, Bd.state]; rfl
  have N0 := Fr.nil n0
  have pre0 : ∀ t, Steps p.tables e below (s₁.setTop (mkF m 0 #[.val (.int p1)] [])) t → Steps p.tables e below (s₁.setTop (entryFrame m #[(.int p1)] 1)) t := fun t k => castTop (ef_1 m p1) k
  have pre1 : ∀ t, Steps p.tables e below (s₁.setTop (mkF m 1 #[.val (.int p1)] [(.int p1)])) t → Steps p.tables e below (s₁.setTop (entryFrame m #[(.int p1)] 1)) t := by
    intro t kt
    refine pre0 _ ?_
    show Steps p.tables e below (s₁.setTop (mkF m 0 #[.val (.int p1)] [])) _
    refine XS.iloadN X0.here hx rfl (hb hby d1_0) rfl ?_
    exact kt
  by_cases hc1_2 : p1 = (0 : Int32)
  · obtain ⟨T3, X3, e3, st3⟩ := getS2 X0 hx hZ hown (host := "") (Or.inl (hw _ (List.mem_of_getElem? (i := 4) rfl))) Via.refl e0 SI (g := (mkF m 4 #[.val (.int p1)] [])) rfl (hb hby d1_4)
    have pre4 : ∀ t, Steps p.tables e below (T3.setTop (mkF m 7 #[.val (.int p1)] [(.ref wI)])) t → Steps p.tables e below (s₁.setTop (entryFrame m #[(.int p1)] 1)) t := by
      intro t kt
      refine pre1 _ ?_
      show Steps p.tables e below (s₁.setTop (mkF m 1 #[.val (.int p1)] [(.int p1)])) _
      refine XS.ifNo X0.here hx rfl (hb hby d1_1) rfl ((if0 _ _).trans (teq hc1_2).2) ?_
      show Steps p.tables e below (s₁.setTop (mkF m 4 #[.val (.int p1)] [])) _
      refine st3 _ ?_
      exact kt
    obtain ⟨fs, hr, hrun, hended, hW, hsame⟩ := X3.leave (v := some (.ref wI)) (fun h => by rw [Bd.returns] at h; cases h)
    refine ⟨_, _, pre4 _ ?_, hrun, hended, _, _, rfl, ?_, ⟨_, rfl⟩, hW, hsame.mono (by decide) (by decide)⟩
    · show Steps p.tables e below (T3.setTop (mkF m 7 #[.val (.int p1)] [(.ref wI)])) _
      jvm_step X3.here [X3.here.top, hx, (hb hby d1_7), X3.method', Bd.returns, Value.isRef, FieldType.isReference]
      first | (intro acts; rw [hr _ acts rfl rfl rfl]) | rw [hr _ _ rfl rfl rfl]
      exact Steps.refl _
    · show Q1 Z p1 wI wA wV h0 n0 _ T3.heap _
      rw [e3]
      exact ⟨(by rw [own_F1, if_pos hc1_2]), N0, rfl⟩
  · have pre5 : ∀ t, Steps p.tables e below (s₁.setTop (mkF m 10 #[.val (.int p1)] [(.int (1 : Int32)), (.int p1)])) t → Steps p.tables e below (s₁.setTop (entryFrame m #[(.int p1)] 1)) t := by
      intro t kt
      refine pre1 _ ?_
      show Steps p.tables e below (s₁.setTop (mkF m 1 #[.val (.int p1)] [(.int p1)])) _
      refine XS.ifYes X0.here hx rfl (pc0 := 1) (pc' := 8) rfl (hb hby d1_1) rfl ((if0 _ _).trans (feq hc1_2).2) (by decide) (by decide) ?_
      show Steps p.tables e below (s₁.setTop (mkF m 8 #[.val (.int p1)] [])) _
      refine XS.iloadN X0.here hx rfl (hb hby d1_8) rfl ?_
      show Steps p.tables e below (s₁.setTop (mkF m 9 #[.val (.int p1)] [(.int p1)])) _
      refine XS.iconst X0.here hx rfl (hb hby d1_9) ?_
      exact kt
    by_cases hc10_6 : p1 = (1 : Int32)
    · obtain ⟨T7, X7, e7, st7⟩ := getS2 X0 hx hZ hown (host := "") (Or.inl (hw _ (List.mem_of_getElem? (i := 46) rfl))) Via.refl e0 SA (g := (mkF m 13 #[.val (.int p1)] [])) rfl (hb hby d1_13)
      have pre8 : ∀ t, Steps p.tables e below (T7.setTop (mkF m 16 #[.val (.int p1)] [(.ref wA)])) t → Steps p.tables e below (s₁.setTop (entryFrame m #[(.int p1)] 1)) t := by
        intro t kt
        refine pre5 _ ?_
        show Steps p.tables e below (s₁.setTop (mkF m 10 #[.val (.int p1)] [(.int (1 : Int32)), (.int p1)])) _
        refine XS.icmpNo X0.here hx rfl (hb hby d1_10) rfl (teq hc10_6).2 ?_
        show Steps p.tables e below (s₁.setTop (mkF m 13 #[.val (.int p1)] [])) _
        refine st7 _ ?_
        exact kt
      obtain ⟨fs, hr, hrun, hended, hW, hsame⟩ := X7.leave (v := some (.ref wA)) (fun h => by rw [Bd.returns] at h; cases h)
      refine ⟨_, _, pre8 _ ?_, hrun, hended, _, _, rfl, ?_, ⟨_, rfl⟩, hW, hsame.mono (by decide) (by decide)⟩
      · show Steps p.tables e below (T7.setTop (mkF m 16 #[.val (.int p1)] [(.ref wA)])) _
        jvm_step X7.here [X7.here.top, hx, (hb hby d1_16), X7.method', Bd.returns, Value.isRef, FieldType.isReference]
        first | (intro acts; rw [hr _ acts rfl rfl rfl]) | rw [hr _ _ rfl rfl rfl]
        exact Steps.refl _
      · show Q1 Z p1 wI wA wV h0 n0 _ T7.heap _
        rw [e7]
        exact ⟨(by rw [own_F1, if_neg hc1_2, if_pos hc10_6]), N0, rfl⟩
    · obtain ⟨T9, X9, e9, st9⟩ := getS2 X0 hx hZ hown (host := "") (Or.inl (hw _ (List.mem_of_getElem? (i := 44) rfl))) Via.refl e0 SV (g := (mkF m 17 #[.val (.int p1)] [])) rfl (hb hby d1_17)
      have pre10 : ∀ t, Steps p.tables e below (T9.setTop (mkF m 20 #[.val (.int p1)] [(.ref wV)])) t → Steps p.tables e below (s₁.setTop (entryFrame m #[(.int p1)] 1)) t := by
        intro t kt
        refine pre5 _ ?_
        show Steps p.tables e below (s₁.setTop (mkF m 10 #[.val (.int p1)] [(.int (1 : Int32)), (.int p1)])) _
        refine XS.icmpYes X0.here hx rfl (pc0 := 10) (pc' := 17) rfl (hb hby d1_10) rfl (feq hc10_6).2 (by decide) (by decide) ?_
        show Steps p.tables e below (s₁.setTop (mkF m 17 #[.val (.int p1)] [])) _
        refine st9 _ ?_
        exact kt
      obtain ⟨fs, hr, hrun, hended, hW, hsame⟩ := X9.leave (v := some (.ref wV)) (fun h => by rw [Bd.returns] at h; cases h)
      refine ⟨_, _, pre10 _ ?_, hrun, hended, _, _, rfl, ?_, ⟨_, rfl⟩, hW, hsame.mono (by decide) (by decide)⟩
      · show Steps p.tables e below (T9.setTop (mkF m 20 #[.val (.int p1)] [(.ref wV)])) _
        jvm_step X9.here [X9.here.top, hx, (hb hby d1_20), X9.method', Bd.returns, Value.isRef, FieldType.isReference]
        first | (intro acts; rw [hr _ acts rfl rfl rfl]) | rw [hr _ _ rfl rfl rfl]
        exact Steps.refl _
      · show Q1 Z p1 wI wA wV h0 n0 _ T9.heap _
        rw [e9]
        exact ⟨(by rw [own_F1, if_neg hc1_2, if_neg hc10_6]), N0, rfl⟩
theorem d2_0 : decode prog_92_method_1_code 0 = .ok (.aload_n 0, 1) := by decide +kernel
theorem d2_1 : decode prog_92_method_1_code 1 = .ok (.invokespecial 1, 3) := by decide +kernel
theorem d2_4 : decode prog_92_method_1_code 4 = .ok (.aload_n 0, 1) := by decide +kernel
theorem d2_5 : decode prog_92_method_1_code 5 = .ok (.aload_n 1, 1) := by decide +kernel
theorem d2_6 : decode prog_92_method_1_code 6 = .ok (.putfield 7, 3) := by decide +kernel
theorem d2_9 : decode prog_92_method_1_code 9 = .ok (.aload_n 0, 1) := by decide +kernel
theorem d2_10 : decode prog_92_method_1_code 10 = .ok (.iload_n 2, 1) := by decide +kernel
theorem d2_11 : decode prog_92_method_1_code 11 = .ok (.putfield 13, 3) := by decide +kernel
theorem d2_14 : decode prog_92_method_1_code 14 = .ok (.aload_n 0, 1) := by decide +kernel
theorem d2_15 : decode prog_92_method_1_code 15 = .ok (.iload_n 3, 1) := by decide +kernel
theorem d2_16 : decode prog_92_method_1_code 16 = .ok (.putfield 17, 3) := by decide +kernel
theorem d2_19 : decode prog_92_method_1_code 19 = .ok (.aload_n 0, 1) := by decide +kernel
theorem d2_20 : decode prog_92_method_1_code 20 = .ok (.iload 4, 2) := by decide +kernel
theorem d2_22 : decode prog_92_method_1_code 22 = .ok (.putfield 20, 3) := by decide +kernel
theorem d2_25 : decode prog_92_method_1_code 25 = .ok (.aload_n 0, 1) := by decide +kernel
theorem d2_26 : decode prog_92_method_1_code 26 = .ok (.iload 5, 2) := by decide +kernel
theorem d2_28 : decode prog_92_method_1_code 28 = .ok (.putfield 23, 3) := by decide +kernel
theorem d2_31 : decode prog_92_method_1_code 31 = .ok (.return_, 1) := by decide +kernel
theorem pn_2 : plainName "com/example/cluster_protocol_models/clusterprotocolmodels/hermes/Message" = true := by first | (simp [plainName, overriddenIn]; done) | decide +kernel
theorem ef_2 (m : MethodId) (x0 : Addr) (x1 : Addr) (x2 : Int32) (x3 : Int32) (x4 : Int32) (x5 : Int32) : entryFrame m #[(.ref x0), (.ref x1), (.int x2), (.int x3), (.int x4), (.int x5)] 6 = mkF m 0 #[.val (.ref x0), .val (.ref x1), .val (.int x2), .val (.int x3), .val (.int x4), .val (.int x5)] [] := by first | (simp [entryFrame, mkF, argsToLocals, Value.category]; done) | rfl
def Q2 (Z : State) (a1 : Addr) (a2 : Addr) (p3 : Int32) (p4 : Int32) (p5 : Int32) (p6 : Int32) (h0 : Heap) (n0 : Nat) (v : Option Value) (h : Heap) (L : List Loc) : Prop := v = none ∧ Fr n0 L ∧ Keep h0 h [a1] ∧ Exa Z h a1 "com/example/cluster_protocol_models/clusterprotocolmodels/hermes/Message" ∧ Fld Z h a1 "com/example/cluster_protocol_models/clusterprotocolmodels/hermes/Message" "kind" "Lcom/example/cluster_protocol_models/clusterprotocolmodels/hermes/Message$Kind;" (.ref a2) ∧ Fld Z h a1 "com/example/cluster_protocol_models/clusterprotocolmodels/hermes/Message" "sender" "I" (.int p3) ∧ Fld Z h a1 "com/example/cluster_protocol_models/clusterprotocolmodels/hermes/Message" "epoch" "I" (.int p4) ∧ Fld Z h a1 "com/example/cluster_protocol_models/clusterprotocolmodels/hermes/Message" "version" "I" (.int p5) ∧ Fld Z h a1 "com/example/cluster_protocol_models/clusterprotocolmodels/hermes/Message" "tieBreaker" "I" (.int p6)
set_option maxRecDepth 65536 in
set_option maxHeartbeats 40000000 in
theorem rm2 (l : Launch) (Z : State) (a0 : Array Value) (hw : ∀ d ∈ tables_1, d.before a0 Z = true) (ws : List Jvm.Cond) (a1 : Addr) (a2 : Addr) (p3 : Int32) (p4 : Int32) (p5 : Int32) (p6 : Int32) (h0 : Heap) (n0 : Nat) (Z0 : n0 ≤ h0.size) (F0 : Fld Z h0 a1 "com/example/cluster_protocol_models/clusterprotocolmodels/hermes/Message" "kind" "Lcom/example/cluster_protocol_models/clusterprotocolmodels/hermes/Message$Kind;" .null) (F1 : Fld Z h0 a1 "com/example/cluster_protocol_models/clusterprotocolmodels/hermes/Message" "sender" "I" (.int (0 : Int32))) (F2 : Fld Z h0 a1 "com/example/cluster_protocol_models/clusterprotocolmodels/hermes/Message" "epoch" "I" (.int (0 : Int32))) (F3 : Fld Z h0 a1 "com/example/cluster_protocol_models/clusterprotocolmodels/hermes/Message" "version" "I" (.int (0 : Int32))) (F4 : Fld Z h0 a1 "com/example/cluster_protocol_models/clusterprotocolmodels/hermes/Message" "tieBreaker" "I" (.int (0 : Int32))) (E1 : Exa Z h0 a1 "com/example/cluster_protocol_models/clusterprotocolmodels/hermes/Message") (g_a1 : n0 ≤ a1) :
    MetFree l (⟨"com/example/cluster_protocol_models/clusterprotocolmodels/hermes/Message", "<init>", "(Lcom/example/cluster_protocol_models/clusterprotocolmodels/hermes/Message$Kind;IIII)V"⟩ : MethodName) (head1 (Jvm.Cond.code (⟨"com/example/cluster_protocol_models/clusterprotocolmodels/hermes/Message", "<init>", "(Lcom/example/cluster_protocol_models/clusterprotocolmodels/hermes/Message$Kind;IIII)V"⟩ : MethodName) prog_92_method_1_code 6 none :: ws) ({ frames := 1, cells := 0, slots := 0, locals := 12 } : Room)) (fun a U => a = #[(.ref a1), (.ref a2), (.int p3), (.int p4), (.int p5), (.int p6)] ∧ Z.Warmed39 U.vm ∧ U.heap = h0) (fun _ _ _ _ _ => True) (fun _ U o U' => ∃ v L, o = .returned v ∧ Q2 Z a1 a2 p3 p4 p5 p6 h0 n0 v U'.heap L ∧ FrameEnd U o U' L ({ frames := 1, cells := 0, slots := 0, locals := 12 } : Room).cells ({ frames := 1, cells := 0, slots := 0, locals := 12 } : Room).slots) := by
  refine MetFree.of_bodySF (plainFor_of_name pn_2) hisR ?_
  intro p e s m args below meth c s₁ Bd hml0 hP hK
  obtain ⟨rfl, hZ, hh⟩ := hP
  have hx := Bd.exec
  have hby := Bd.bytes
  have hml : c.maxLocals = 6 := hml0
  have hown : s.vm.findClass "com/example/cluster_protocol_models/clusterprotocolmodels/hermes/Message" = some m.cls := findClass_of_methodNamed Bd.named
  have hnm := (name_of_methodNamed Bd.named Bd.method).1
  have X0 : Stand p l e ({ frames := 1, cells := 0, slots := 0, locals := 12 } : Room) s m #[(.ref a1), (.ref a2), (.int p3), (.int p4), (.int p5), (.int p6)] below meth c s₁ [] 0 0 := Stand.of_body Bd
  have e0 : s₁.heap = h0 := by rw [← hh, Bd.state]; rfl
  have N0 := Fr.nil n0
  have pre0 : ∀ t, Steps p.tables e below (s₁.setTop (mkF m 0 #[.val (.ref a1), .val (.ref a2), .val (.int p3), .val (.int p4), .val (.int p5), .val (.int p6)] [])) t → Steps p.tables e below (s₁.setTop (entryFrame m #[(.ref a1), (.ref a2), (.int p3), (.int p4), (.int p5), (.int p6)] 6)) t := fun t k => castTop (ef_2 m a1 a2 p3 p4 p5 p6) k
  obtain ⟨T11, X11, e11, st11⟩ := initO X0 hx hZ hown (hw _ (List.mem_of_getElem? (i := 13) rfl)) (hw _ (List.mem_of_getElem? (i := 14) rfl)) (hw _ (List.mem_of_getElem? (i := 15) rfl)) e0 (g := (mkF m 1 #[.val (.ref a1), .val (.ref a2), .val (.int p3), .val (.int p4), .val (.int p5), .val (.int p6)] [(.ref a1)])) rfl (by rw [hml]; rfl) rfl (hb hby d2_1) (by decide) (W := 0) (by show 2 * 0 + _ ≤ _; exact Nat.le_of_eq rfl) (by decide)
  obtain ⟨T12, h12, X12, e12, W12, st12⟩ := putF X11 hx hZ hown (host := "") (Or.inl (hw _ (List.mem_of_getElem? (i := 16) rfl))) Via.refl e11 F0 E1 (Or.inr ⟨(hw _ (List.mem_of_getElem? (i := 17) rfl)), rfl, hnm⟩) (hw _ (List.mem_of_getElem? (i := 8) rfl)) (ty := (.object "com/example/cluster_protocol_models/clusterprotocolmodels/hermes/Message$Kind")) (by decide) rfl rfl (g := (mkF m 6 #[.val (.ref a1), .val (.ref a2), .val (.int p3), .val (.int p4), .val (.int p5), .val (.int p6)] [(.ref a2), (.ref a1)])) rfl rfl (hb hby d2_6)
  have N12 := Fr.snoc X12 N0 g_a1
  have K12 : Keep h0 h12 [a1] := (Keep.refl h0 [a1]).wr W12 (Or.inl (by simp))
  have f13 := (F1.other W12 (Or.inr (slot_ne (Or.inr (hw _ (List.mem_of_getElem? (i := 19) rfl))) (Or.inr (hw _ (List.mem_of_getElem? (i := 17) rfl))) (by decide) (t := .int) (t' := (.object "com/example/cluster_protocol_models/clusterprotocolmodels/hermes/Message$Kind")) (by decide) (by decide))))
  have f14 := (F2.other W12 (Or.inr (slot_ne (Or.inr (hw _ (List.mem_of_getElem? (i := 21) rfl))) (Or.inr (hw _ (List.mem_of_getElem? (i := 17) rfl))) (by decide) (t := .int) (t' := (.object "com/example/cluster_protocol_models/clusterprotocolmodels/hermes/Message$Kind")) (by decide) (by decide))))
  have f15 := (F3.other W12 (Or.inr (slot_ne (Or.inr (hw _ (List.mem_of_getElem? (i := 23) rfl))) (Or.inr (hw _ (List.mem_of_getElem? (i := 17) rfl))) (by decide) (t := .int) (t' := (.object "com/example/cluster_protocol_models/clusterprotocolmodels/hermes/Message$Kind")) (by decide) (by decide))))
  have f16 := (F4.other W12 (Or.inr (slot_ne (Or.inr (hw _ (List.mem_of_getElem? (i := 25) rfl))) (Or.inr (hw _ (List.mem_of_getElem? (i := 17) rfl))) (by decide) (t := .int) (t' := (.object "com/example/cluster_protocol_models/clusterprotocolmodels/hermes/Message$Kind")) (by decide) (by decide))))
  have z17 : n0 ≤ h12.size := (Nat.le_trans Z0 (Keep.of_wr W12).1)
  obtain ⟨T18, h18, X18, e18, W18, st18⟩ := putF X12 hx hZ hown (host := "") (Or.inl (hw _ (List.mem_of_getElem? (i := 18) rfl))) Via.refl e12 f13 (E1.wr W12) (Or.inr ⟨(hw _ (List.mem_of_getElem? (i := 19) rfl)), rfl, hnm⟩) (hw _ (List.mem_of_getElem? (i := 8) rfl)) (ty := .int) (by decide) rfl rfl (g := (mkF m 11 #[.val (.ref a1), .val (.ref a2), .val (.int p3), .val (.int p4), .val (.int p5), .val (.int p6)] [(.int p3), (.ref a1)])) rfl rfl (hb hby d2_11)
  have N18 := Fr.snoc X18 N12 g_a1
  have K18 : Keep h0 h18 [a1] := K12.wr W18 (Or.inl (by simp))
  have f19 := (f14.other W18 (Or.inr (slot_ne (Or.inr (hw _ (List.mem_of_getElem? (i := 21) rfl))) (Or.inr (hw _ (List.mem_of_getElem? (i := 19) rfl))) (by decide) (t := .int) (t' := .int) (by decide) (by decide))))
  have f20 := (f15.other W18 (Or.inr (slot_ne (Or.inr (hw _ (List.mem_of_getElem? (i := 23) rfl))) (Or.inr (hw _ (List.mem_of_getElem? (i := 19) rfl))) (by decide) (t := .int) (t' := .int) (by decide) (by decide))))
  have f21 := (f16.other W18 (Or.inr (slot_ne (Or.inr (hw _ (List.mem_of_getElem? (i := 25) rfl))) (Or.inr (hw _ (List.mem_of_getElem? (i := 19) rfl))) (by decide) (t := .int) (t' := .int) (by decide) (by decide))))
  have f22 := ((F0.same W12).other W18 (Or.inr (slot_ne (Or.inr (hw _ (List.mem_of_getElem? (i := 17) rfl))) (Or.inr (hw _ (List.mem_of_getElem? (i := 19) rfl))) (by decide) (t := (.object "com/example/cluster_protocol_models/clusterprotocolmodels/hermes/Message$Kind")) (t' := .int) (by decide) (by decide))))
  have z23 : n0 ≤ h18.size := (Nat.le_trans z17 (Keep.of_wr W18).1)
  obtain ⟨T24, h24, X24, e24, W24, st24⟩ := putF X18 hx hZ hown (host := "") (Or.inl (hw _ (List.mem_of_getElem? (i := 20) rfl))) Via.refl e18 f19 ((E1.wr W12).wr W18) (Or.inr ⟨(hw _ (List.mem_of_getElem? (i := 21) rfl)), rfl, hnm⟩) (hw _ (List.mem_of_getElem? (i := 8) rfl)) (ty := .int) (by decide) rfl rfl (g := (mkF m 16 #[.val (.ref a1), .val (.ref a2), .val (.int p3), .val (.int p4), .val (.int p5), .val (.int p6)] [(.int p4), (.ref a1)])) rfl rfl (hb hby d2_16)
  have N24 := Fr.snoc X24 N18 g_a1
  have K24 : Keep h0 h24 [a1] := K18.wr W24 (Or.inl (by simp))
  have f25 := (f20.other W24 (Or.inr (slot_ne (Or.inr (hw _ (List.mem_of_getElem? (i := 23) rfl))) (Or.inr (hw _ (List.mem_of_getElem? (i := 21) rfl))) (by decide) (t := .int) (t' := .int) (by decide) (by decide))))
  have f26 := (f21.other W24 (Or.inr (slot_ne (Or.inr (hw _ (List.mem_of_getElem? (i := 25) rfl))) (Or.inr (hw _ (List.mem_of_getElem? (i := 21) rfl))) (by decide) (t := .int) (t' := .int) (by decide) (by decide))))
  have f27 := (f22.other W24 (Or.inr (slot_ne (Or.inr (hw _ (List.mem_of_getElem? (i := 17) rfl))) (Or.inr (hw _ (List.mem_of_getElem? (i := 21) rfl))) (by decide) (t := (.object "com/example/cluster_protocol_models/clusterprotocolmodels/hermes/Message$Kind")) (t' := .int) (by decide) (by decide))))
  have f28 := ((f13.same W18).other W24 (Or.inr (slot_ne (Or.inr (hw _ (List.mem_of_getElem? (i := 19) rfl))) (Or.inr (hw _ (List.mem_of_getElem? (i := 21) rfl))) (by decide) (t := .int) (t' := .int) (by decide) (by decide))))
  have z29 : n0 ≤ h24.size := (Nat.le_trans z23 (Keep.of_wr W24).1)
  obtain ⟨T30, h30, X30, e30, W30, st30⟩ := putF X24 hx hZ hown (host := "") (Or.inl (hw _ (List.mem_of_getElem? (i := 22) rfl))) Via.refl e24 f25 (((E1.wr W12).wr W18).wr W24) (Or.inr ⟨(hw _ (List.mem_of_getElem? (i := 23) rfl)), rfl, hnm⟩) (hw _ (List.mem_of_getElem? (i := 8) rfl)) (ty := .int) (by decide) rfl rfl (g := (mkF m 22 #[.val (.ref a1), .val (.ref a2), .val (.int p3), .val (.int p4), .val (.int p5), .val (.int p6)] [(.int p5), (.ref a1)])) rfl rfl (hb hby d2_22)
  have N30 := Fr.snoc X30 N24 g_a1
  have K30 : Keep h0 h30 [a1] := K24.wr W30 (Or.inl (by simp))
  have f31 := (f26.other W30 (Or.inr (slot_ne (Or.inr (hw _ (List.mem_of_getElem? (i := 25) rfl))) (Or.inr (hw _ (List.mem_of_getElem? (i := 23) rfl))) (by decide) (t := .int) (t' := .int) (by decide) (by decide))))
  have f32 := ((((E1.wr W12).wr W18).wr W24).wr W30)
  have f33 := (f27.other W30 (Or.inr (slot_ne (Or.inr (hw _ (List.mem_of_getElem? (i := 17) rfl))) (Or.inr (hw _ (List.mem_of_getElem? (i := 23) rfl))) (by decide) (t := (.object "com/example/cluster_protocol_models/clusterprotocolmodels/hermes/Message$Kind")) (t' := .int) (by decide) (by decide))))
  have f34 := (f28.other W30 (Or.inr (slot_ne (Or.inr (hw _ (List.mem_of_getElem? (i := 19) rfl))) (Or.inr (hw _ (List.mem_of_getElem? (i := 23) rfl))) (by decide) (t := .int) (t' := .int) (by decide) (by decide))))
  have f35 := ((f19.same W24).other W30 (Or.inr (slot_ne (Or.inr (hw _ (List.mem_of_getElem? (i := 21) rfl))) (Or.inr (hw _ (List.mem_of_getElem? (i := 23) rfl))) (by decide) (t := .int) (t' := .int) (by decide) (by decide))))
  have z36 : n0 ≤ h30.size := (Nat.le_trans z29 (Keep.of_wr W30).1)
  obtain ⟨T37, h37, X37, e37, W37, st37⟩ := putF X30 hx hZ hown (host := "") (Or.inl (hw _ (List.mem_of_getElem? (i := 24) rfl))) Via.refl e30 f31 f32 (Or.inr ⟨(hw _ (List.mem_of_getElem? (i := 25) rfl)), rfl, hnm⟩) (hw _ (List.mem_of_getElem? (i := 8) rfl)) (ty := .int) (by decide) rfl rfl (g := (mkF m 28 #[.val (.ref a1), .val (.ref a2), .val (.int p3), .val (.int p4), .val (.int p5), .val (.int p6)] [(.int p6), (.ref a1)])) rfl rfl (hb hby d2_28)
  have N37 := Fr.snoc X37 N30 g_a1
  have K37 : Keep h0 h37 [a1] := K30.wr W37 (Or.inl (by simp))
  have f38 := (f33.other W37 (Or.inr (slot_ne (Or.inr (hw _ (List.mem_of_getElem? (i := 17) rfl))) (Or.inr (hw _ (List.mem_of_getElem? (i := 25) rfl))) (by decide) (t := (.object "com/example/cluster_protocol_models/clusterprotocolmodels/hermes/Message$Kind")) (t' := .int) (by decide) (by decide))))
  have f39 := (f34.other W37 (Or.inr (slot_ne (Or.inr (hw _ (List.mem_of_getElem? (i := 19) rfl))) (Or.inr (hw _ (List.mem_of_getElem? (i := 25) rfl))) (by decide) (t := .int) (t' := .int) (by decide) (by decide))))
  have f40 := (f35.other W37 (Or.inr (slot_ne (Or.inr (hw _ (List.mem_of_getElem? (i := 21) rfl))) (Or.inr (hw _ (List.mem_of_getElem? (i := 25) rfl))) (by decide) (t := .int) (t' := .int) (by decide) (by decide))))
  have f41 := ((f25.same W30).other W37 (Or.inr (slot_ne (Or.inr (hw _ (List.mem_of_getElem? (i := 23) rfl))) (Or.inr (hw _ (List.mem_of_getElem? (i := 25) rfl))) (by decide) (t := .int) (t' := .int) (by decide) (by decide))))
  have z42 : n0 ≤ h37.size := (Nat.le_trans z36 (Keep.of_wr W37).1)
  have pre43 : ∀ t, Steps p.tables e below (T37.setTop (mkF m 31 #[.val (.ref a1), .val (.ref a2), .val (.int p3), .val (.int p4), .val (.int p5), .val (.int p6)] [])) t → Steps p.tables e below (s₁.setTop (entryFrame m #[(.ref a1), (.ref a2), (.int p3), (.int p4), (.int p5), (.int p6)] 6)) t := by
    intro t kt
    refine pre0 _ ?_
    show Steps p.tables e below (s₁.setTop (mkF m 0 #[.val (.ref a1), .val (.ref a2), .val (.int p3), .val (.int p4), .val (.int p5), .val (.int p6)] [])) _
    refine XS.aloadN X0.here hx rfl (hb hby d2_0) rfl rfl ?_
    show Steps p.tables e below (s₁.setTop (mkF m 1 #[.val (.ref a1), .val (.ref a2), .val (.int p3), .val (.int p4), .val (.int p5), .val (.int p6)] [(.ref a1)])) _
    refine st11 _ ?_
    show Steps p.tables e below (T11.setTop (mkF m 4 #[.val (.ref a1), .val (.ref a2), .val (.int p3), .val (.int p4), .val (.int p5), .val (.int p6)] [])) _
    refine XS.aloadN X11.here hx rfl (hb hby d2_4) rfl rfl ?_
    show Steps p.tables e below (T11.setTop (mkF m 5 #[.val (.ref a1), .val (.ref a2), .val (.int p3), .val (.int p4), .val (.int p5), .val (.int p6)] [(.ref a1)])) _
    refine XS.aloadN X11.here hx rfl (hb hby d2_5) rfl rfl ?_
    show Steps p.tables e below (T11.setTop (mkF m 6 #[.val (.ref a1), .val (.ref a2), .val (.int p3), .val (.int p4), .val (.int p5), .val (.int p6)] [(.ref a2), (.ref a1)])) _
    refine st12 _ ?_
    show Steps p.tables e below (T12.setTop (mkF m 9 #[.val (.ref a1), .val (.ref a2), .val (.int p3), .val (.int p4), .val (.int p5), .val (.int p6)] [])) _
    refine XS.aloadN X12.here hx rfl (hb hby d2_9) rfl rfl ?_
    show Steps p.tables e below (T12.setTop (mkF m 10 #[.val (.ref a1), .val (.ref a2), .val (.int p3), .val (.int p4), .val (.int p5), .val (.int p6)] [(.ref a1)])) _
    refine XS.iloadN X12.here hx rfl (hb hby d2_10) rfl ?_
    show Steps p.tables e below (T12.setTop (mkF m 11 #[.val (.ref a1), .val (.ref a2), .val (.int p3), .val (.int p4), .val (.int p5), .val (.int p6)] [(.int p3), (.ref a1)])) _
    refine st18 _ ?_
    show Steps p.tables e below (T18.setTop (mkF m 14 #[.val (.ref a1), .val (.ref a2), .val (.int p3), .val (.int p4), .val (.int p5), .val (.int p6)] [])) _
    refine XS.aloadN X18.here hx rfl (hb hby d2_14) rfl rfl ?_
    show Steps p.tables e below (T18.setTop (mkF m 15 #[.val (.ref a1), .val (.ref a2), .val (.int p3), .val (.int p4), .val (.int p5), .val (.int p6)] [(.ref a1)])) _
    refine XS.iloadN X18.here hx rfl (hb hby d2_15) rfl ?_
    show Steps p.tables e below (T18.setTop (mkF m 16 #[.val (.ref a1), .val (.ref a2), .val (.int p3), .val (.int p4), .val (.int p5), .val (.int p6)] [(.int p4), (.ref a1)])) _
    refine st24 _ ?_
    show Steps p.tables e below (T24.setTop (mkF m 19 #[.val (.ref a1), .val (.ref a2), .val (.int p3), .val (.int p4), .val (.int p5), .val (.int p6)] [])) _
    refine XS.aloadN X24.here hx rfl (hb hby d2_19) rfl rfl ?_
    show Steps p.tables e below (T24.setTop (mkF m 20 #[.val (.ref a1), .val (.ref a2), .val (.int p3), .val (.int p4), .val (.int p5), .val (.int p6)] [(.ref a1)])) _
    refine XS.iload X24.here hx rfl (hb hby d2_20) rfl ?_
    show Steps p.tables e below (T24.setTop (mkF m 22 #[.val (.ref a1), .val (.ref a2), .val (.int p3), .val (.int p4), .val (.int p5), .val (.int p6)] [(.int p5), (.ref a1)])) _
    refine st30 _ ?_
    show Steps p.tables e below (T30.setTop (mkF m 25 #[.val (.ref a1), .val (.ref a2), .val (.int p3), .val (.int p4), .val (.int p5), .val (.int p6)] [])) _
    refine XS.aloadN X30.here hx rfl (hb hby d2_25) rfl rfl ?_
    show Steps p.tables e below (T30.setTop (mkF m 26 #[.val (.ref a1), .val (.ref a2), .val (.int p3), .val (.int p4), .val (.int p5), .val (.int p6)] [(.ref a1)])) _
    refine XS.iload X30.here hx rfl (hb hby d2_26) rfl ?_
    show Steps p.tables e below (T30.setTop (mkF m 28 #[.val (.ref a1), .val (.ref a2), .val (.int p3), .val (.int p4), .val (.int p5), .val (.int p6)] [(.int p6), (.ref a1)])) _
    refine st37 _ ?_
    exact kt
  obtain ⟨fs, hr, hrun, hended, hW, hsame⟩ := X37.leave (v := none) (fun _ => rfl)
  refine ⟨_, _, pre43 _ ?_, hrun, hended, _, _, rfl, ?_, ⟨_, rfl⟩, hW, hsame.mono (by decide) (by decide)⟩
  · show Steps p.tables e below (T37.setTop (mkF m 31 #[.val (.ref a1), .val (.ref a2), .val (.int p3), .val (.int p4), .val (.int p5), .val (.int p6)] [])) _
    exact X37.returnOut hx Bd.returns (hb hby d2_31) hr
  · show Q2 Z a1 a2 p3 p4 p5 p6 h0 n0 _ T37.heap _
    rw [e37]
    exact ⟨rfl, N37, K37, (f32.wr W37), f38, f39, f40, f41, (f31.same W37)⟩
theorem d4_0 : decode prog_97_method_1_code 0 = .ok (.aload_n 0, 1) := by decide +kernel
theorem d4_1 : decode prog_97_method_1_code 1 = .ok (.invokespecial 1, 3) := by decide +kernel
theorem d4_4 : decode prog_97_method_1_code 4 = .ok (.aload_n 0, 1) := by decide +kernel
theorem d4_5 : decode prog_97_method_1_code 5 = .ok (.iload_n 1, 1) := by decide +kernel
theorem d4_6 : decode prog_97_method_1_code 6 = .ok (.putfield 7, 3) := by decide +kernel
theorem d4_9 : decode prog_97_method_1_code 9 = .ok (.aload_n 0, 1) := by decide +kernel
theorem d4_10 : decode prog_97_method_1_code 10 = .ok (.iload_n 2, 1) := by decide +kernel
theorem d4_11 : decode prog_97_method_1_code 11 = .ok (.putfield 13, 3) := by decide +kernel
theorem d4_14 : decode prog_97_method_1_code 14 = .ok (.return_, 1) := by decide +kernel
theorem pn_4 : plainName "com/example/cluster_protocol_models/clusterprotocolmodels/hermes/Timestamp" = true := by first | (simp [plainName, overriddenIn]; done) | decide +kernel
theorem ef_4 (m : MethodId) (x0 : Addr) (x1 : Int32) (x2 : Int32) : entryFrame m #[(.ref x0), (.int x1), (.int x2)] 3 = mkF m 0 #[.val (.ref x0), .val (.int x1), .val (.int x2)] [] := by first | (simp [entryFrame, mkF, argsToLocals, Value.category]; done) | rfl
def Q4 (Z : State) (a1 : Addr) (p2 : Int32) (p3 : Int32) (h0 : Heap) (n0 : Nat) (v : Option Value) (h : Heap) (L : List Loc) : Prop := v = none ∧ Fr n0 L ∧ Keep h0 h [a1] ∧ Exa Z h a1 "com/example/cluster_protocol_models/clusterprotocolmodels/hermes/Timestamp" ∧ Fld Z h a1 "com/example/cluster_protocol_models/clusterprotocolmodels/hermes/Timestamp" "version" "I" (.int p2) ∧ Fld Z h a1 "com/example/cluster_protocol_models/clusterprotocolmodels/hermes/Timestamp" "tieBreaker" "I" (.int p3)
set_option maxRecDepth 65536 in
set_option maxHeartbeats 40000000 in
theorem rm4 (l : Launch) (Z : State) (a0 : Array Value) (hw : ∀ d ∈ tables_1, d.before a0 Z = true) (ws : List Jvm.Cond) (a1 : Addr) (p2 : Int32) (p3 : Int32) (h0 : Heap) (n0 : Nat) (Z0 : n0 ≤ h0.size) (F0 : Fld Z h0 a1 "com/example/cluster_protocol_models/clusterprotocolmodels/hermes/Timestamp" "version" "I" (.int (0 : Int32))) (F1 : Fld Z h0 a1 "com/example/cluster_protocol_models/clusterprotocolmodels/hermes/Timestamp" "tieBreaker" "I" (.int (0 : Int32))) (E1 : Exa Z h0 a1 "com/example/cluster_protocol_models/clusterprotocolmodels/hermes/Timestamp") (g_a1 : n0 ≤ a1) :
    MetFree l (⟨"com/example/cluster_protocol_models/clusterprotocolmodels/hermes/Timestamp", "<init>", "(II)V"⟩ : MethodName) (head1 (Jvm.Cond.code (⟨"com/example/cluster_protocol_models/clusterprotocolmodels/hermes/Timestamp", "<init>", "(II)V"⟩ : MethodName) prog_97_method_1_code 3 none :: ws) ({ frames := 1, cells := 0, slots := 0, locals := 12 } : Room)) (fun a U => a = #[(.ref a1), (.int p2), (.int p3)] ∧ Z.Warmed39 U.vm ∧ U.heap = h0) (fun _ _ _ _ _ => True) (fun _ U o U' => ∃ v L, o = .returned v ∧ Q4 Z a1 p2 p3 h0 n0 v U'.heap L ∧ FrameEnd U o U' L ({ frames := 1, cells := 0, slots := 0, locals := 12 } : Room).cells ({ frames := 1, cells := 0, slots := 0, locals := 12 } : Room).slots) := by
  refine MetFree.of_bodySF (plainFor_of_name pn_4) hisR ?_
  intro p e s m args below meth c s₁ Bd hml0 hP hK
  obtain ⟨rfl, hZ, hh⟩ := hP
  have hx := Bd.exec
  have hby := Bd.bytes
  have hml : c.maxLocals = 3 := hml0
  have hown : s.vm.findClass "com/example/cluster_protocol_models/clusterprotocolmodels/hermes/Timestamp" = some m.cls := findClass_of_methodNamed Bd.named
  have hnm := (name_of_methodNamed Bd.named Bd.method).1
  have X0 : Stand p l e ({ frames := 1, cells := 0, slots := 0, locals := 12 } : Room) s m #[(.ref a1), (.int p2), (.int p3)] below meth c s₁ [] 0 0 := Stand.of_body Bd
  have e0 : s₁.heap = h0 := by rw [← hh, Bd.state]; rfl
  have N0 := Fr.nil n0
  have pre0 : ∀ t, Steps p.tables e below (s₁.setTop (mkF m 0 #[.val (.ref a1), .val (.int p2), .val (.int p3)] [])) t → Steps p.tables e below (s₁.setTop (entryFrame m #[(.ref a1), (.int p2), (.int p3)] 3)) t := fun t k => castTop (ef_4 m a1 p2 p3) k
  obtain ⟨T44, X44, e44, st44⟩ := initO X0 hx hZ hown (hw _ (List.mem_of_getElem? (i := 32) rfl)) (hw _ (List.mem_of_getElem? (i := 14) rfl)) (hw _ (List.mem_of_getElem? (i := 15) rfl)) e0 (g := (mkF m 1 #[.val (.ref a1), .val (.int p2), .val (.int p3)] [(.ref a1)])) rfl (by rw [hml]; rfl) rfl (hb hby d4_1) (by decide) (W := 0) (by show 2 * 0 + _ ≤ _; exact Nat.le_of_eq rfl) (by decide)
  obtain ⟨T45, h45, X45, e45, W45, st45⟩ := putF X44 hx hZ hown (host := "") (Or.inl (hw _ (List.mem_of_getElem? (i := 33) rfl))) Via.refl e44 F0 E1 (Or.inr ⟨(hw _ (List.mem_of_getElem? (i := 34) rfl)), rfl, hnm⟩) (hw _ (List.mem_of_getElem? (i := 27) rfl)) (ty := .int) (by decide) rfl rfl (g := (mkF m 6 #[.val (.ref a1), .val (.int p2), .val (.int p3)] [(.int p2), (.ref a1)])) rfl rfl (hb hby d4_6)
  have N45 := Fr.snoc X45 N0 g_a1
  have K45 : Keep h0 h45 [a1] := (Keep.refl h0 [a1]).wr W45 (Or.inl (by simp))
  have f46 := (F1.other W45 (Or.inr (slot_ne (Or.inr (hw _ (List.mem_of_getElem? (i := 36) rfl))) (Or.inr (hw _ (List.mem_of_getElem? (i := 34) rfl))) (by decide) (t := .int) (t' := .int) (by decide) (by decide))))
  have z47 : n0 ≤ h45.size := (Nat.le_trans Z0 (Keep.of_wr W45).1)
  obtain ⟨T48, h48, X48, e48, W48, st48⟩ := putF X45 hx hZ hown (host := "") (Or.inl (hw _ (List.mem_of_getElem? (i := 35) rfl))) Via.refl e45 f46 (E1.wr W45) (Or.inr ⟨(hw _ (List.mem_of_getElem? (i := 36) rfl)), rfl, hnm⟩) (hw _ (List.mem_of_getElem? (i := 27) rfl)) (ty := .int) (by decide) rfl rfl (g := (mkF m 11 #[.val (.ref a1), .val (.int p2), .val (.int p3)] [(.int p3), (.ref a1)])) rfl rfl (hb hby d4_11)
  have N48 := Fr.snoc X48 N45 g_a1
  have K48 : Keep h0 h48 [a1] := K45.wr W48 (Or.inl (by simp))
  have f49 := ((F0.same W45).other W48 (Or.inr (slot_ne (Or.inr (hw _ (List.mem_of_getElem? (i := 34) rfl))) (Or.inr (hw _ (List.mem_of_getElem? (i := 36) rfl))) (by decide) (t := .int) (t' := .int) (by decide) (by decide))))
  have z50 : n0 ≤ h48.size := (Nat.le_trans z47 (Keep.of_wr W48).1)
  have pre51 : ∀ t, Steps p.tables e below (T48.setTop (mkF m 14 #[.val (.ref a1), .val (.int p2), .val (.int p3)] [])) t → Steps p.tables e below (s₁.setTop (entryFrame m #[(.ref a1), (.int p2), (.int p3)] 3)) t := by
    intro t kt
    refine pre0 _ ?_
    show Steps p.tables e below (s₁.setTop (mkF m 0 #[.val (.ref a1), .val (.int p2), .val (.int p3)] [])) _
    refine XS.aloadN X0.here hx rfl (hb hby d4_0) rfl rfl ?_
    show Steps p.tables e below (s₁.setTop (mkF m 1 #[.val (.ref a1), .val (.int p2), .val (.int p3)] [(.ref a1)])) _
    refine st44 _ ?_
    show Steps p.tables e below (T44.setTop (mkF m 4 #[.val (.ref a1), .val (.int p2), .val (.int p3)] [])) _
    refine XS.aloadN X44.here hx rfl (hb hby d4_4) rfl rfl ?_
    show Steps p.tables e below (T44.setTop (mkF m 5 #[.val (.ref a1), .val (.int p2), .val (.int p3)] [(.ref a1)])) _
    refine XS.iloadN X44.here hx rfl (hb hby d4_5) rfl ?_
    show Steps p.tables e below (T44.setTop (mkF m 6 #[.val (.ref a1), .val (.int p2), .val (.int p3)] [(.int p2), (.ref a1)])) _
    refine st45 _ ?_
    show Steps p.tables e below (T45.setTop (mkF m 9 #[.val (.ref a1), .val (.int p2), .val (.int p3)] [])) _
    refine XS.aloadN X45.here hx rfl (hb hby d4_9) rfl rfl ?_
    show Steps p.tables e below (T45.setTop (mkF m 10 #[.val (.ref a1), .val (.int p2), .val (.int p3)] [(.ref a1)])) _
    refine XS.iloadN X45.here hx rfl (hb hby d4_10) rfl ?_
    show Steps p.tables e below (T45.setTop (mkF m 11 #[.val (.ref a1), .val (.int p2), .val (.int p3)] [(.int p3), (.ref a1)])) _
    refine st48 _ ?_
    exact kt
  obtain ⟨fs, hr, hrun, hended, hW, hsame⟩ := X48.leave (v := none) (fun _ => rfl)
  refine ⟨_, _, pre51 _ ?_, hrun, hended, _, _, rfl, ?_, ⟨_, rfl⟩, hW, hsame.mono (by decide) (by decide)⟩
  · show Steps p.tables e below (T48.setTop (mkF m 14 #[.val (.ref a1), .val (.int p2), .val (.int p3)] [])) _
    exact X48.returnOut hx Bd.returns (hb hby d4_14) hr
  · show Q4 Z a1 p2 p3 h0 n0 _ T48.heap _
    rw [e48]
    exact ⟨rfl, N48, K48, ((E1.wr W45).wr W48), f49, (f46.same W48)⟩
theorem d5_0 : decode prog_92_method_10_code 0 = .ok (.aload_n 1, 1) := by decide +kernel
theorem d5_1 : decode prog_92_method_10_code 1 = .ok (.instanceof 8, 3) := by decide +kernel
theorem d5_4 : decode prog_92_method_10_code 4 = .ok (.ifCond .eq 67, 3) := by decide +kernel
theorem d5_71 : decode prog_92_method_10_code 71 = .ok (.iconst 0, 1) := by decide +kernel
theorem d5_72 : decode prog_92_method_10_code 72 = .ok (.ireturn, 1) := by decide +kernel
theorem pn_5 : plainName "com/example/cluster_protocol_models/clusterprotocolmodels/hermes/Message" = true := by first | (simp [plainName, overriddenIn]; done) | decide +kernel
theorem ef_5n (m : MethodId) (x0 : Addr) : entryFrame m #[(.ref x0), .null] 3 = mkF m 0 #[.val (.ref x0), .val .null, .unset] [] := by first | (simp [entryFrame, mkF, argsToLocals, Value.category]; done) | rfl
def Q5n (Z : State) (a1 : Addr) (h0 : Heap) (n0 : Nat) (v : Option Value) (h : Heap) (L : List Loc) : Prop := v = some (.int (0 : Int32)) ∧ Fr n0 L ∧ h = h0
set_option maxRecDepth 65536 in
set_option maxHeartbeats 40000000 in
theorem rm5n (l : Launch) (Z : State) (a0 : Array Value) (hw : ∀ d ∈ tables_1, d.before a0 Z = true) (ws : List Jvm.Cond) (a1 : Addr) (h0 : Heap) (n0 : Nat) (Z0 : n0 ≤ h0.size) :
    MetFree l (⟨"com/example/cluster_protocol_models/clusterprotocolmodels/hermes/Message", "equals", "(Ljava/lang/Object;)Z"⟩ : MethodName) (head1 (Jvm.Cond.code (⟨"com/example/cluster_protocol_models/clusterprotocolmodels/hermes/Message", "equals", "(Ljava/lang/Object;)Z"⟩ : MethodName) prog_92_method_10_code 3 (some .boolean) :: ws) ({ frames := 0, cells := 0, slots := 0, locals := 0 } : Room)) (fun a U => a = #[(.ref a1), .null] ∧ Z.Warmed39 U.vm ∧ U.heap = h0) (fun _ _ _ _ _ => True) (fun _ U o U' => ∃ v L, o = .returned v ∧ Q5n Z a1 h0 n0 v U'.heap L ∧ FrameEnd U o U' L ({ frames := 0, cells := 0, slots := 0, locals := 0 } : Room).cells ({ frames := 0, cells := 0, slots := 0, locals := 0 } : Room).slots) := by
  refine MetFree.of_bodySF (plainFor_of_name pn_5) hisR ?_
  intro p e s m args below meth c s₁ Bd hml0 hP hK
  obtain ⟨rfl, hZ, hh⟩ := hP
  have hx := Bd.exec
  have hby := Bd.bytes
  have hml : c.maxLocals = 3 := hml0
  have hown : s.vm.findClass "com/example/cluster_protocol_models/clusterprotocolmodels/hermes/Message" = some m.cls := findClass_of_methodNamed Bd.named
  have hnm := (name_of_methodNamed Bd.named Bd.method).1
  have X0 : Stand p l e ({ frames := 0, cells := 0, slots := 0, locals := 0 } : Room) s m #[(.ref a1), .null] below meth c s₁ [] 0 0 := Stand.of_body Bd
  have e0 : s₁.heap = h0 := by rw [← hh, Bd.state]; rfl
  have N0 := Fr.nil n0
  have pre0 : ∀ t, Steps p.tables e below (s₁.setTop (mkF m 0 #[.val (.ref a1), .val .null, .unset] [])) t → Steps p.tables e below (s₁.setTop (entryFrame m #[(.ref a1), .null] 3)) t := fun t k => castTop (ef_5n m a1) k
  have pre52 : ∀ t, Steps p.tables e below (s₁.setTop (mkF m 72 #[.val (.ref a1), .val .null, .unset] [(.int (0 : Int32))])) t → Steps p.tables e below (s₁.setTop (entryFrame m #[(.ref a1), .null] 3)) t := by
    intro t kt
    refine pre0 _ ?_
    show Steps p.tables e below (s₁.setTop (mkF m 0 #[.val (.ref a1), .val .null, .unset] [])) _
    refine XS.aloadN X0.here hx rfl (hb hby d5_0) rfl rfl ?_
    show Steps p.tables e below (s₁.setTop (mkF m 1 #[.val (.ref a1), .val .null, .unset] [.null])) _
    refine X0.instanceofNull hx (g := (mkF m 1 #[.val (.ref a1), .val .null, .unset] [.null])) rfl rfl (hb hby d5_1) _ ?_
    show Steps p.tables e below (s₁.setTop (mkF m 4 #[.val (.ref a1), .val .null, .unset] [(.int (0 : Int32))])) _
    refine XS.ifYes X0.here hx rfl (pc0 := 4) (pc' := 71) rfl (hb hby d5_4) rfl ((if0 _ _).trans (teq (by decide : (0 : Int32) = (0 : Int32))).1) (by decide) (by decide) ?_
    show Steps p.tables e below (s₁.setTop (mkF m 71 #[.val (.ref a1), .val .null, .unset] [])) _
    refine XS.iconst X0.here hx rfl (hb hby d5_71) ?_
    exact kt
  obtain ⟨fs, hr, hrun, hended, hW, hsame⟩ := X0.leave (v := some (.int (0 : Int32))) (fun h => by rw [Bd.returns] at h; cases h)
  refine ⟨_, _, pre52 _ ?_, hrun, hended, _, _, rfl, ?_, ⟨_, rfl⟩, hW, hsame.mono (by decide) (by decide)⟩
  · show Steps p.tables e below (s₁.setTop (mkF m 72 #[.val (.ref a1), .val .null, .unset] [(.int (0 : Int32))])) _
    exact retN X0 hx (t := .boolean) Bd.returns (by simp) (hb hby d5_72) hr
  · show Q5n Z a1 h0 n0 _ s₁.heap _
    rw [e0]
    exact ⟨rfl, N0, rfl⟩
theorem ef_5t (m : MethodId) (x0 : Addr) (x1 : Addr) : entryFrame m #[(.ref x0), (.ref x1)] 3 = mkF m 0 #[.val (.ref x0), .val (.ref x1), .unset] [] := by first | (simp [entryFrame, mkF, argsToLocals, Value.category]; done) | rfl
def Q5t (Z : State) (a1 : Addr) (a2 : Addr) (h0 : Heap) (n0 : Nat) (v : Option Value) (h : Heap) (L : List Loc) : Prop := v = some (.int (0 : Int32)) ∧ Fr n0 L ∧ h = h0
set_option maxRecDepth 65536 in
set_option maxHeartbeats 40000000 in
theorem rm5t (l : Launch) (Z : State) (a0 : Array Value) (hw : ∀ d ∈ tables_1, d.before a0 Z = true) (ws : List Jvm.Cond) (a1 : Addr) (a2 : Addr) (h0 : Heap) (n0 : Nat) (Z0 : n0 ≤ h0.size) (E2 : Exa Z h0 a2 "com/example/cluster_protocol_models/clusterprotocolmodels/hermes/Timestamp") :
    MetFree l (⟨"com/example/cluster_protocol_models/clusterprotocolmodels/hermes/Message", "equals", "(Ljava/lang/Object;)Z"⟩ : MethodName) (head1 (Jvm.Cond.code (⟨"com/example/cluster_protocol_models/clusterprotocolmodels/hermes/Message", "equals", "(Ljava/lang/Object;)Z"⟩ : MethodName) prog_92_method_10_code 3 (some .boolean) :: ws) ({ frames := 0, cells := 0, slots := 0, locals := 0 } : Room)) (fun a U => a = #[(.ref a1), (.ref a2)] ∧ Z.Warmed39 U.vm ∧ U.heap = h0) (fun _ _ _ _ _ => True) (fun _ U o U' => ∃ v L, o = .returned v ∧ Q5t Z a1 a2 h0 n0 v U'.heap L ∧ FrameEnd U o U' L ({ frames := 0, cells := 0, slots := 0, locals := 0 } : Room).cells ({ frames := 0, cells := 0, slots := 0, locals := 0 } : Room).slots) := by
  refine MetFree.of_bodySF (plainFor_of_name pn_5) hisR ?_
  intro p e s m args below meth c s₁ Bd hml0 hP hK
  obtain ⟨rfl, hZ, hh⟩ := hP
  have hx := Bd.exec
  have hby := Bd.bytes
  have hml : c.maxLocals = 3 := hml0
  have hown : s.vm.findClass "com/example/cluster_protocol_models/clusterprotocolmodels/hermes/Message" = some m.cls := findClass_of_methodNamed Bd.named
  have hnm := (name_of_methodNamed Bd.named Bd.method).1
  have X0 : Stand p l e ({ frames := 0, cells := 0, slots := 0, locals := 0 } : Room) s m #[(.ref a1), (.ref a2)] below meth c s₁ [] 0 0 := Stand.of_body Bd
  have e0 : s₁.heap = h0 := by rw [← hh, Bd.state]; rfl
  have N0 := Fr.nil n0
  have pre0 : ∀ t, Steps p.tables e below (s₁.setTop (mkF m 0 #[.val (.ref a1), .val (.ref a2), .unset] [])) t → Steps p.tables e below (s₁.setTop (entryFrame m #[(.ref a1), (.ref a2)] 3)) t := fun t k => castTop (ef_5t m a1 a2) k
  obtain ⟨T53, X53, e53, st53⟩ := instNo X0 hx hZ hown (hw _ (List.mem_of_getElem? (i := 42) rfl)) e0 E2 (own_not (hw _ (List.mem_of_getElem? (i := 48) rfl)) (hw _ (List.mem_of_getElem? (i := 49) rfl)) (hw _ (List.mem_of_getElem? (i := 8) rfl)) (by decide) (by decide)) (g := (mkF m 1 #[.val (.ref a1), .val (.ref a2), .unset] [(.ref a2)])) rfl rfl (hb hby d5_1)
  have pre54 : ∀ t, Steps p.tables e below (T53.setTop (mkF m 72 #[.val (.ref a1), .val (.ref a2), .unset] [(.int (0 : Int32))])) t → Steps p.tables e below (s₁.setTop (entryFrame m #[(.ref a1), (.ref a2)] 3)) t := by
    intro t kt
    refine pre0 _ ?_
    show Steps p.tables e below (s₁.setTop (mkF m 0 #[.val (.ref a1), .val (.ref a2), .unset] [])) _
    refine XS.aloadN X0.here hx rfl (hb hby d5_0) rfl rfl ?_
    show Steps p.tables e below (s₁.setTop (mkF m 1 #[.val (.ref a1), .val (.ref a2), .unset] [(.ref a2)])) _
    refine st53 _ ?_
    show Steps p.tables e below (T53.setTop (mkF m 4 #[.val (.ref a1), .val (.ref a2), .unset] [(.int (0 : Int32))])) _
    refine XS.ifYes X53.here hx rfl (pc0 := 4) (pc' := 71) rfl (hb hby d5_4) rfl ((if0 _ _).trans (teq (by decide : (0 : Int32) = (0 : Int32))).1) (by decide) (by decide) ?_
    show Steps p.tables e below (T53.setTop (mkF m 71 #[.val (.ref a1), .val (.ref a2), .unset] [])) _
    refine XS.iconst X53.here hx rfl (hb hby d5_71) ?_
    exact kt
  obtain ⟨fs, hr, hrun, hended, hW, hsame⟩ := X53.leave (v := some (.int (0 : Int32))) (fun h => by rw [Bd.returns] at h; cases h)
  refine ⟨_, _, pre54 _ ?_, hrun, hended, _, _, rfl, ?_, ⟨_, rfl⟩, hW, hsame.mono (by decide) (by decide)⟩
  · show Steps p.tables e below (T53.setTop (mkF m 72 #[.val (.ref a1), .val (.ref a2), .unset] [(.int (0 : Int32))])) _
    exact retN X53 hx (t := .boolean) Bd.returns (by simp) (hb hby d5_72) hr
  · show Q5t Z a1 a2 h0 n0 _ T53.heap _
    rw [e53]
    exact ⟨rfl, N0, rfl⟩
def own_eq (k1 : Addr) (s1 e1' v1 t1 : Int32) (k2 : Addr) (s2 e2' v2 t2 : Int32) : Int32 := if k1 = k2 then (if s1 = s2 then (if e1' = e2' then (if v1 = v2 then (if t1 = t2 then (1 : Int32) else (0 : Int32)) else (0 : Int32)) else (0 : Int32)) else (0 : Int32)) else (0 : Int32)
theorem own_eqself (k : Addr) (s e v t : Int32) : own_eq k s e v t k s e v t = 1 := by
  unfold own_eq
  rw [if_pos rfl, if_pos rfl, if_pos rfl, if_pos rfl, if_pos rfl]
theorem own_eqsymm (k1 : Addr) (s1 e1' v1 t1 : Int32) (k2 : Addr) (s2 e2' v2 t2 : Int32) : own_eq k2 s2 e2' v2 t2 k1 s1 e1' v1 t1 = own_eq k1 s1 e1' v1 t1 k2 s2 e2' v2 t2 := by
  unfold own_eq
  simp only [eq_comm (a := k2), eq_comm (a := s2), eq_comm (a := e2'), eq_comm (a := v2), eq_comm (a := t2)]
theorem d5_7 : decode prog_92_method_10_code 7 = .ok (.aload_n 1, 1) := by decide +kernel
theorem d5_8 : decode prog_92_method_10_code 8 = .ok (.checkcast 8, 3) := by decide +kernel
theorem d5_11 : decode prog_92_method_10_code 11 = .ok (.astore_n 2, 1) := by decide +kernel
theorem d5_12 : decode prog_92_method_10_code 12 = .ok (.aload_n 0, 1) := by decide +kernel
theorem d5_13 : decode prog_92_method_10_code 13 = .ok (.getfield 7, 3) := by decide +kernel
theorem d5_16 : decode prog_92_method_10_code 16 = .ok (.aload_n 2, 1) := by decide +kernel
theorem d5_17 : decode prog_92_method_10_code 17 = .ok (.getfield 7, 3) := by decide +kernel
theorem d5_20 : decode prog_92_method_10_code 20 = .ok (.if_acmp .ne 51, 3) := by decide +kernel
theorem d5_23 : decode prog_92_method_10_code 23 = .ok (.aload_n 0, 1) := by decide +kernel
theorem d5_24 : decode prog_92_method_10_code 24 = .ok (.getfield 13, 3) := by decide +kernel
theorem d5_27 : decode prog_92_method_10_code 27 = .ok (.aload_n 2, 1) := by decide +kernel
theorem d5_28 : decode prog_92_method_10_code 28 = .ok (.getfield 13, 3) := by decide +kernel
theorem d5_31 : decode prog_92_method_10_code 31 = .ok (.if_icmp .ne 40, 3) := by decide +kernel
theorem d5_34 : decode prog_92_method_10_code 34 = .ok (.aload_n 0, 1) := by decide +kernel
theorem d5_35 : decode prog_92_method_10_code 35 = .ok (.getfield 17, 3) := by decide +kernel
theorem d5_38 : decode prog_92_method_10_code 38 = .ok (.aload_n 2, 1) := by decide +kernel
theorem d5_39 : decode prog_92_method_10_code 39 = .ok (.getfield 17, 3) := by decide +kernel
theorem d5_42 : decode prog_92_method_10_code 42 = .ok (.if_icmp .ne 29, 3) := by decide +kernel
theorem d5_45 : decode prog_92_method_10_code 45 = .ok (.aload_n 0, 1) := by decide +kernel
theorem d5_46 : decode prog_92_method_10_code 46 = .ok (.getfield 20, 3) := by decide +kernel
theorem d5_49 : decode prog_92_method_10_code 49 = .ok (.aload_n 2, 1) := by decide +kernel
theorem d5_50 : decode prog_92_method_10_code 50 = .ok (.getfield 20, 3) := by decide +kernel
theorem d5_53 : decode prog_92_method_10_code 53 = .ok (.if_icmp .ne 18, 3) := by decide +kernel
theorem d5_56 : decode prog_92_method_10_code 56 = .ok (.aload_n 0, 1) := by decide +kernel
theorem d5_57 : decode prog_92_method_10_code 57 = .ok (.getfield 23, 3) := by decide +kernel
theorem d5_60 : decode prog_92_method_10_code 60 = .ok (.aload_n 2, 1) := by decide +kernel
theorem d5_61 : decode prog_92_method_10_code 61 = .ok (.getfield 23, 3) := by decide +kernel
theorem d5_64 : decode prog_92_method_10_code 64 = .ok (.if_icmp .ne 7, 3) := by decide +kernel
theorem d5_67 : decode prog_92_method_10_code 67 = .ok (.iconst 1, 1) := by decide +kernel
theorem d5_68 : decode prog_92_method_10_code 68 = .ok (.goto 4, 3) := by decide +kernel
def Q5m (Z : State) (a1 : Addr) (a2 : Addr) (k1 : Addr) (s1 : Int32) (e1' : Int32) (v1 : Int32) (t1 : Int32) (k2 : Addr) (s2 : Int32) (e2' : Int32) (v2 : Int32) (t2 : Int32) (h0 : Heap) (n0 : Nat) (v : Option Value) (h : Heap) (L : List Loc) : Prop := v = some (.int (own_eq k1 s1 e1' v1 t1 k2 s2 e2' v2 t2)) ∧ Fr n0 L ∧ h = h0
set_option maxRecDepth 65536 in
set_option maxHeartbeats 40000000 in
theorem rm5m (l : Launch) (Z : State) (a0 : Array Value) (hw : ∀ d ∈ tables_1, d.before a0 Z = true) (ws : List Jvm.Cond) (a1 : Addr) (a2 : Addr) (k1 : Addr) (s1 : Int32) (e1' : Int32) (v1 : Int32) (t1 : Int32) (k2 : Addr) (s2 : Int32) (e2' : Int32) (v2 : Int32) (t2 : Int32) (h0 : Heap) (n0 : Nat) (Z0 : n0 ≤ h0.size) (F0 : Fld Z h0 a1 "com/example/cluster_protocol_models/clusterprotocolmodels/hermes/Message" "kind" "Lcom/example/cluster_protocol_models/clusterprotocolmodels/hermes/Message$Kind;" (.ref k1)) (F1 : Fld Z h0 a1 "com/example/cluster_protocol_models/clusterprotocolmodels/hermes/Message" "sender" "I" (.int s1)) (F2 : Fld Z h0 a1 "com/example/cluster_protocol_models/clusterprotocolmodels/hermes/Message" "epoch" "I" (.int e1')) (F3 : Fld Z h0 a1 "com/example/cluster_protocol_models/clusterprotocolmodels/hermes/Message" "version" "I" (.int v1)) (F4 : Fld Z h0 a1 "com/example/cluster_protocol_models/clusterprotocolmodels/hermes/Message" "tieBreaker" "I" (.int t1)) (G0 : Fld Z h0 a2 "com/example/cluster_protocol_models/clusterprotocolmodels/hermes/Message" "kind" "Lcom/example/cluster_protocol_models/clusterprotocolmodels/hermes/Message$Kind;" (.ref k2)) (G1 : Fld Z h0 a2 "com/example/cluster_protocol_models/clusterprotocolmodels/hermes/Message" "sender" "I" (.int s2)) (G2 : Fld Z h0 a2 "com/example/cluster_protocol_models/clusterprotocolmodels/hermes/Message" "epoch" "I" (.int e2')) (G3 : Fld Z h0 a2 "com/example/cluster_protocol_models/clusterprotocolmodels/hermes/Message" "version" "I" (.int v2)) (G4 : Fld Z h0 a2 "com/example/cluster_protocol_models/clusterprotocolmodels/hermes/Message" "tieBreaker" "I" (.int t2)) (E2 : Exa Z h0 a2 "com/example/cluster_protocol_models/clusterprotocolmodels/hermes/Message") :
    MetFree l (⟨"com/example/cluster_protocol_models/clusterprotocolmodels/hermes/Message", "equals", "(Ljava/lang/Object;)Z"⟩ : MethodName) (head1 (Jvm.Cond.code (⟨"com/example/cluster_protocol_models/clusterprotocolmodels/hermes/Message", "equals", "(Ljava/lang/Object;)Z"⟩ : MethodName) prog_92_method_10_code 3 (some .boolean) :: ws) ({ frames := 0, cells := 0, slots := 0, locals := 0 } : Room)) (fun a U => a = #[(.ref a1), (.ref a2)] ∧ Z.Warmed39 U.vm ∧ U.heap = h0) (fun _ _ _ _ _ => True) (fun _ U o U' => ∃ v L, o = .returned v ∧ Q5m Z a1 a2 k1 s1 e1' v1 t1 k2 s2 e2' v2 t2 h0 n0 v U'.heap L ∧ FrameEnd U o U' L ({ frames := 0, cells := 0, slots := 0, locals := 0 } : Room).cells ({ frames := 0, cells := 0, slots := 0, locals := 0 } : Room).slots) := by
  refine MetFree.of_bodySF (plainFor_of_name pn_5) hisR ?_
  intro p e s m args below meth c s₁ Bd hml0 hP hK
  obtain ⟨rfl, hZ, hh⟩ := hP
  have hx := Bd.exec
  have hby := Bd.bytes
  have hml : c.maxLocals = 3 := hml0
  have hown : s.vm.findClass "com/example/cluster_protocol_models/clusterprotocolmodels/hermes/Message" = some m.cls := findClass_of_methodNamed Bd.named
  have hnm := (name_of_methodNamed Bd.named Bd.method).1
  have X0 : Stand p l e ({ frames := 0, cells := 0, slots := 0, locals := 0 } : Room) s m #[(.ref a1), (.ref a2)] below meth c s₁ [] 0 0 := Stand.of_body Bd
  have e0 : s₁.heap = h0 := by rw [← hh, Bd.state]; rfl
  have N0 := Fr.nil n0
  have pre0 : ∀ t, Steps p.tables e below (s₁.setTop (mkF m 0 #[.val (.ref a1), .val (.ref a2), .unset] [])) t → Steps p.tables e below (s₁.setTop (entryFrame m #[(.ref a1), (.ref a2)] 3)) t := fun t k => castTop (ef_5t m a1 a2) k
  obtain ⟨T55, X55, e55, st55⟩ := instY X0 hx hZ hown (hw _ (List.mem_of_getElem? (i := 42) rfl)) e0 (Ins.self E2) (g := (mkF m 1 #[.val (.ref a1), .val (.ref a2), .unset] [(.ref a2)])) rfl rfl (hb hby d5_1)
  obtain ⟨T56, X56, e56, st56⟩ := castY X55 hx hZ hown (hw _ (List.mem_of_getElem? (i := 42) rfl)) e55 (Ins.self E2) (g := (mkF m 8 #[.val (.ref a1), .val (.ref a2), .unset] [(.ref a2)])) rfl rfl (hb hby d5_8)
  obtain ⟨T57, X57, e57, st57⟩ := getF X56 hx hZ hown (host := "") (Or.inl (hw _ (List.mem_of_getElem? (i := 16) rfl))) Via.refl e56 F0 (g := (mkF m 13 #[.val (.ref a1), .val (.ref a2), .val (.ref a2)] [(.ref a1)])) rfl rfl (hb hby d5_13)
  obtain ⟨T58, X58, e58, st58⟩ := getF X57 hx hZ hown (host := "") (Or.inl (hw _ (List.mem_of_getElem? (i := 16) rfl))) Via.refl e57 G0 (g := (mkF m 17 #[.val (.ref a1), .val (.ref a2), .val (.ref a2)] [(.ref a2), (.ref k1)])) rfl rfl (hb hby d5_17)
  have pre59 : ∀ t, Steps p.tables e below (T58.setTop (mkF m 20 #[.val (.ref a1), .val (.ref a2), .val (.ref a2)] [(.ref k2), (.ref k1)])) t → Steps p.tables e below (s₁.setTop (entryFrame m #[(.ref a1), (.ref a2)] 3)) t := by
    intro t kt
    refine pre0 _ ?_
    show Steps p.tables e below (s₁.setTop (mkF m 0 #[.val (.ref a1), .val (.ref a2), .unset] [])) _
    refine XS.aloadN X0.here hx rfl (hb hby d5_0) rfl rfl ?_
    show Steps p.tables e below (s₁.setTop (mkF m 1 #[.val (.ref a1), .val (.ref a2), .unset] [(.ref a2)])) _
    refine st55 _ ?_
    show Steps p.tables e below (T55.setTop (mkF m 4 #[.val (.ref a1), .val (.ref a2), .unset] [(.int (1 : Int32))])) _
    refine XS.ifNo X55.here hx rfl (hb hby d5_4) rfl ((if0 _ _).trans (feq (by decide : ¬ ((1 : Int32) = (0 : Int32)))).1) ?_
    show Steps p.tables e below (T55.setTop (mkF m 7 #[.val (.ref a1), .val (.ref a2), .unset] [])) _
    refine XS.aloadN X55.here hx rfl (hb hby d5_7) rfl rfl ?_
    show Steps p.tables e below (T55.setTop (mkF m 8 #[.val (.ref a1), .val (.ref a2), .unset] [(.ref a2)])) _
    refine st56 _ ?_
    show Steps p.tables e below (T56.setTop (mkF m 11 #[.val (.ref a1), .val (.ref a2), .unset] [(.ref a2)])) _
    refine XS.astoreN X56.here hx rfl (hb hby d5_11) rfl rfl (l' := #[.val (.ref a1), .val (.ref a2), .val (.ref a2)]) rfl ?_
    show Steps p.tables e below (T56.setTop (mkF m 12 #[.val (.ref a1), .val (.ref a2), .val (.ref a2)] [])) _
    refine XS.aloadN X56.here hx rfl (hb hby d5_12) rfl rfl ?_
    show Steps p.tables e below (T56.setTop (mkF m 13 #[.val (.ref a1), .val (.ref a2), .val (.ref a2)] [(.ref a1)])) _
    refine st57 _ ?_
    show Steps p.tables e below (T57.setTop (mkF m 16 #[.val (.ref a1), .val (.ref a2), .val (.ref a2)] [(.ref k1)])) _
    refine XS.aloadN X57.here hx rfl (hb hby d5_16) rfl rfl ?_
    show Steps p.tables e below (T57.setTop (mkF m 17 #[.val (.ref a1), .val (.ref a2), .val (.ref a2)] [(.ref a2), (.ref k1)])) _
    refine st58 _ ?_
    exact kt
  by_cases hc20_60 : k1 = k2
  · obtain ⟨T61, X61, e61, st61⟩ := getF X58 hx hZ hown (host := "") (Or.inl (hw _ (List.mem_of_getElem? (i := 18) rfl))) Via.refl e58 F1 (g := (mkF m 24 #[.val (.ref a1), .val (.ref a2), .val (.ref a2)] [(.ref a1)])) rfl rfl (hb hby d5_24)
    obtain ⟨T62, X62, e62, st62⟩ := getF X61 hx hZ hown (host := "") (Or.inl (hw _ (List.mem_of_getElem? (i := 18) rfl))) Via.refl e61 G1 (g := (mkF m 28 #[.val (.ref a1), .val (.ref a2), .val (.ref a2)] [(.ref a2), (.int s1)])) rfl rfl (hb hby d5_28)
    have pre63 : ∀ t, Steps p.tables e below (T62.setTop (mkF m 31 #[.val (.ref a1), .val (.ref a2), .val (.ref a2)] [(.int s2), (.int s1)])) t → Steps p.tables e below (s₁.setTop (entryFrame m #[(.ref a1), (.ref a2)] 3)) t := by
      intro t kt
      refine pre59 _ ?_
      show Steps p.tables e below (T58.setTop (mkF m 20 #[.val (.ref a1), .val (.ref a2), .val (.ref a2)] [(.ref k2), (.ref k1)])) _
      refine Jvm.RoadKit.acmp (g := (mkF m 20 #[.val (.ref a1), .val (.ref a2), .val (.ref a2)] [(.ref k2), (.ref k1)])) X58 hx rfl rfl rfl (pc0 := 20) (pc' := 23) (same := true) rfl (hb hby d5_20) rfl (decide_eq_true (congrArg Value.ref hc20_60)) (by decide) (by decide) ?_
      show Steps p.tables e below (T58.setTop (mkF m 23 #[.val (.ref a1), .val (.ref a2), .val (.ref a2)] [])) _
      refine XS.aloadN X58.here hx rfl (hb hby d5_23) rfl rfl ?_
      show Steps p.tables e below (T58.setTop (mkF m 24 #[.val (.ref a1), .val (.ref a2), .val (.ref a2)] [(.ref a1)])) _
      refine st61 _ ?_
      show Steps p.tables e below (T61.setTop (mkF m 27 #[.val (.ref a1), .val (.ref a2), .val (.ref a2)] [(.int s1)])) _
      refine XS.aloadN X61.here hx rfl (hb hby d5_27) rfl rfl ?_
      show Steps p.tables e below (T61.setTop (mkF m 28 #[.val (.ref a1), .val (.ref a2), .val (.ref a2)] [(.ref a2), (.int s1)])) _
      refine st62 _ ?_
      exact kt
    by_cases hc31_64 : s1 = s2
    · obtain ⟨T65, X65, e65, st65⟩ := getF X62 hx hZ hown (host := "") (Or.inl (hw _ (List.mem_of_getElem? (i := 20) rfl))) Via.refl e62 F2 (g := (mkF m 35 #[.val (.ref a1), .val (.ref a2), .val (.ref a2)] [(.ref a1)])) rfl rfl (hb hby d5_35)
      obtain ⟨T66, X66, e66, st66⟩ := getF X65 hx hZ hown (host := "") (Or.inl (hw _ (List.mem_of_getElem? (i := 20) rfl))) Via.refl e65 G2 (g := (mkF m 39 #[.val (.ref a1), .val (.ref a2), .val (.ref a2)] [(.ref a2), (.int e1')])) rfl rfl (hb hby d5_39)
      have pre67 : ∀ t, Steps p.tables e below (T66.setTop (mkF m 42 #[.val (.ref a1), .val (.ref a2), .val (.ref a2)] [(.int e2'), (.int e1')])) t → Steps p.tables e below (s₁.setTop (entryFrame m #[(.ref a1), (.ref a2)] 3)) t := by
        intro t kt
        refine pre63 _ ?_
        show Steps p.tables e below (T62.setTop (mkF m 31 #[.val (.ref a1), .val (.ref a2), .val (.ref a2)] [(.int s2), (.int s1)])) _
        refine XS.icmpNo X62.here hx rfl (hb hby d5_31) rfl (teq hc31_64).2 ?_
        show Steps p.tables e below (T62.setTop (mkF m 34 #[.val (.ref a1), .val (.ref a2), .val (.ref a2)] [])) _
        refine XS.aloadN X62.here hx rfl (hb hby d5_34) rfl rfl ?_
        show Steps p.tables e below (T62.setTop (mkF m 35 #[.val (.ref a1), .val (.ref a2), .val (.ref a2)] [(.ref a1)])) _
        refine st65 _ ?_
        show Steps p.tables e below (T65.setTop (mkF m 38 #[.val (.ref a1), .val (.ref a2), .val (.ref a2)] [(.int e1')])) _
        refine XS.aloadN X65.here hx rfl (hb hby d5_38) rfl rfl ?_
        show Steps p.tables e below (T65.setTop (mkF m 39 #[.val (.ref a1), .val (.ref a2), .val (.ref a2)] [(.ref a2), (.int e1')])) _
        refine st66 _ ?_
        exact kt
      by_cases hc42_68 : e1' = e2'
      · obtain ⟨T69, X69, e69, st69⟩ := getF X66 hx hZ hown (host := "") (Or.inl (hw _ (List.mem_of_getElem? (i := 22) rfl))) Via.refl e66 F3 (g := (mkF m 46 #[.val (.ref a1), .val (.ref a2), .val (.ref a2)] [(.ref a1)])) rfl rfl (hb hby d5_46)
        obtain ⟨T70, X70, e70, st70⟩ := getF X69 hx hZ hown (host := "") (Or.inl (hw _ (List.mem_of_getElem? (i := 22) rfl))) Via.refl e69 G3 (g := (mkF m 50 #[.val (.ref a1), .val (.ref a2), .val (.ref a2)] [(.ref a2), (.int v1)])) rfl rfl (hb hby d5_50)
        have pre71 : ∀ t, Steps p.tables e below (T70.setTop (mkF m 53 #[.val (.ref a1), .val (.ref a2), .val (.ref a2)] [(.int v2), (.int v1)])) t → Steps p.tables e below (s₁.setTop (entryFrame m #[(.ref a1), (.ref a2)] 3)) t := by
          intro t kt
          refine pre67 _ ?_
          show Steps p.tables e below (T66.setTop (mkF m 42 #[.val (.ref a1), .val (.ref a2), .val (.ref a2)] [(.int e2'), (.int e1')])) _
          refine XS.icmpNo X66.here hx rfl (hb hby d5_42) rfl (teq hc42_68).2 ?_
          show Steps p.tables e below (T66.setTop (mkF m 45 #[.val (.ref a1), .val (.ref a2), .val (.ref a2)] [])) _
          refine XS.aloadN X66.here hx rfl (hb hby d5_45) rfl rfl ?_
          show Steps p.tables e below (T66.setTop (mkF m 46 #[.val (.ref a1), .val (.ref a2), .val (.ref a2)] [(.ref a1)])) _
          refine st69 _ ?_
          show Steps p.tables e below (T69.setTop (mkF m 49 #[.val (.ref a1), .val (.ref a2), .val (.ref a2)] [(.int v1)])) _
          refine XS.aloadN X69.here hx rfl (hb hby d5_49) rfl rfl ?_
          show Steps p.tables e below (T69.setTop (mkF m 50 #[.val (.ref a1), .val (.ref a2), .val (.ref a2)] [(.ref a2), (.int v1)])) _
          refine st70 _ ?_
          exact kt
        by_cases hc53_72 : v1 = v2
        · obtain ⟨T73, X73, e73, st73⟩ := getF X70 hx hZ hown (host := "") (Or.inl (hw _ (List.mem_of_getElem? (i := 24) rfl))) Via.refl e70 F4 (g := (mkF m 57 #[.val (.ref a1), .val (.ref a2), .val (.ref a2)] [(.ref a1)])) rfl rfl (hb hby d5_57)
          obtain ⟨T74, X74, e74, st74⟩ := getF X73 hx hZ hown (host := "") (Or.inl (hw _ (List.mem_of_getElem? (i := 24) rfl))) Via.refl e73 G4 (g := (mkF m 61 #[.val (.ref a1), .val (.ref a2), .val (.ref a2)] [(.ref a2), (.int t1)])) rfl rfl (hb hby d5_61)
          have pre75 : ∀ t, Steps p.tables e below (T74.setTop (mkF m 64 #[.val (.ref a1), .val (.ref a2), .val (.ref a2)] [(.int t2), (.int t1)])) t → Steps p.tables e below (s₁.setTop (entryFrame m #[(.ref a1), (.ref a2)] 3)) t := by
            intro t kt
            refine pre71 _ ?_
            show Steps p.tables e below (T70.setTop (mkF m 53 #[.val (.ref a1), .val (.ref a2), .val (.ref a2)] [(.int v2), (.int v1)])) _
            refine XS.icmpNo X70.here hx rfl (hb hby d5_53) rfl (teq hc53_72).2 ?_
            show Steps p.tables e below (T70.setTop (mkF m 56 #[.val (.ref a1), .val (.ref a2), .val (.ref a2)] [])) _
            refine XS.aloadN X70.here hx rfl (hb hby d5_56) rfl rfl ?_
            show Steps p.tables e below (T70.setTop (mkF m 57 #[.val (.ref a1), .val (.ref a2), .val (.ref a2)] [(.ref a1)])) _
            refine st73 _ ?_
            show Steps p.tables e below (T73.setTop (mkF m 60 #[.val (.ref a1), .val (.ref a2), .val (.ref a2)] [(.int t1)])) _
            refine XS.aloadN X73.here hx rfl (hb hby d5_60) rfl rfl ?_
            show Steps p.tables e below (T73.setTop (mkF m 61 #[.val (.ref a1), .val (.ref a2), .val (.ref a2)] [(.ref a2), (.int t1)])) _
            refine st74 _ ?_
            exact kt
          by_cases hc64_76 : t1 = t2
          · have pre77 : ∀ t, Steps p.tables e below (T74.setTop (mkF m 72 #[.val (.ref a1), .val (.ref a2), .val (.ref a2)] [(.int (1 : Int32))])) t → Steps p.tables e below (s₁.setTop (entryFrame m #[(.ref a1), (.ref a2)] 3)) t := by
              intro t kt
              refine pre75 _ ?_
              show Steps p.tables e below (T74.setTop (mkF m 64 #[.val (.ref a1), .val (.ref a2), .val (.ref a2)] [(.int t2), (.int t1)])) _
              refine XS.icmpNo X74.here hx rfl (hb hby d5_64) rfl (teq hc64_76).2 ?_
              show Steps p.tables e below (T74.setTop (mkF m 67 #[.val (.ref a1), .val (.ref a2), .val (.ref a2)] [])) _
              refine XS.iconst X74.here hx rfl (hb hby d5_67) ?_
              show Steps p.tables e below (T74.setTop (mkF m 68 #[.val (.ref a1), .val (.ref a2), .val (.ref a2)] [(.int (1 : Int32))])) _
              refine XS.goto X74.here hx rfl (pc0 := 68) (pc' := 72) rfl (hb hby d5_68) (by decide) (by decide) ?_
              exact kt
            obtain ⟨fs, hr, hrun, hended, hW, hsame⟩ := X74.leave (v := some (.int (1 : Int32))) (fun h => by rw [Bd.returns] at h; cases h)
            refine ⟨_, _, pre77 _ ?_, hrun, hended, _, _, rfl, ?_, ⟨_, rfl⟩, hW, hsame.mono (by decide) (by decide)⟩
            · show Steps p.tables e below (T74.setTop (mkF m 72 #[.val (.ref a1), .val (.ref a2), .val (.ref a2)] [(.int (1 : Int32))])) _
              exact retN X74 hx (t := .boolean) Bd.returns (by simp) (hb hby d5_72) hr
            · show Q5m Z a1 a2 k1 s1 e1' v1 t1 k2 s2 e2' v2 t2 h0 n0 _ T74.heap _
              rw [e74]
              exact ⟨(by rw [own_eq, if_pos hc20_60, if_pos hc31_64, if_pos hc42_68, if_pos hc53_72, if_pos hc64_76]), N0, rfl⟩
          · have pre78 : ∀ t, Steps p.tables e below (T74.setTop (mkF m 72 #[.val (.ref a1), .val (.ref a2), .val (.ref a2)] [(.int (0 : Int32))])) t → Steps p.tables e below (s₁.setTop (entryFrame m #[(.ref a1), (.ref a2)] 3)) t := by
              intro t kt
              refine pre75 _ ?_
              show Steps p.tables e below (T74.setTop (mkF m 64 #[.val (.ref a1), .val (.ref a2), .val (.ref a2)] [(.int t2), (.int t1)])) _
              refine XS.icmpYes X74.here hx rfl (pc0 := 64) (pc' := 71) rfl (hb hby d5_64) rfl (feq hc64_76).2 (by decide) (by decide) ?_
              show Steps p.tables e below (T74.setTop (mkF m 71 #[.val (.ref a1), .val (.ref a2), .val (.ref a2)] [])) _
              refine XS.iconst X74.here hx rfl (hb hby d5_71) ?_
              exact kt
            obtain ⟨fs, hr, hrun, hended, hW, hsame⟩ := X74.leave (v := some (.int (0 : Int32))) (fun h => by rw [Bd.returns] at h; cases h)
            refine ⟨_, _, pre78 _ ?_, hrun, hended, _, _, rfl, ?_, ⟨_, rfl⟩, hW, hsame.mono (by decide) (by decide)⟩
            · show Steps p.tables e below (T74.setTop (mkF m 72 #[.val (.ref a1), .val (.ref a2), .val (.ref a2)] [(.int (0 : Int32))])) _
              exact retN X74 hx (t := .boolean) Bd.returns (by simp) (hb hby d5_72) hr
            · show Q5m Z a1 a2 k1 s1 e1' v1 t1 k2 s2 e2' v2 t2 h0 n0 _ T74.heap _
              rw [e74]
              exact ⟨(by rw [own_eq, if_pos hc20_60, if_pos hc31_64, if_pos hc42_68, if_pos hc53_72, if_neg hc64_76]), N0, rfl⟩
        · have pre79 : ∀ t, Steps p.tables e below (T70.setTop (mkF m 72 #[.val (.ref a1), .val (.ref a2), .val (.ref a2)] [(.int (0 : Int32))])) t → Steps p.tables e below (s₁.setTop (entryFrame m #[(.ref a1), (.ref a2)] 3)) t := by
            intro t kt
            refine pre71 _ ?_
            show Steps p.tables e below (T70.setTop (mkF m 53 #[.val (.ref a1), .val (.ref a2), .val (.ref a2)] [(.int v2), (.int v1)])) _
            refine XS.icmpYes X70.here hx rfl (pc0 := 53) (pc' := 71) rfl (hb hby d5_53) rfl (feq hc53_72).2 (by decide) (by decide) ?_
            show Steps p.tables e below (T70.setTop (mkF m 71 #[.val (.ref a1), .val (.ref a2), .val (.ref a2)] [])) _
            refine XS.iconst X70.here hx rfl (hb hby d5_71) ?_
            exact kt
          obtain ⟨fs, hr, hrun, hended, hW, hsame⟩ := X70.leave (v := some (.int (0 : Int32))) (fun h => by rw [Bd.returns] at h; cases h)
          refine ⟨_, _, pre79 _ ?_, hrun, hended, _, _, rfl, ?_, ⟨_, rfl⟩, hW, hsame.mono (by decide) (by decide)⟩
          · show Steps p.tables e below (T70.setTop (mkF m 72 #[.val (.ref a1), .val (.ref a2), .val (.ref a2)] [(.int (0 : Int32))])) _
            exact retN X70 hx (t := .boolean) Bd.returns (by simp) (hb hby d5_72) hr
          · show Q5m Z a1 a2 k1 s1 e1' v1 t1 k2 s2 e2' v2 t2 h0 n0 _ T70.heap _
            rw [e70]
            exact ⟨(by rw [own_eq, if_pos hc20_60, if_pos hc31_64, if_pos hc42_68, if_neg hc53_72]), N0, rfl⟩
      · have pre80 : ∀ t, Steps p.tables e below (T66.setTop (mkF m 72 #[.val (.ref a1), .val (.ref a2), .val (.ref a2)] [(.int (0 : Int32))])) t → Steps p.tables e below (s₁.setTop (entryFrame m #[(.ref a1), (.ref a2)] 3)) t := by
          intro t kt
          refine pre67 _ ?_
          show Steps p.tables e below (T66.setTop (mkF m 42 #[.val (.ref a1), .val (.ref a2), .val (.ref a2)] [(.int e2'), (.int e1')])) _
          refine XS.icmpYes X66.here hx rfl (pc0 := 42) (pc' := 71) rfl (hb hby d5_42) rfl (feq hc42_68).2 (by decide) (by decide) ?_
          show Steps p.tables e below (T66.setTop (mkF m 71 #[.val (.ref a1), .val (.ref a2), .val (.ref a2)] [])) _
          refine XS.iconst X66.here hx rfl (hb hby d5_71) ?_
          exact kt
        obtain ⟨fs, hr, hrun, hended, hW, hsame⟩ := X66.leave (v := some (.int (0 : Int32))) (fun h => by rw [Bd.returns] at h; cases h)
        refine ⟨_, _, pre80 _ ?_, hrun, hended, _, _, rfl, ?_, ⟨_, rfl⟩, hW, hsame.mono (by decide) (by decide)⟩
        · show Steps p.tables e below (T66.setTop (mkF m 72 #[.val (.ref a1), .val (.ref a2), .val (.ref a2)] [(.int (0 : Int32))])) _
          exact retN X66 hx (t := .boolean) Bd.returns (by simp) (hb hby d5_72) hr
        · show Q5m Z a1 a2 k1 s1 e1' v1 t1 k2 s2 e2' v2 t2 h0 n0 _ T66.heap _
          rw [e66]
          exact ⟨(by rw [own_eq, if_pos hc20_60, if_pos hc31_64, if_neg hc42_68]), N0, rfl⟩
    · have pre81 : ∀ t, Steps p.tables e below (T62.setTop (mkF m 72 #[.val (.ref a1), .val (.ref a2), .val (.ref a2)] [(.int (0 : Int32))])) t → Steps p.tables e below (s₁.setTop (entryFrame m #[(.ref a1), (.ref a2)] 3)) t := by
        intro t kt
        refine pre63 _ ?_
        show Steps p.tables e below (T62.setTop (mkF m 31 #[.val (.ref a1), .val (.ref a2), .val (.ref a2)] [(.int s2), (.int s1)])) _
        refine XS.icmpYes X62.here hx rfl (pc0 := 31) (pc' := 71) rfl (hb hby d5_31) rfl (feq hc31_64).2 (by decide) (by decide) ?_
        show Steps p.tables e below (T62.setTop (mkF m 71 #[.val (.ref a1), .val (.ref a2), .val (.ref a2)] [])) _
        refine XS.iconst X62.here hx rfl (hb hby d5_71) ?_
        exact kt
      obtain ⟨fs, hr, hrun, hended, hW, hsame⟩ := X62.leave (v := some (.int (0 : Int32))) (fun h => by rw [Bd.returns] at h; cases h)
      refine ⟨_, _, pre81 _ ?_, hrun, hended, _, _, rfl, ?_, ⟨_, rfl⟩, hW, hsame.mono (by decide) (by decide)⟩
      · show Steps p.tables e below (T62.setTop (mkF m 72 #[.val (.ref a1), .val (.ref a2), .val (.ref a2)] [(.int (0 : Int32))])) _
        exact retN X62 hx (t := .boolean) Bd.returns (by simp) (hb hby d5_72) hr
      · show Q5m Z a1 a2 k1 s1 e1' v1 t1 k2 s2 e2' v2 t2 h0 n0 _ T62.heap _
        rw [e62]
        exact ⟨(by rw [own_eq, if_pos hc20_60, if_neg hc31_64]), N0, rfl⟩
  · have pre82 : ∀ t, Steps p.tables e below (T58.setTop (mkF m 72 #[.val (.ref a1), .val (.ref a2), .val (.ref a2)] [(.int (0 : Int32))])) t → Steps p.tables e below (s₁.setTop (entryFrame m #[(.ref a1), (.ref a2)] 3)) t := by
      intro t kt
      refine pre59 _ ?_
      show Steps p.tables e below (T58.setTop (mkF m 20 #[.val (.ref a1), .val (.ref a2), .val (.ref a2)] [(.ref k2), (.ref k1)])) _
      refine Jvm.RoadKit.acmp (g := (mkF m 20 #[.val (.ref a1), .val (.ref a2), .val (.ref a2)] [(.ref k2), (.ref k1)])) X58 hx rfl rfl rfl (pc0 := 20) (pc' := 71) (same := false) rfl (hb hby d5_20) rfl (decide_eq_false fun q => hc20_60 (Value.ref.inj q)) (by decide) (by decide) ?_
      show Steps p.tables e below (T58.setTop (mkF m 71 #[.val (.ref a1), .val (.ref a2), .val (.ref a2)] [])) _
      refine XS.iconst X58.here hx rfl (hb hby d5_71) ?_
      exact kt
    obtain ⟨fs, hr, hrun, hended, hW, hsame⟩ := X58.leave (v := some (.int (0 : Int32))) (fun h => by rw [Bd.returns] at h; cases h)
    refine ⟨_, _, pre82 _ ?_, hrun, hended, _, _, rfl, ?_, ⟨_, rfl⟩, hW, hsame.mono (by decide) (by decide)⟩
    · show Steps p.tables e below (T58.setTop (mkF m 72 #[.val (.ref a1), .val (.ref a2), .val (.ref a2)] [(.int (0 : Int32))])) _
      exact retN X58 hx (t := .boolean) Bd.returns (by simp) (hb hby d5_72) hr
    · show Q5m Z a1 a2 k1 s1 e1' v1 t1 k2 s2 e2' v2 t2 h0 n0 _ T58.heap _
      rw [e58]
      exact ⟨(by rw [own_eq, if_neg hc20_60]), N0, rfl⟩
theorem pd_0 : parseMethodDescriptor "(I)Lcom/example/cluster_protocol_models/clusterprotocolmodels/hermes/Message$Kind;" = some ⟨[.int], some (.object "com/example/cluster_protocol_models/clusterprotocolmodels/hermes/Message$Kind")⟩ := by decide +kernel
theorem pd_1 : parseMethodDescriptor "(Lcom/example/cluster_protocol_models/clusterprotocolmodels/hermes/Message$Kind;IIII)V" = some ⟨[(.object "com/example/cluster_protocol_models/clusterprotocolmodels/hermes/Message$Kind"), .int, .int, .int, .int], none⟩ := by decide +kernel
theorem pd_2 : parseMethodDescriptor "(II)V" = some ⟨[.int, .int], none⟩ := by decide +kernel
theorem pd_3 : parseMethodDescriptor "(Ljava/lang/Object;)Z" = some ⟨[(.object "java/lang/Object")], some .boolean⟩ := by decide +kernel
theorem pn_0 : plainName "com/example/cluster_protocol_models/clusterprotocolmodels/hermes/MessageEqualsPinLaw" = true := by first | (simp [plainName, overriddenIn]; done) | decide +kernel
theorem ef_0 (m : MethodId) (x0 : Int32) (x1 : Int32) (x2 : Int32) (x3 : Int32) (x4 : Int32) (x5 : Int32) : entryFrame m #[(.int x0), (.int x1), (.int x2), (.int x3), (.int x4), (.int x5)] maxLocals = mkF m 0 #[.val (.int x0), .val (.int x1), .val (.int x2), .val (.int x3), .val (.int x4), .val (.int x5), .unset, .unset, .unset, .unset, .unset, .unset, .unset, .unset, .unset, .unset, .unset] [] := by first | (simp [entryFrame, mkF, argsToLocals, Value.category, maxLocals]; done) | rfl
def Q0 (Z : State) (p1 : Int32) (p2 : Int32) (p3 : Int32) (p4 : Int32) (p5 : Int32) (p6 : Int32) (wI : Addr) (wA : Addr) (wV : Addr) (h0 : Heap) (n0 : Nat) (v : Option Value) (h : Heap) (L : List Loc) : Prop := v = some (.int (1 : Int32)) ∧ Fr n0 L
set_option maxRecDepth 65536 in
set_option maxHeartbeats 40000000 in
theorem rm0 (l : Launch) (Z : State) (a0 : Array Value) (hw : ∀ d ∈ tables_1, d.before a0 Z = true) (ws : List Jvm.Cond) (p1 : Int32) (p2 : Int32) (p3 : Int32) (p4 : Int32) (p5 : Int32) (p6 : Int32) (wI : Addr) (wA : Addr) (wV : Addr) (h0 : Heap) (n0 : Nat) (Z0 : n0 ≤ h0.size) (SI : Sta Z h0 "com/example/cluster_protocol_models/clusterprotocolmodels/hermes/Message$Kind" "INV" "Lcom/example/cluster_protocol_models/clusterprotocolmodels/hermes/Message$Kind;" (.ref wI)) (SA : Sta Z h0 "com/example/cluster_protocol_models/clusterprotocolmodels/hermes/Message$Kind" "ACK" "Lcom/example/cluster_protocol_models/clusterprotocolmodels/hermes/Message$Kind;" (.ref wA)) (SV : Sta Z h0 "com/example/cluster_protocol_models/clusterprotocolmodels/hermes/Message$Kind" "VAL" "Lcom/example/cluster_protocol_models/clusterprotocolmodels/hermes/Message$Kind;" (.ref wV)) :
    MetFree l x (head1 (Jvm.Cond.code x code maxLocals ret :: ws) room_1) (fun a U => a = #[(.int p1), (.int p2), (.int p3), (.int p4), (.int p5), (.int p6)] ∧ Z.Warmed39 U.vm ∧ U.heap = h0) (fun _ _ _ _ _ => True) (fun _ U o U' => ∃ v L, o = .returned v ∧ Q0 Z p1 p2 p3 p4 p5 p6 wI wA wV h0 n0 v U'.heap L ∧ FrameEnd U o U' L room_1.cells room_1.slots) := by
  refine MetFree.of_bodySF (plainFor_of_name pn_0) hisR ?_
  intro p e s m args below meth c s₁ Bd hml0 hP hK
  obtain ⟨rfl, hZ, hh⟩ := hP
  have hx := Bd.exec
  have hby := Bd.bytes
  have hml : c.maxLocals = 17 := hml0
  have hown : s.vm.findClass "com/example/cluster_protocol_models/clusterprotocolmodels/hermes/MessageEqualsPinLaw" = some m.cls := findClass_of_methodNamed Bd.named
  have hnm := (name_of_methodNamed Bd.named Bd.method).1
  have X0 : Stand p l e room_1 s m #[(.int p1), (.int p2), (.int p3), (.int p4), (.int p5), (.int p6)] below meth c s₁ [] 0 0 := Stand.of_body Bd
  have e0 : s₁.heap = h0 := by rw [← hh, Bd.state]; rfl
  have N0 := Fr.nil n0
  have pre0 : ∀ t, Steps p.tables e below (s₁.setTop (mkF m 0 #[.val (.int p1), .val (.int p2), .val (.int p3), .val (.int p4), .val (.int p5), .val (.int p6), .unset, .unset, .unset, .unset, .unset, .unset, .unset, .unset, .unset, .unset, .unset] [])) t → Steps p.tables e below (s₁.setTop (entryFrame m #[(.int p1), (.int p2), (.int p3), (.int p4), (.int p5), (.int p6)] maxLocals)) t := fun t k => castTop (ef_0 m p1 p2 p3 p4 p5 p6) k
  obtain ⟨_, _, ⟨T83, L83, k83, n83⟩, -, X83, ⟨Lc83, hQ83, l83, y83, z83⟩, st83⟩ := Jvm.LawKit.callS X0 hx (y := (⟨"com/example/cluster_protocol_models/clusterprotocolmodels/hermes/MessageEqualsPinLaw", "kindOf", "(I)Lcom/example/cluster_protocol_models/clusterprotocolmodels/hermes/Message$Kind;"⟩ : MethodName)) hown (mvT hZ (hw _ (List.mem_of_getElem? (i := 0) rfl))) (mvT hZ (hw _ (List.mem_of_getElem? (i := 1) rfl))) (mvT hZ (hw _ (List.mem_of_getElem? (i := 2) rfl))) (mvT hZ (hw _ (List.mem_of_getElem? (i := 3) rfl))) (by decide) (backOf (W := 0) (rm1 l Z a0 hw [] ((p5 &&& (3 : Int32)) % (3 : Int32)) wI wA wV h0 n0 Z0 SI SA SV) hZ (hw _ (List.mem_of_getElem? (i := 3) rfl)) (hw _ (List.mem_of_getElem? (i := 2) rfl)) (by decide) (by decide)) (g := (mkF m 6 #[.val (.int p1), .val (.int p2), .val (.int p3), .val (.int p4), .val (.int p5), .val (.int p6), .unset, .unset, .unset, .unset, .unset, .unset, .unset, .unset, .unset, .unset, .unset] [(.int ((p5 &&& (3 : Int32)) % (3 : Int32)))])) rfl (by rw [hml]; rfl) (argsL := [(.int ((p5 &&& (3 : Int32)) % (3 : Int32)))]) (rest := []) (lenOf pd_0 rfl) rfl (by show 2 * 0 + _ ≤ _; exact Nat.le_of_eq rfl) (hb hby at_6) (fun _ _ => ⟨rfl, e0, (by decide : 0 + 0 ≤ _), (by decide : 0 + 0 ≤ _)⟩)
  dsimp only [Pt.U, Pt.locs, Pt.cells, Pt.slots] at X83 l83 y83 z83 st83 hQ83
  subst l83 y83 z83
  obtain ⟨rfl, N83q, e83⟩ := hQ83
  have N83 := Fr.app N0 N83q
  obtain ⟨_, _, ⟨T84, L84, k84, n84⟩, -, X84, ⟨Lc84, hQ84, l84, y84, z84⟩, st84⟩ := Jvm.LawKit.callS X83 hx (y := (⟨"com/example/cluster_protocol_models/clusterprotocolmodels/hermes/MessageEqualsPinLaw", "kindOf", "(I)Lcom/example/cluster_protocol_models/clusterprotocolmodels/hermes/Message$Kind;"⟩ : MethodName)) hown (mvT hZ (hw _ (List.mem_of_getElem? (i := 0) rfl))) (mvT hZ (hw _ (List.mem_of_getElem? (i := 1) rfl))) (mvT hZ (hw _ (List.mem_of_getElem? (i := 2) rfl))) (mvT hZ (hw _ (List.mem_of_getElem? (i := 3) rfl))) (by decide) (backOf (W := 0) (rm1 l Z a0 hw [] ((((p5.toUInt32 >>> ((2 : Int32) &&& 31).toUInt32).toInt32) &&& (3 : Int32)) % (3 : Int32)) wI wA wV h0 n0 Z0 SI SA SV) hZ (hw _ (List.mem_of_getElem? (i := 3) rfl)) (hw _ (List.mem_of_getElem? (i := 2) rfl)) (by decide) (by decide)) (g := (mkF m 19 #[.val (.int p1), .val (.int p2), .val (.int p3), .val (.int p4), .val (.int p5), .val (.int p6), .val (.ref (own_F1 ((p5 &&& (3 : Int32)) % (3 : Int32)) wI wA wV)), .unset, .unset, .unset, .unset, .unset, .unset, .unset, .unset, .unset, .unset] [(.int ((((p5.toUInt32 >>> ((2 : Int32) &&& 31).toUInt32).toInt32) &&& (3 : Int32)) % (3 : Int32)))])) rfl (by rw [hml]; rfl) (argsL := [(.int ((((p5.toUInt32 >>> ((2 : Int32) &&& 31).toUInt32).toInt32) &&& (3 : Int32)) % (3 : Int32)))]) (rest := []) (lenOf pd_0 rfl) rfl (by show 2 * 0 + _ ≤ _; exact Nat.le_of_eq rfl) (hb hby at_19) (fun _ _ => ⟨rfl, e83, (by decide : 0 + 0 ≤ _), (by decide : 0 + 0 ≤ _)⟩)
  dsimp only [Pt.U, Pt.locs, Pt.cells, Pt.slots] at X84 l84 y84 z84 st84 hQ84
  subst l84 y84 z84
  obtain ⟨rfl, N84q, e84⟩ := hQ84
  have N84 := Fr.app N83 N84q
  have pre86 : ∀ t, Steps p.tables e below (T84.setTop (mkF m 40 #[.val (.int p1), .val (.int p2), .val (.int p3), .val (.int p4), .val (.int p5), .val (.int p6), .val (.ref (own_F1 ((p5 &&& (3 : Int32)) % (3 : Int32)) wI wA wV)), .val (.ref (own_F1 ((((p5.toUInt32 >>> ((2 : Int32) &&& 31).toUInt32).toInt32) &&& (3 : Int32)) % (3 : Int32)) wI wA wV)), .unset, .unset, .unset, .unset, .unset, .unset, .unset, .unset, .unset] [(.int (if (p5 &&& (16 : Int32)) = (0 : Int32) then p1 else (p1 ^^^ p6)))])) t → Steps p.tables e below (s₁.setTop (entryFrame m #[(.int p1), (.int p2), (.int p3), (.int p4), (.int p5), (.int p6)] maxLocals)) t := by
    intro t kt
    refine pre0 _ ?_
    show Steps p.tables e below (s₁.setTop (mkF m 0 #[.val (.int p1), .val (.int p2), .val (.int p3), .val (.int p4), .val (.int p5), .val (.int p6), .unset, .unset, .unset, .unset, .unset, .unset, .unset, .unset, .unset, .unset, .unset] [])) _
    refine XS.iload X0.here hx rfl (hb hby at_0) rfl ?_
    show Steps p.tables e below (s₁.setTop (mkF m 2 #[.val (.int p1), .val (.int p2), .val (.int p3), .val (.int p4), .val (.int p5), .val (.int p6), .unset, .unset, .unset, .unset, .unset, .unset, .unset, .unset, .unset, .unset, .unset] [(.int p5)])) _
    refine XS.iconst X0.here hx rfl (hb hby at_2) ?_
    show Steps p.tables e below (s₁.setTop (mkF m 3 #[.val (.int p1), .val (.int p2), .val (.int p3), .val (.int p4), .val (.int p5), .val (.int p6), .unset, .unset, .unset, .unset, .unset, .unset, .unset, .unset, .unset, .unset, .unset] [(.int (3 : Int32)), (.int p5)])) _
    refine XS.iand X0.here hx rfl (hb hby at_3) rfl ?_
    show Steps p.tables e below (s₁.setTop (mkF m 4 #[.val (.int p1), .val (.int p2), .val (.int p3), .val (.int p4), .val (.int p5), .val (.int p6), .unset, .unset, .unset, .unset, .unset, .unset, .unset, .unset, .unset, .unset, .unset] [(.int (p5 &&& (3 : Int32)))])) _
    refine XS.iconst X0.here hx rfl (hb hby at_4) ?_
    show Steps p.tables e below (s₁.setTop (mkF m 5 #[.val (.int p1), .val (.int p2), .val (.int p3), .val (.int p4), .val (.int p5), .val (.int p6), .unset, .unset, .unset, .unset, .unset, .unset, .unset, .unset, .unset, .unset, .unset] [(.int (3 : Int32)), (.int (p5 &&& (3 : Int32)))])) _
    refine iremM X0 hx rfl (hb hby at_5) rfl (by decide) ?_
    show Steps p.tables e below (s₁.setTop (mkF m 6 #[.val (.int p1), .val (.int p2), .val (.int p3), .val (.int p4), .val (.int p5), .val (.int p6), .unset, .unset, .unset, .unset, .unset, .unset, .unset, .unset, .unset, .unset, .unset] [(.int ((p5 &&& (3 : Int32)) % (3 : Int32)))])) _
    refine st83 _ ?_
    show Steps p.tables e below (T83.setTop (mkF m 9 #[.val (.int p1), .val (.int p2), .val (.int p3), .val (.int p4), .val (.int p5), .val (.int p6), .unset, .unset, .unset, .unset, .unset, .unset, .unset, .unset, .unset, .unset, .unset] [(.ref (own_F1 ((p5 &&& (3 : Int32)) % (3 : Int32)) wI wA wV))])) _
    refine XS.astore X83.here hx rfl (hb hby at_9) rfl rfl (l' := #[.val (.int p1), .val (.int p2), .val (.int p3), .val (.int p4), .val (.int p5), .val (.int p6), .val (.ref (own_F1 ((p5 &&& (3 : Int32)) % (3 : Int32)) wI wA wV)), .unset, .unset, .unset, .unset, .unset, .unset, .unset, .unset, .unset, .unset]) rfl ?_
    show Steps p.tables e below (T83.setTop (mkF m 11 #[.val (.int p1), .val (.int p2), .val (.int p3), .val (.int p4), .val (.int p5), .val (.int p6), .val (.ref (own_F1 ((p5 &&& (3 : Int32)) % (3 : Int32)) wI wA wV)), .unset, .unset, .unset, .unset, .unset, .unset, .unset, .unset, .unset, .unset] [])) _
    refine XS.iload X83.here hx rfl (hb hby at_11) rfl ?_
    show Steps p.tables e below (T83.setTop (mkF m 13 #[.val (.int p1), .val (.int p2), .val (.int p3), .val (.int p4), .val (.int p5), .val (.int p6), .val (.ref (own_F1 ((p5 &&& (3 : Int32)) % (3 : Int32)) wI wA wV)), .unset, .unset, .unset, .unset, .unset, .unset, .unset, .unset, .unset, .unset] [(.int p5)])) _
    refine XS.iconst X83.here hx rfl (hb hby at_13) ?_
    show Steps p.tables e below (T83.setTop (mkF m 14 #[.val (.int p1), .val (.int p2), .val (.int p3), .val (.int p4), .val (.int p5), .val (.int p6), .val (.ref (own_F1 ((p5 &&& (3 : Int32)) % (3 : Int32)) wI wA wV)), .unset, .unset, .unset, .unset, .unset, .unset, .unset, .unset, .unset, .unset] [(.int (2 : Int32)), (.int p5)])) _
    refine XS.iushr X83.here hx rfl (hb hby at_14) rfl ?_
    show Steps p.tables e below (T83.setTop (mkF m 15 #[.val (.int p1), .val (.int p2), .val (.int p3), .val (.int p4), .val (.int p5), .val (.int p6), .val (.ref (own_F1 ((p5 &&& (3 : Int32)) % (3 : Int32)) wI wA wV)), .unset, .unset, .unset, .unset, .unset, .unset, .unset, .unset, .unset, .unset] [(.int ((p5.toUInt32 >>> ((2 : Int32) &&& 31).toUInt32).toInt32))])) _
    refine XS.iconst X83.here hx rfl (hb hby at_15) ?_
    show Steps p.tables e below (T83.setTop (mkF m 16 #[.val (.int p1), .val (.int p2), .val (.int p3), .val (.int p4), .val (.int p5), .val (.int p6), .val (.ref (own_F1 ((p5 &&& (3 : Int32)) % (3 : Int32)) wI wA wV)), .unset, .unset, .unset, .unset, .unset, .unset, .unset, .unset, .unset, .unset] [(.int (3 : Int32)), (.int ((p5.toUInt32 >>> ((2 : Int32) &&& 31).toUInt32).toInt32))])) _
    refine XS.iand X83.here hx rfl (hb hby at_16) rfl ?_
    show Steps p.tables e below (T83.setTop (mkF m 17 #[.val (.int p1), .val (.int p2), .val (.int p3), .val (.int p4), .val (.int p5), .val (.int p6), .val (.ref (own_F1 ((p5 &&& (3 : Int32)) % (3 : Int32)) wI wA wV)), .unset, .unset, .unset, .unset, .unset, .unset, .unset, .unset, .unset, .unset] [(.int (((p5.toUInt32 >>> ((2 : Int32) &&& 31).toUInt32).toInt32) &&& (3 : Int32)))])) _
    refine XS.iconst X83.here hx rfl (hb hby at_17) ?_
    show Steps p.tables e below (T83.setTop (mkF m 18 #[.val (.int p1), .val (.int p2), .val (.int p3), .val (.int p4), .val (.int p5), .val (.int p6), .val (.ref (own_F1 ((p5 &&& (3 : Int32)) % (3 : Int32)) wI wA wV)), .unset, .unset, .unset, .unset, .unset, .unset, .unset, .unset, .unset, .unset] [(.int (3 : Int32)), (.int (((p5.toUInt32 >>> ((2 : Int32) &&& 31).toUInt32).toInt32) &&& (3 : Int32)))])) _
    refine iremM X83 hx rfl (hb hby at_18) rfl (by decide) ?_
    show Steps p.tables e below (T83.setTop (mkF m 19 #[.val (.int p1), .val (.int p2), .val (.int p3), .val (.int p4), .val (.int p5), .val (.int p6), .val (.ref (own_F1 ((p5 &&& (3 : Int32)) % (3 : Int32)) wI wA wV)), .unset, .unset, .unset, .unset, .unset, .unset, .unset, .unset, .unset, .unset] [(.int ((((p5.toUInt32 >>> ((2 : Int32) &&& 31).toUInt32).toInt32) &&& (3 : Int32)) % (3 : Int32)))])) _
    refine st84 _ ?_
    show Steps p.tables e below (T84.setTop (mkF m 22 #[.val (.int p1), .val (.int p2), .val (.int p3), .val (.int p4), .val (.int p5), .val (.int p6), .val (.ref (own_F1 ((p5 &&& (3 : Int32)) % (3 : Int32)) wI wA wV)), .unset, .unset, .unset, .unset, .unset, .unset, .unset, .unset, .unset, .unset] [(.ref (own_F1 ((((p5.toUInt32 >>> ((2 : Int32) &&& 31).toUInt32).toInt32) &&& (3 : Int32)) % (3 : Int32)) wI wA wV))])) _
    refine XS.astore X84.here hx rfl (hb hby at_22) rfl rfl (l' := #[.val (.int p1), .val (.int p2), .val (.int p3), .val (.int p4), .val (.int p5), .val (.int p6), .val (.ref (own_F1 ((p5 &&& (3 : Int32)) % (3 : Int32)) wI wA wV)), .val (.ref (own_F1 ((((p5.toUInt32 >>> ((2 : Int32) &&& 31).toUInt32).toInt32) &&& (3 : Int32)) % (3 : Int32)) wI wA wV)), .unset, .unset, .unset, .unset, .unset, .unset, .unset, .unset, .unset]) rfl ?_
    show Steps p.tables e below (T84.setTop (mkF m 24 #[.val (.int p1), .val (.int p2), .val (.int p3), .val (.int p4), .val (.int p5), .val (.int p6), .val (.ref (own_F1 ((p5 &&& (3 : Int32)) % (3 : Int32)) wI wA wV)), .val (.ref (own_F1 ((((p5.toUInt32 >>> ((2 : Int32) &&& 31).toUInt32).toInt32) &&& (3 : Int32)) % (3 : Int32)) wI wA wV)), .unset, .unset, .unset, .unset, .unset, .unset, .unset, .unset, .unset] [])) _
    refine XS.iload X84.here hx rfl (hb hby at_24) rfl ?_
    show Steps p.tables e below (T84.setTop (mkF m 26 #[.val (.int p1), .val (.int p2), .val (.int p3), .val (.int p4), .val (.int p5), .val (.int p6), .val (.ref (own_F1 ((p5 &&& (3 : Int32)) % (3 : Int32)) wI wA wV)), .val (.ref (own_F1 ((((p5.toUInt32 >>> ((2 : Int32) &&& 31).toUInt32).toInt32) &&& (3 : Int32)) % (3 : Int32)) wI wA wV)), .unset, .unset, .unset, .unset, .unset, .unset, .unset, .unset, .unset] [(.int p5)])) _
    refine XS.bipush X84.here hx rfl (hb hby at_26) ?_
    show Steps p.tables e below (T84.setTop (mkF m 28 #[.val (.int p1), .val (.int p2), .val (.int p3), .val (.int p4), .val (.int p5), .val (.int p6), .val (.ref (own_F1 ((p5 &&& (3 : Int32)) % (3 : Int32)) wI wA wV)), .val (.ref (own_F1 ((((p5.toUInt32 >>> ((2 : Int32) &&& 31).toUInt32).toInt32) &&& (3 : Int32)) % (3 : Int32)) wI wA wV)), .unset, .unset, .unset, .unset, .unset, .unset, .unset, .unset, .unset] [(.int (16 : Int32)), (.int p5)])) _
    refine XS.iand X84.here hx rfl (hb hby at_28) rfl ?_
    by_cases hj29_85 : (p5 &&& (16 : Int32)) = (0 : Int32)
    · rw [if_pos hj29_85] at kt
      show Steps p.tables e below (T84.setTop (mkF m 29 #[.val (.int p1), .val (.int p2), .val (.int p3), .val (.int p4), .val (.int p5), .val (.int p6), .val (.ref (own_F1 ((p5 &&& (3 : Int32)) % (3 : Int32)) wI wA wV)), .val (.ref (own_F1 ((((p5.toUInt32 >>> ((2 : Int32) &&& 31).toUInt32).toInt32) &&& (3 : Int32)) % (3 : Int32)) wI wA wV)), .unset, .unset, .unset, .unset, .unset, .unset, .unset, .unset, .unset] [(.int (p5 &&& (16 : Int32)))])) _
      refine XS.ifYes X84.here hx rfl (pc0 := 29) (pc' := 39) rfl (hb hby at_29) rfl ((if0 _ _).trans (teq hj29_85).1) (by decide) (by decide) ?_
      show Steps p.tables e below (T84.setTop (mkF m 39 #[.val (.int p1), .val (.int p2), .val (.int p3), .val (.int p4), .val (.int p5), .val (.int p6), .val (.ref (own_F1 ((p5 &&& (3 : Int32)) % (3 : Int32)) wI wA wV)), .val (.ref (own_F1 ((((p5.toUInt32 >>> ((2 : Int32) &&& 31).toUInt32).toInt32) &&& (3 : Int32)) % (3 : Int32)) wI wA wV)), .unset, .unset, .unset, .unset, .unset, .unset, .unset, .unset, .unset] [])) _
      refine XS.iloadN X84.here hx rfl (hb hby at_39) rfl ?_
      exact kt
    · rw [if_neg hj29_85] at kt
      show Steps p.tables e below (T84.setTop (mkF m 29 #[.val (.int p1), .val (.int p2), .val (.int p3), .val (.int p4), .val (.int p5), .val (.int p6), .val (.ref (own_F1 ((p5 &&& (3 : Int32)) % (3 : Int32)) wI wA wV)), .val (.ref (own_F1 ((((p5.toUInt32 >>> ((2 : Int32) &&& 31).toUInt32).toInt32) &&& (3 : Int32)) % (3 : Int32)) wI wA wV)), .unset, .unset, .unset, .unset, .unset, .unset, .unset, .unset, .unset] [(.int (p5 &&& (16 : Int32)))])) _
      refine XS.ifNo X84.here hx rfl (hb hby at_29) rfl ((if0 _ _).trans (feq hj29_85).1) ?_
      show Steps p.tables e below (T84.setTop (mkF m 32 #[.val (.int p1), .val (.int p2), .val (.int p3), .val (.int p4), .val (.int p5), .val (.int p6), .val (.ref (own_F1 ((p5 &&& (3 : Int32)) % (3 : Int32)) wI wA wV)), .val (.ref (own_F1 ((((p5.toUInt32 >>> ((2 : Int32) &&& 31).toUInt32).toInt32) &&& (3 : Int32)) % (3 : Int32)) wI wA wV)), .unset, .unset, .unset, .unset, .unset, .unset, .unset, .unset, .unset] [])) _
      refine XS.iloadN X84.here hx rfl (hb hby at_32) rfl ?_
      show Steps p.tables e below (T84.setTop (mkF m 33 #[.val (.int p1), .val (.int p2), .val (.int p3), .val (.int p4), .val (.int p5), .val (.int p6), .val (.ref (own_F1 ((p5 &&& (3 : Int32)) % (3 : Int32)) wI wA wV)), .val (.ref (own_F1 ((((p5.toUInt32 >>> ((2 : Int32) &&& 31).toUInt32).toInt32) &&& (3 : Int32)) % (3 : Int32)) wI wA wV)), .unset, .unset, .unset, .unset, .unset, .unset, .unset, .unset, .unset] [(.int p1)])) _
      refine XS.iload X84.here hx rfl (hb hby at_33) rfl ?_
      show Steps p.tables e below (T84.setTop (mkF m 35 #[.val (.int p1), .val (.int p2), .val (.int p3), .val (.int p4), .val (.int p5), .val (.int p6), .val (.ref (own_F1 ((p5 &&& (3 : Int32)) % (3 : Int32)) wI wA wV)), .val (.ref (own_F1 ((((p5.toUInt32 >>> ((2 : Int32) &&& 31).toUInt32).toInt32) &&& (3 : Int32)) % (3 : Int32)) wI wA wV)), .unset, .unset, .unset, .unset, .unset, .unset, .unset, .unset, .unset] [(.int p6), (.int p1)])) _
      refine XS.ixor X84.here hx rfl (hb hby at_35) rfl ?_
      show Steps p.tables e below (T84.setTop (mkF m 36 #[.val (.int p1), .val (.int p2), .val (.int p3), .val (.int p4), .val (.int p5), .val (.int p6), .val (.ref (own_F1 ((p5 &&& (3 : Int32)) % (3 : Int32)) wI wA wV)), .val (.ref (own_F1 ((((p5.toUInt32 >>> ((2 : Int32) &&& 31).toUInt32).toInt32) &&& (3 : Int32)) % (3 : Int32)) wI wA wV)), .unset, .unset, .unset, .unset, .unset, .unset, .unset, .unset, .unset] [(.int (p1 ^^^ p6))])) _
      refine XS.goto X84.here hx rfl (pc0 := 36) (pc' := 40) rfl (hb hby at_36) (by decide) (by decide) ?_
      exact kt
  have pre88 : ∀ t, Steps p.tables e below (T84.setTop (mkF m 58 #[.val (.int p1), .val (.int p2), .val (.int p3), .val (.int p4), .val (.int p5), .val (.int p6), .val (.ref (own_F1 ((p5 &&& (3 : Int32)) % (3 : Int32)) wI wA wV)), .val (.ref (own_F1 ((((p5.toUInt32 >>> ((2 : Int32) &&& 31).toUInt32).toInt32) &&& (3 : Int32)) % (3 : Int32)) wI wA wV)), .val (.int (if (p5 &&& (16 : Int32)) = (0 : Int32) then p1 else (p1 ^^^ p6))), .unset, .unset, .unset, .unset, .unset, .unset, .unset, .unset] [(.int (if (p5 &&& (32 : Int32)) = (0 : Int32) then p2 else (p2 ^^^ p6)))])) t → Steps p.tables e below (s₁.setTop (entryFrame m #[(.int p1), (.int p2), (.int p3), (.int p4), (.int p5), (.int p6)] maxLocals)) t := by
    intro t kt
    refine pre86 _ ?_
    show Steps p.tables e below (T84.setTop (mkF m 40 #[.val (.int p1), .val (.int p2), .val (.int p3), .val (.int p4), .val (.int p5), .val (.int p6), .val (.ref (own_F1 ((p5 &&& (3 : Int32)) % (3 : Int32)) wI wA wV)), .val (.ref (own_F1 ((((p5.toUInt32 >>> ((2 : Int32) &&& 31).toUInt32).toInt32) &&& (3 : Int32)) % (3 : Int32)) wI wA wV)), .unset, .unset, .unset, .unset, .unset, .unset, .unset, .unset, .unset] [(.int (if (p5 &&& (16 : Int32)) = (0 : Int32) then p1 else (p1 ^^^ p6)))])) _
    refine XS.istore X84.here hx rfl (hb hby at_40) rfl (l' := #[.val (.int p1), .val (.int p2), .val (.int p3), .val (.int p4), .val (.int p5), .val (.int p6), .val (.ref (own_F1 ((p5 &&& (3 : Int32)) % (3 : Int32)) wI wA wV)), .val (.ref (own_F1 ((((p5.toUInt32 >>> ((2 : Int32) &&& 31).toUInt32).toInt32) &&& (3 : Int32)) % (3 : Int32)) wI wA wV)), .val (.int (if (p5 &&& (16 : Int32)) = (0 : Int32) then p1 else (p1 ^^^ p6))), .unset, .unset, .unset, .unset, .unset, .unset, .unset, .unset]) rfl ?_
    show Steps p.tables e below (T84.setTop (mkF m 42 #[.val (.int p1), .val (.int p2), .val (.int p3), .val (.int p4), .val (.int p5), .val (.int p6), .val (.ref (own_F1 ((p5 &&& (3 : Int32)) % (3 : Int32)) wI wA wV)), .val (.ref (own_F1 ((((p5.toUInt32 >>> ((2 : Int32) &&& 31).toUInt32).toInt32) &&& (3 : Int32)) % (3 : Int32)) wI wA wV)), .val (.int (if (p5 &&& (16 : Int32)) = (0 : Int32) then p1 else (p1 ^^^ p6))), .unset, .unset, .unset, .unset, .unset, .unset, .unset, .unset] [])) _
    refine XS.iload X84.here hx rfl (hb hby at_42) rfl ?_
    show Steps p.tables e below (T84.setTop (mkF m 44 #[.val (.int p1), .val (.int p2), .val (.int p3), .val (.int p4), .val (.int p5), .val (.int p6), .val (.ref (own_F1 ((p5 &&& (3 : Int32)) % (3 : Int32)) wI wA wV)), .val (.ref (own_F1 ((((p5.toUInt32 >>> ((2 : Int32) &&& 31).toUInt32).toInt32) &&& (3 : Int32)) % (3 : Int32)) wI wA wV)), .val (.int (if (p5 &&& (16 : Int32)) = (0 : Int32) then p1 else (p1 ^^^ p6))), .unset, .unset, .unset, .unset, .unset, .unset, .unset, .unset] [(.int p5)])) _
    refine XS.bipush X84.here hx rfl (hb hby at_44) ?_
    show Steps p.tables e below (T84.setTop (mkF m 46 #[.val (.int p1), .val (.int p2), .val (.int p3), .val (.int p4), .val (.int p5), .val (.int p6), .val (.ref (own_F1 ((p5 &&& (3 : Int32)) % (3 : Int32)) wI wA wV)), .val (.ref (own_F1 ((((p5.toUInt32 >>> ((2 : Int32) &&& 31).toUInt32).toInt32) &&& (3 : Int32)) % (3 : Int32)) wI wA wV)), .val (.int (if (p5 &&& (16 : Int32)) = (0 : Int32) then p1 else (p1 ^^^ p6))), .unset, .unset, .unset, .unset, .unset, .unset, .unset, .unset] [(.int (32 : Int32)), (.int p5)])) _
    refine XS.iand X84.here hx rfl (hb hby at_46) rfl ?_
    by_cases hj47_87 : (p5 &&& (32 : Int32)) = (0 : Int32)
    · rw [if_pos hj47_87] at kt
      show Steps p.tables e below (T84.setTop (mkF m 47 #[.val (.int p1), .val (.int p2), .val (.int p3), .val (.int p4), .val (.int p5), .val (.int p6), .val (.ref (own_F1 ((p5 &&& (3 : Int32)) % (3 : Int32)) wI wA wV)), .val (.ref (own_F1 ((((p5.toUInt32 >>> ((2 : Int32) &&& 31).toUInt32).toInt32) &&& (3 : Int32)) % (3 : Int32)) wI wA wV)), .val (.int (if (p5 &&& (16 : Int32)) = (0 : Int32) then p1 else (p1 ^^^ p6))), .unset, .unset, .unset, .unset, .unset, .unset, .unset, .unset] [(.int (p5 &&& (32 : Int32)))])) _
      refine XS.ifYes X84.here hx rfl (pc0 := 47) (pc' := 57) rfl (hb hby at_47) rfl ((if0 _ _).trans (teq hj47_87).1) (by decide) (by decide) ?_
      show Steps p.tables e below (T84.setTop (mkF m 57 #[.val (.int p1), .val (.int p2), .val (.int p3), .val (.int p4), .val (.int p5), .val (.int p6), .val (.ref (own_F1 ((p5 &&& (3 : Int32)) % (3 : Int32)) wI wA wV)), .val (.ref (own_F1 ((((p5.toUInt32 >>> ((2 : Int32) &&& 31).toUInt32).toInt32) &&& (3 : Int32)) % (3 : Int32)) wI wA wV)), .val (.int (if (p5 &&& (16 : Int32)) = (0 : Int32) then p1 else (p1 ^^^ p6))), .unset, .unset, .unset, .unset, .unset, .unset, .unset, .unset] [])) _
      refine XS.iloadN X84.here hx rfl (hb hby at_57) rfl ?_
      exact kt
    · rw [if_neg hj47_87] at kt
      show Steps p.tables e below (T84.setTop (mkF m 47 #[.val (.int p1), .val (.int p2), .val (.int p3), .val (.int p4), .val (.int p5), .val (.int p6), .val (.ref (own_F1 ((p5 &&& (3 : Int32)) % (3 : Int32)) wI wA wV)), .val (.ref (own_F1 ((((p5.toUInt32 >>> ((2 : Int32) &&& 31).toUInt32).toInt32) &&& (3 : Int32)) % (3 : Int32)) wI wA wV)), .val (.int (if (p5 &&& (16 : Int32)) = (0 : Int32) then p1 else (p1 ^^^ p6))), .unset, .unset, .unset, .unset, .unset, .unset, .unset, .unset] [(.int (p5 &&& (32 : Int32)))])) _
      refine XS.ifNo X84.here hx rfl (hb hby at_47) rfl ((if0 _ _).trans (feq hj47_87).1) ?_
      show Steps p.tables e below (T84.setTop (mkF m 50 #[.val (.int p1), .val (.int p2), .val (.int p3), .val (.int p4), .val (.int p5), .val (.int p6), .val (.ref (own_F1 ((p5 &&& (3 : Int32)) % (3 : Int32)) wI wA wV)), .val (.ref (own_F1 ((((p5.toUInt32 >>> ((2 : Int32) &&& 31).toUInt32).toInt32) &&& (3 : Int32)) % (3 : Int32)) wI wA wV)), .val (.int (if (p5 &&& (16 : Int32)) = (0 : Int32) then p1 else (p1 ^^^ p6))), .unset, .unset, .unset, .unset, .unset, .unset, .unset, .unset] [])) _
      refine XS.iloadN X84.here hx rfl (hb hby at_50) rfl ?_
      show Steps p.tables e below (T84.setTop (mkF m 51 #[.val (.int p1), .val (.int p2), .val (.int p3), .val (.int p4), .val (.int p5), .val (.int p6), .val (.ref (own_F1 ((p5 &&& (3 : Int32)) % (3 : Int32)) wI wA wV)), .val (.ref (own_F1 ((((p5.toUInt32 >>> ((2 : Int32) &&& 31).toUInt32).toInt32) &&& (3 : Int32)) % (3 : Int32)) wI wA wV)), .val (.int (if (p5 &&& (16 : Int32)) = (0 : Int32) then p1 else (p1 ^^^ p6))), .unset, .unset, .unset, .unset, .unset, .unset, .unset, .unset] [(.int p2)])) _
      refine XS.iload X84.here hx rfl (hb hby at_51) rfl ?_
      show Steps p.tables e below (T84.setTop (mkF m 53 #[.val (.int p1), .val (.int p2), .val (.int p3), .val (.int p4), .val (.int p5), .val (.int p6), .val (.ref (own_F1 ((p5 &&& (3 : Int32)) % (3 : Int32)) wI wA wV)), .val (.ref (own_F1 ((((p5.toUInt32 >>> ((2 : Int32) &&& 31).toUInt32).toInt32) &&& (3 : Int32)) % (3 : Int32)) wI wA wV)), .val (.int (if (p5 &&& (16 : Int32)) = (0 : Int32) then p1 else (p1 ^^^ p6))), .unset, .unset, .unset, .unset, .unset, .unset, .unset, .unset] [(.int p6), (.int p2)])) _
      refine XS.ixor X84.here hx rfl (hb hby at_53) rfl ?_
      show Steps p.tables e below (T84.setTop (mkF m 54 #[.val (.int p1), .val (.int p2), .val (.int p3), .val (.int p4), .val (.int p5), .val (.int p6), .val (.ref (own_F1 ((p5 &&& (3 : Int32)) % (3 : Int32)) wI wA wV)), .val (.ref (own_F1 ((((p5.toUInt32 >>> ((2 : Int32) &&& 31).toUInt32).toInt32) &&& (3 : Int32)) % (3 : Int32)) wI wA wV)), .val (.int (if (p5 &&& (16 : Int32)) = (0 : Int32) then p1 else (p1 ^^^ p6))), .unset, .unset, .unset, .unset, .unset, .unset, .unset, .unset] [(.int (p2 ^^^ p6))])) _
      refine XS.goto X84.here hx rfl (pc0 := 54) (pc' := 58) rfl (hb hby at_54) (by decide) (by decide) ?_
      exact kt
  have pre90 : ∀ t, Steps p.tables e below (T84.setTop (mkF m 76 #[.val (.int p1), .val (.int p2), .val (.int p3), .val (.int p4), .val (.int p5), .val (.int p6), .val (.ref (own_F1 ((p5 &&& (3 : Int32)) % (3 : Int32)) wI wA wV)), .val (.ref (own_F1 ((((p5.toUInt32 >>> ((2 : Int32) &&& 31).toUInt32).toInt32) &&& (3 : Int32)) % (3 : Int32)) wI wA wV)), .val (.int (if (p5 &&& (16 : Int32)) = (0 : Int32) then p1 else (p1 ^^^ p6))), .val (.int (if (p5 &&& (32 : Int32)) = (0 : Int32) then p2 else (p2 ^^^ p6))), .unset, .unset, .unset, .unset, .unset, .unset, .unset] [(.int (if (p5 &&& (64 : Int32)) = (0 : Int32) then p3 else (p3 ^^^ p6)))])) t → Steps p.tables e below (s₁.setTop (entryFrame m #[(.int p1), (.int p2), (.int p3), (.int p4), (.int p5), (.int p6)] maxLocals)) t := by
    intro t kt
    refine pre88 _ ?_
    show Steps p.tables e below (T84.setTop (mkF m 58 #[.val (.int p1), .val (.int p2), .val (.int p3), .val (.int p4), .val (.int p5), .val (.int p6), .val (.ref (own_F1 ((p5 &&& (3 : Int32)) % (3 : Int32)) wI wA wV)), .val (.ref (own_F1 ((((p5.toUInt32 >>> ((2 : Int32) &&& 31).toUInt32).toInt32) &&& (3 : Int32)) % (3 : Int32)) wI wA wV)), .val (.int (if (p5 &&& (16 : Int32)) = (0 : Int32) then p1 else (p1 ^^^ p6))), .unset, .unset, .unset, .unset, .unset, .unset, .unset, .unset] [(.int (if (p5 &&& (32 : Int32)) = (0 : Int32) then p2 else (p2 ^^^ p6)))])) _
    refine XS.istore X84.here hx rfl (hb hby at_58) rfl (l' := #[.val (.int p1), .val (.int p2), .val (.int p3), .val (.int p4), .val (.int p5), .val (.int p6), .val (.ref (own_F1 ((p5 &&& (3 : Int32)) % (3 : Int32)) wI wA wV)), .val (.ref (own_F1 ((((p5.toUInt32 >>> ((2 : Int32) &&& 31).toUInt32).toInt32) &&& (3 : Int32)) % (3 : Int32)) wI wA wV)), .val (.int (if (p5 &&& (16 : Int32)) = (0 : Int32) then p1 else (p1 ^^^ p6))), .val (.int (if (p5 &&& (32 : Int32)) = (0 : Int32) then p2 else (p2 ^^^ p6))), .unset, .unset, .unset, .unset, .unset, .unset, .unset]) rfl ?_
    show Steps p.tables e below (T84.setTop (mkF m 60 #[.val (.int p1), .val (.int p2), .val (.int p3), .val (.int p4), .val (.int p5), .val (.int p6), .val (.ref (own_F1 ((p5 &&& (3 : Int32)) % (3 : Int32)) wI wA wV)), .val (.ref (own_F1 ((((p5.toUInt32 >>> ((2 : Int32) &&& 31).toUInt32).toInt32) &&& (3 : Int32)) % (3 : Int32)) wI wA wV)), .val (.int (if (p5 &&& (16 : Int32)) = (0 : Int32) then p1 else (p1 ^^^ p6))), .val (.int (if (p5 &&& (32 : Int32)) = (0 : Int32) then p2 else (p2 ^^^ p6))), .unset, .unset, .unset, .unset, .unset, .unset, .unset] [])) _
    refine XS.iload X84.here hx rfl (hb hby at_60) rfl ?_
    show Steps p.tables e below (T84.setTop (mkF m 62 #[.val (.int p1), .val (.int p2), .val (.int p3), .val (.int p4), .val (.int p5), .val (.int p6), .val (.ref (own_F1 ((p5 &&& (3 : Int32)) % (3 : Int32)) wI wA wV)), .val (.ref (own_F1 ((((p5.toUInt32 >>> ((2 : Int32) &&& 31).toUInt32).toInt32) &&& (3 : Int32)) % (3 : Int32)) wI wA wV)), .val (.int (if (p5 &&& (16 : Int32)) = (0 : Int32) then p1 else (p1 ^^^ p6))), .val (.int (if (p5 &&& (32 : Int32)) = (0 : Int32) then p2 else (p2 ^^^ p6))), .unset, .unset, .unset, .unset, .unset, .unset, .unset] [(.int p5)])) _
    refine XS.bipush X84.here hx rfl (hb hby at_62) ?_
    show Steps p.tables e below (T84.setTop (mkF m 64 #[.val (.int p1), .val (.int p2), .val (.int p3), .val (.int p4), .val (.int p5), .val (.int p6), .val (.ref (own_F1 ((p5 &&& (3 : Int32)) % (3 : Int32)) wI wA wV)), .val (.ref (own_F1 ((((p5.toUInt32 >>> ((2 : Int32) &&& 31).toUInt32).toInt32) &&& (3 : Int32)) % (3 : Int32)) wI wA wV)), .val (.int (if (p5 &&& (16 : Int32)) = (0 : Int32) then p1 else (p1 ^^^ p6))), .val (.int (if (p5 &&& (32 : Int32)) = (0 : Int32) then p2 else (p2 ^^^ p6))), .unset, .unset, .unset, .unset, .unset, .unset, .unset] [(.int (64 : Int32)), (.int p5)])) _
    refine XS.iand X84.here hx rfl (hb hby at_64) rfl ?_
    by_cases hj65_89 : (p5 &&& (64 : Int32)) = (0 : Int32)
    · rw [if_pos hj65_89] at kt
      show Steps p.tables e below (T84.setTop (mkF m 65 #[.val (.int p1), .val (.int p2), .val (.int p3), .val (.int p4), .val (.int p5), .val (.int p6), .val (.ref (own_F1 ((p5 &&& (3 : Int32)) % (3 : Int32)) wI wA wV)), .val (.ref (own_F1 ((((p5.toUInt32 >>> ((2 : Int32) &&& 31).toUInt32).toInt32) &&& (3 : Int32)) % (3 : Int32)) wI wA wV)), .val (.int (if (p5 &&& (16 : Int32)) = (0 : Int32) then p1 else (p1 ^^^ p6))), .val (.int (if (p5 &&& (32 : Int32)) = (0 : Int32) then p2 else (p2 ^^^ p6))), .unset, .unset, .unset, .unset, .unset, .unset, .unset] [(.int (p5 &&& (64 : Int32)))])) _
      refine XS.ifYes X84.here hx rfl (pc0 := 65) (pc' := 75) rfl (hb hby at_65) rfl ((if0 _ _).trans (teq hj65_89).1) (by decide) (by decide) ?_
      show Steps p.tables e below (T84.setTop (mkF m 75 #[.val (.int p1), .val (.int p2), .val (.int p3), .val (.int p4), .val (.int p5), .val (.int p6), .val (.ref (own_F1 ((p5 &&& (3 : Int32)) % (3 : Int32)) wI wA wV)), .val (.ref (own_F1 ((((p5.toUInt32 >>> ((2 : Int32) &&& 31).toUInt32).toInt32) &&& (3 : Int32)) % (3 : Int32)) wI wA wV)), .val (.int (if (p5 &&& (16 : Int32)) = (0 : Int32) then p1 else (p1 ^^^ p6))), .val (.int (if (p5 &&& (32 : Int32)) = (0 : Int32) then p2 else (p2 ^^^ p6))), .unset, .unset, .unset, .unset, .unset, .unset, .unset] [])) _
      refine XS.iloadN X84.here hx rfl (hb hby at_75) rfl ?_
      exact kt
    · rw [if_neg hj65_89] at kt
      show Steps p.tables e below (T84.setTop (mkF m 65 #[.val (.int p1), .val (.int p2), .val (.int p3), .val (.int p4), .val (.int p5), .val (.int p6), .val (.ref (own_F1 ((p5 &&& (3 : Int32)) % (3 : Int32)) wI wA wV)), .val (.ref (own_F1 ((((p5.toUInt32 >>> ((2 : Int32) &&& 31).toUInt32).toInt32) &&& (3 : Int32)) % (3 : Int32)) wI wA wV)), .val (.int (if (p5 &&& (16 : Int32)) = (0 : Int32) then p1 else (p1 ^^^ p6))), .val (.int (if (p5 &&& (32 : Int32)) = (0 : Int32) then p2 else (p2 ^^^ p6))), .unset, .unset, .unset, .unset, .unset, .unset, .unset] [(.int (p5 &&& (64 : Int32)))])) _
      refine XS.ifNo X84.here hx rfl (hb hby at_65) rfl ((if0 _ _).trans (feq hj65_89).1) ?_
      show Steps p.tables e below (T84.setTop (mkF m 68 #[.val (.int p1), .val (.int p2), .val (.int p3), .val (.int p4), .val (.int p5), .val (.int p6), .val (.ref (own_F1 ((p5 &&& (3 : Int32)) % (3 : Int32)) wI wA wV)), .val (.ref (own_F1 ((((p5.toUInt32 >>> ((2 : Int32) &&& 31).toUInt32).toInt32) &&& (3 : Int32)) % (3 : Int32)) wI wA wV)), .val (.int (if (p5 &&& (16 : Int32)) = (0 : Int32) then p1 else (p1 ^^^ p6))), .val (.int (if (p5 &&& (32 : Int32)) = (0 : Int32) then p2 else (p2 ^^^ p6))), .unset, .unset, .unset, .unset, .unset, .unset, .unset] [])) _
      refine XS.iloadN X84.here hx rfl (hb hby at_68) rfl ?_
      show Steps p.tables e below (T84.setTop (mkF m 69 #[.val (.int p1), .val (.int p2), .val (.int p3), .val (.int p4), .val (.int p5), .val (.int p6), .val (.ref (own_F1 ((p5 &&& (3 : Int32)) % (3 : Int32)) wI wA wV)), .val (.ref (own_F1 ((((p5.toUInt32 >>> ((2 : Int32) &&& 31).toUInt32).toInt32) &&& (3 : Int32)) % (3 : Int32)) wI wA wV)), .val (.int (if (p5 &&& (16 : Int32)) = (0 : Int32) then p1 else (p1 ^^^ p6))), .val (.int (if (p5 &&& (32 : Int32)) = (0 : Int32) then p2 else (p2 ^^^ p6))), .unset, .unset, .unset, .unset, .unset, .unset, .unset] [(.int p3)])) _
      refine XS.iload X84.here hx rfl (hb hby at_69) rfl ?_
      show Steps p.tables e below (T84.setTop (mkF m 71 #[.val (.int p1), .val (.int p2), .val (.int p3), .val (.int p4), .val (.int p5), .val (.int p6), .val (.ref (own_F1 ((p5 &&& (3 : Int32)) % (3 : Int32)) wI wA wV)), .val (.ref (own_F1 ((((p5.toUInt32 >>> ((2 : Int32) &&& 31).toUInt32).toInt32) &&& (3 : Int32)) % (3 : Int32)) wI wA wV)), .val (.int (if (p5 &&& (16 : Int32)) = (0 : Int32) then p1 else (p1 ^^^ p6))), .val (.int (if (p5 &&& (32 : Int32)) = (0 : Int32) then p2 else (p2 ^^^ p6))), .unset, .unset, .unset, .unset, .unset, .unset, .unset] [(.int p6), (.int p3)])) _
      refine XS.ixor X84.here hx rfl (hb hby at_71) rfl ?_
      show Steps p.tables e below (T84.setTop (mkF m 72 #[.val (.int p1), .val (.int p2), .val (.int p3), .val (.int p4), .val (.int p5), .val (.int p6), .val (.ref (own_F1 ((p5 &&& (3 : Int32)) % (3 : Int32)) wI wA wV)), .val (.ref (own_F1 ((((p5.toUInt32 >>> ((2 : Int32) &&& 31).toUInt32).toInt32) &&& (3 : Int32)) % (3 : Int32)) wI wA wV)), .val (.int (if (p5 &&& (16 : Int32)) = (0 : Int32) then p1 else (p1 ^^^ p6))), .val (.int (if (p5 &&& (32 : Int32)) = (0 : Int32) then p2 else (p2 ^^^ p6))), .unset, .unset, .unset, .unset, .unset, .unset, .unset] [(.int (p3 ^^^ p6))])) _
      refine XS.goto X84.here hx rfl (pc0 := 72) (pc' := 76) rfl (hb hby at_72) (by decide) (by decide) ?_
      exact kt
  have pre92 : ∀ t, Steps p.tables e below (T84.setTop (mkF m 95 #[.val (.int p1), .val (.int p2), .val (.int p3), .val (.int p4), .val (.int p5), .val (.int p6), .val (.ref (own_F1 ((p5 &&& (3 : Int32)) % (3 : Int32)) wI wA wV)), .val (.ref (own_F1 ((((p5.toUInt32 >>> ((2 : Int32) &&& 31).toUInt32).toInt32) &&& (3 : Int32)) % (3 : Int32)) wI wA wV)), .val (.int (if (p5 &&& (16 : Int32)) = (0 : Int32) then p1 else (p1 ^^^ p6))), .val (.int (if (p5 &&& (32 : Int32)) = (0 : Int32) then p2 else (p2 ^^^ p6))), .val (.int (if (p5 &&& (64 : Int32)) = (0 : Int32) then p3 else (p3 ^^^ p6))), .unset, .unset, .unset, .unset, .unset, .unset] [(.int (if (p5 &&& (128 : Int32)) = (0 : Int32) then p4 else (p4 ^^^ p6)))])) t → Steps p.tables e below (s₁.setTop (entryFrame m #[(.int p1), (.int p2), (.int p3), (.int p4), (.int p5), (.int p6)] maxLocals)) t := by
    intro t kt
    refine pre90 _ ?_
    show Steps p.tables e below (T84.setTop (mkF m 76 #[.val (.int p1), .val (.int p2), .val (.int p3), .val (.int p4), .val (.int p5), .val (.int p6), .val (.ref (own_F1 ((p5 &&& (3 : Int32)) % (3 : Int32)) wI wA wV)), .val (.ref (own_F1 ((((p5.toUInt32 >>> ((2 : Int32) &&& 31).toUInt32).toInt32) &&& (3 : Int32)) % (3 : Int32)) wI wA wV)), .val (.int (if (p5 &&& (16 : Int32)) = (0 : Int32) then p1 else (p1 ^^^ p6))), .val (.int (if (p5 &&& (32 : Int32)) = (0 : Int32) then p2 else (p2 ^^^ p6))), .unset, .unset, .unset, .unset, .unset, .unset, .unset] [(.int (if (p5 &&& (64 : Int32)) = (0 : Int32) then p3 else (p3 ^^^ p6)))])) _
    refine XS.istore X84.here hx rfl (hb hby at_76) rfl (l' := #[.val (.int p1), .val (.int p2), .val (.int p3), .val (.int p4), .val (.int p5), .val (.int p6), .val (.ref (own_F1 ((p5 &&& (3 : Int32)) % (3 : Int32)) wI wA wV)), .val (.ref (own_F1 ((((p5.toUInt32 >>> ((2 : Int32) &&& 31).toUInt32).toInt32) &&& (3 : Int32)) % (3 : Int32)) wI wA wV)), .val (.int (if (p5 &&& (16 : Int32)) = (0 : Int32) then p1 else (p1 ^^^ p6))), .val (.int (if (p5 &&& (32 : Int32)) = (0 : Int32) then p2 else (p2 ^^^ p6))), .val (.int (if (p5 &&& (64 : Int32)) = (0 : Int32) then p3 else (p3 ^^^ p6))), .unset, .unset, .unset, .unset, .unset, .unset]) rfl ?_
    show Steps p.tables e below (T84.setTop (mkF m 78 #[.val (.int p1), .val (.int p2), .val (.int p3), .val (.int p4), .val (.int p5), .val (.int p6), .val (.ref (own_F1 ((p5 &&& (3 : Int32)) % (3 : Int32)) wI wA wV)), .val (.ref (own_F1 ((((p5.toUInt32 >>> ((2 : Int32) &&& 31).toUInt32).toInt32) &&& (3 : Int32)) % (3 : Int32)) wI wA wV)), .val (.int (if (p5 &&& (16 : Int32)) = (0 : Int32) then p1 else (p1 ^^^ p6))), .val (.int (if (p5 &&& (32 : Int32)) = (0 : Int32) then p2 else (p2 ^^^ p6))), .val (.int (if (p5 &&& (64 : Int32)) = (0 : Int32) then p3 else (p3 ^^^ p6))), .unset, .unset, .unset, .unset, .unset, .unset] [])) _
    refine XS.iload X84.here hx rfl (hb hby at_78) rfl ?_
    show Steps p.tables e below (T84.setTop (mkF m 80 #[.val (.int p1), .val (.int p2), .val (.int p3), .val (.int p4), .val (.int p5), .val (.int p6), .val (.ref (own_F1 ((p5 &&& (3 : Int32)) % (3 : Int32)) wI wA wV)), .val (.ref (own_F1 ((((p5.toUInt32 >>> ((2 : Int32) &&& 31).toUInt32).toInt32) &&& (3 : Int32)) % (3 : Int32)) wI wA wV)), .val (.int (if (p5 &&& (16 : Int32)) = (0 : Int32) then p1 else (p1 ^^^ p6))), .val (.int (if (p5 &&& (32 : Int32)) = (0 : Int32) then p2 else (p2 ^^^ p6))), .val (.int (if (p5 &&& (64 : Int32)) = (0 : Int32) then p3 else (p3 ^^^ p6))), .unset, .unset, .unset, .unset, .unset, .unset] [(.int p5)])) _
    refine XS.sipush X84.here hx rfl (hb hby at_80) ?_
    show Steps p.tables e below (T84.setTop (mkF m 83 #[.val (.int p1), .val (.int p2), .val (.int p3), .val (.int p4), .val (.int p5), .val (.int p6), .val (.ref (own_F1 ((p5 &&& (3 : Int32)) % (3 : Int32)) wI wA wV)), .val (.ref (own_F1 ((((p5.toUInt32 >>> ((2 : Int32) &&& 31).toUInt32).toInt32) &&& (3 : Int32)) % (3 : Int32)) wI wA wV)), .val (.int (if (p5 &&& (16 : Int32)) = (0 : Int32) then p1 else (p1 ^^^ p6))), .val (.int (if (p5 &&& (32 : Int32)) = (0 : Int32) then p2 else (p2 ^^^ p6))), .val (.int (if (p5 &&& (64 : Int32)) = (0 : Int32) then p3 else (p3 ^^^ p6))), .unset, .unset, .unset, .unset, .unset, .unset] [(.int (128 : Int32)), (.int p5)])) _
    refine XS.iand X84.here hx rfl (hb hby at_83) rfl ?_
    by_cases hj84_91 : (p5 &&& (128 : Int32)) = (0 : Int32)
    · rw [if_pos hj84_91] at kt
      show Steps p.tables e below (T84.setTop (mkF m 84 #[.val (.int p1), .val (.int p2), .val (.int p3), .val (.int p4), .val (.int p5), .val (.int p6), .val (.ref (own_F1 ((p5 &&& (3 : Int32)) % (3 : Int32)) wI wA wV)), .val (.ref (own_F1 ((((p5.toUInt32 >>> ((2 : Int32) &&& 31).toUInt32).toInt32) &&& (3 : Int32)) % (3 : Int32)) wI wA wV)), .val (.int (if (p5 &&& (16 : Int32)) = (0 : Int32) then p1 else (p1 ^^^ p6))), .val (.int (if (p5 &&& (32 : Int32)) = (0 : Int32) then p2 else (p2 ^^^ p6))), .val (.int (if (p5 &&& (64 : Int32)) = (0 : Int32) then p3 else (p3 ^^^ p6))), .unset, .unset, .unset, .unset, .unset, .unset] [(.int (p5 &&& (128 : Int32)))])) _
      refine XS.ifYes X84.here hx rfl (pc0 := 84) (pc' := 94) rfl (hb hby at_84) rfl ((if0 _ _).trans (teq hj84_91).1) (by decide) (by decide) ?_
      show Steps p.tables e below (T84.setTop (mkF m 94 #[.val (.int p1), .val (.int p2), .val (.int p3), .val (.int p4), .val (.int p5), .val (.int p6), .val (.ref (own_F1 ((p5 &&& (3 : Int32)) % (3 : Int32)) wI wA wV)), .val (.ref (own_F1 ((((p5.toUInt32 >>> ((2 : Int32) &&& 31).toUInt32).toInt32) &&& (3 : Int32)) % (3 : Int32)) wI wA wV)), .val (.int (if (p5 &&& (16 : Int32)) = (0 : Int32) then p1 else (p1 ^^^ p6))), .val (.int (if (p5 &&& (32 : Int32)) = (0 : Int32) then p2 else (p2 ^^^ p6))), .val (.int (if (p5 &&& (64 : Int32)) = (0 : Int32) then p3 else (p3 ^^^ p6))), .unset, .unset, .unset, .unset, .unset, .unset] [])) _
      refine XS.iloadN X84.here hx rfl (hb hby at_94) rfl ?_
      exact kt
    · rw [if_neg hj84_91] at kt
      show Steps p.tables e below (T84.setTop (mkF m 84 #[.val (.int p1), .val (.int p2), .val (.int p3), .val (.int p4), .val (.int p5), .val (.int p6), .val (.ref (own_F1 ((p5 &&& (3 : Int32)) % (3 : Int32)) wI wA wV)), .val (.ref (own_F1 ((((p5.toUInt32 >>> ((2 : Int32) &&& 31).toUInt32).toInt32) &&& (3 : Int32)) % (3 : Int32)) wI wA wV)), .val (.int (if (p5 &&& (16 : Int32)) = (0 : Int32) then p1 else (p1 ^^^ p6))), .val (.int (if (p5 &&& (32 : Int32)) = (0 : Int32) then p2 else (p2 ^^^ p6))), .val (.int (if (p5 &&& (64 : Int32)) = (0 : Int32) then p3 else (p3 ^^^ p6))), .unset, .unset, .unset, .unset, .unset, .unset] [(.int (p5 &&& (128 : Int32)))])) _
      refine XS.ifNo X84.here hx rfl (hb hby at_84) rfl ((if0 _ _).trans (feq hj84_91).1) ?_
      show Steps p.tables e below (T84.setTop (mkF m 87 #[.val (.int p1), .val (.int p2), .val (.int p3), .val (.int p4), .val (.int p5), .val (.int p6), .val (.ref (own_F1 ((p5 &&& (3 : Int32)) % (3 : Int32)) wI wA wV)), .val (.ref (own_F1 ((((p5.toUInt32 >>> ((2 : Int32) &&& 31).toUInt32).toInt32) &&& (3 : Int32)) % (3 : Int32)) wI wA wV)), .val (.int (if (p5 &&& (16 : Int32)) = (0 : Int32) then p1 else (p1 ^^^ p6))), .val (.int (if (p5 &&& (32 : Int32)) = (0 : Int32) then p2 else (p2 ^^^ p6))), .val (.int (if (p5 &&& (64 : Int32)) = (0 : Int32) then p3 else (p3 ^^^ p6))), .unset, .unset, .unset, .unset, .unset, .unset] [])) _
      refine XS.iloadN X84.here hx rfl (hb hby at_87) rfl ?_
      show Steps p.tables e below (T84.setTop (mkF m 88 #[.val (.int p1), .val (.int p2), .val (.int p3), .val (.int p4), .val (.int p5), .val (.int p6), .val (.ref (own_F1 ((p5 &&& (3 : Int32)) % (3 : Int32)) wI wA wV)), .val (.ref (own_F1 ((((p5.toUInt32 >>> ((2 : Int32) &&& 31).toUInt32).toInt32) &&& (3 : Int32)) % (3 : Int32)) wI wA wV)), .val (.int (if (p5 &&& (16 : Int32)) = (0 : Int32) then p1 else (p1 ^^^ p6))), .val (.int (if (p5 &&& (32 : Int32)) = (0 : Int32) then p2 else (p2 ^^^ p6))), .val (.int (if (p5 &&& (64 : Int32)) = (0 : Int32) then p3 else (p3 ^^^ p6))), .unset, .unset, .unset, .unset, .unset, .unset] [(.int p4)])) _
      refine XS.iload X84.here hx rfl (hb hby at_88) rfl ?_
      show Steps p.tables e below (T84.setTop (mkF m 90 #[.val (.int p1), .val (.int p2), .val (.int p3), .val (.int p4), .val (.int p5), .val (.int p6), .val (.ref (own_F1 ((p5 &&& (3 : Int32)) % (3 : Int32)) wI wA wV)), .val (.ref (own_F1 ((((p5.toUInt32 >>> ((2 : Int32) &&& 31).toUInt32).toInt32) &&& (3 : Int32)) % (3 : Int32)) wI wA wV)), .val (.int (if (p5 &&& (16 : Int32)) = (0 : Int32) then p1 else (p1 ^^^ p6))), .val (.int (if (p5 &&& (32 : Int32)) = (0 : Int32) then p2 else (p2 ^^^ p6))), .val (.int (if (p5 &&& (64 : Int32)) = (0 : Int32) then p3 else (p3 ^^^ p6))), .unset, .unset, .unset, .unset, .unset, .unset] [(.int p6), (.int p4)])) _
      refine XS.ixor X84.here hx rfl (hb hby at_90) rfl ?_
      show Steps p.tables e below (T84.setTop (mkF m 91 #[.val (.int p1), .val (.int p2), .val (.int p3), .val (.int p4), .val (.int p5), .val (.int p6), .val (.ref (own_F1 ((p5 &&& (3 : Int32)) % (3 : Int32)) wI wA wV)), .val (.ref (own_F1 ((((p5.toUInt32 >>> ((2 : Int32) &&& 31).toUInt32).toInt32) &&& (3 : Int32)) % (3 : Int32)) wI wA wV)), .val (.int (if (p5 &&& (16 : Int32)) = (0 : Int32) then p1 else (p1 ^^^ p6))), .val (.int (if (p5 &&& (32 : Int32)) = (0 : Int32) then p2 else (p2 ^^^ p6))), .val (.int (if (p5 &&& (64 : Int32)) = (0 : Int32) then p3 else (p3 ^^^ p6))), .unset, .unset, .unset, .unset, .unset, .unset] [(.int (p4 ^^^ p6))])) _
      refine XS.goto X84.here hx rfl (pc0 := 91) (pc' := 95) rfl (hb hby at_91) (by decide) (by decide) ?_
      exact kt
  obtain ⟨T93, h93, X93, e93, E93, A93, D93, -, st93⟩ := newO X84 hx hZ hown (hw _ (List.mem_of_getElem? (i := 7) rfl)) (hw _ (List.mem_of_getElem? (i := 8) rfl)) (hw _ (List.mem_of_getElem? (i := 9) rfl)) e84 (g := (mkF m 106 #[.val (.int p1), .val (.int p2), .val (.int p3), .val (.int p4), .val (.int p5), .val (.int p6), .val (.ref (own_F1 ((p5 &&& (3 : Int32)) % (3 : Int32)) wI wA wV)), .val (.ref (own_F1 ((((p5.toUInt32 >>> ((2 : Int32) &&& 31).toUInt32).toInt32) &&& (3 : Int32)) % (3 : Int32)) wI wA wV)), .val (.int (if (p5 &&& (16 : Int32)) = (0 : Int32) then p1 else (p1 ^^^ p6))), .val (.int (if (p5 &&& (32 : Int32)) = (0 : Int32) then p2 else (p2 ^^^ p6))), .val (.int (if (p5 &&& (64 : Int32)) = (0 : Int32) then p3 else (p3 ^^^ p6))), .val (.int (if (p5 &&& (128 : Int32)) = (0 : Int32) then p4 else (p4 ^^^ p6))), .val (.int (((p5.toUInt32 >>> ((8 : Int32) &&& 31).toUInt32).toInt32) &&& (3 : Int32))), .unset, .unset, .unset, .unset] [])) rfl (hb hby at_106) (by decide) (by decide)
  obtain ⟨b93, g93⟩ : ∃ z, z = h0.size := ⟨_, rfl⟩
  rw [← g93] at A93 D93 st93
  have g_b93 : n0 ≤ b93 := Nat.le_trans Z0 (Nat.le_of_eq g93.symm)
  have sz_b93 : h0.size ≤ b93 := Nat.le_trans (Keep.refl h0 []).1 (Nat.le_of_eq g93.symm)
  have K93 : Keep h0 h93 [] := (Keep.refl h0 []).ext E93
  have f94 : Fld Z h93 b93 "com/example/cluster_protocol_models/clusterprotocolmodels/hermes/Message" "kind" "Lcom/example/cluster_protocol_models/clusterprotocolmodels/hermes/Message$Kind;" .null := D93 (Or.inr (hw _ (List.mem_of_getElem? (i := 17) rfl))) (ty := (.object "com/example/cluster_protocol_models/clusterprotocolmodels/hermes/Message$Kind")) (by decide)
  have f95 : Fld Z h93 b93 "com/example/cluster_protocol_models/clusterprotocolmodels/hermes/Message" "sender" "I" (.int (0 : Int32)) := D93 (Or.inr (hw _ (List.mem_of_getElem? (i := 19) rfl))) (ty := .int) (by decide)
  have f96 : Fld Z h93 b93 "com/example/cluster_protocol_models/clusterprotocolmodels/hermes/Message" "epoch" "I" (.int (0 : Int32)) := D93 (Or.inr (hw _ (List.mem_of_getElem? (i := 21) rfl))) (ty := .int) (by decide)
  have f97 : Fld Z h93 b93 "com/example/cluster_protocol_models/clusterprotocolmodels/hermes/Message" "version" "I" (.int (0 : Int32)) := D93 (Or.inr (hw _ (List.mem_of_getElem? (i := 23) rfl))) (ty := .int) (by decide)
  have f98 : Fld Z h93 b93 "com/example/cluster_protocol_models/clusterprotocolmodels/hermes/Message" "tieBreaker" "I" (.int (0 : Int32)) := D93 (Or.inr (hw _ (List.mem_of_getElem? (i := 25) rfl))) (ty := .int) (by decide)
  obtain ⟨_, _, ⟨T99, L99, k99, n99⟩, -, X99, ⟨Lc99, hQ99, l99, y99, z99⟩, st99⟩ := X93.specialBack hx (y := (⟨"com/example/cluster_protocol_models/clusterprotocolmodels/hermes/Message", "<init>", "(Lcom/example/cluster_protocol_models/clusterprotocolmodels/hermes/Message$Kind;IIII)V"⟩ : MethodName)) rfl hown (mvT hZ (hw _ (List.mem_of_getElem? (i := 10) rfl))) (mvT hZ (hw _ (List.mem_of_getElem? (i := 11) rfl))) (mvT hZ (hw _ (List.mem_of_getElem? (i := 12) rfl))) (by decide) (backOf (W := 1) (rm2 l Z a0 hw [] b93 (own_F1 ((p5 &&& (3 : Int32)) % (3 : Int32)) wI wA wV) p1 p2 p3 p4 h93 n0 (Nat.le_trans Z0 E93.1) f94 f95 f96 f97 f98 A93 g_b93) hZ (hw _ (List.mem_of_getElem? (i := 12) rfl)) (hw _ (List.mem_of_getElem? (i := 9) rfl)) (by decide) (by decide)) (g := (mkF m 116 #[.val (.int p1), .val (.int p2), .val (.int p3), .val (.int p4), .val (.int p5), .val (.int p6), .val (.ref (own_F1 ((p5 &&& (3 : Int32)) % (3 : Int32)) wI wA wV)), .val (.ref (own_F1 ((((p5.toUInt32 >>> ((2 : Int32) &&& 31).toUInt32).toInt32) &&& (3 : Int32)) % (3 : Int32)) wI wA wV)), .val (.int (if (p5 &&& (16 : Int32)) = (0 : Int32) then p1 else (p1 ^^^ p6))), .val (.int (if (p5 &&& (32 : Int32)) = (0 : Int32) then p2 else (p2 ^^^ p6))), .val (.int (if (p5 &&& (64 : Int32)) = (0 : Int32) then p3 else (p3 ^^^ p6))), .val (.int (if (p5 &&& (128 : Int32)) = (0 : Int32) then p4 else (p4 ^^^ p6))), .val (.int (((p5.toUInt32 >>> ((8 : Int32) &&& 31).toUInt32).toInt32) &&& (3 : Int32))), .unset, .unset, .unset, .unset] [(.int p4), (.int p3), (.int p2), (.int p1), (.ref (own_F1 ((p5 &&& (3 : Int32)) % (3 : Int32)) wI wA wV)), (.ref b93), (.ref b93)])) rfl (by rw [hml]; rfl) (Steps.refl _) (a := b93) (argsL := [(.ref (own_F1 ((p5 &&& (3 : Int32)) % (3 : Int32)) wI wA wV)), (.int p1), (.int p2), (.int p3), (.int p4)]) (rest := [(.ref b93)]) (lenOf pd_1 rfl) rfl (by show 2 * 0 + _ ≤ _; exact Nat.le_of_eq rfl) (hb hby at_116) (fun _ _ => ⟨rfl, e93, (by decide : 1 + 0 ≤ _), (by decide : 5 + 0 ≤ _)⟩)
  dsimp only [Pt.U, Pt.locs, Pt.cells, Pt.slots] at X99 l99 y99 z99 st99 hQ99
  subst l99 y99 z99
  obtain ⟨rfl, N99q, K99q, gE99, g99_0, g99_1, g99_2, g99_3, g99_4⟩ := hQ99
  have N99 := Fr.app N84 N99q
  have K99 : Keep h0 T99.heap [] := K93.trans K99q (allS (Or.inr sz_b93) all0)
  have z100 : n0 ≤ T99.heap.size := (Nat.le_trans (Nat.le_trans Z0 E93.1) K99q.1)
  obtain ⟨T101, h101, X101, e101, E101, A101, D101, -, st101⟩ := newO X99 hx hZ hown (hw _ (List.mem_of_getElem? (i := 7) rfl)) (hw _ (List.mem_of_getElem? (i := 8) rfl)) (hw _ (List.mem_of_getElem? (i := 9) rfl)) rfl (g := (mkF m 121 #[.val (.int p1), .val (.int p2), .val (.int p3), .val (.int p4), .val (.int p5), .val (.int p6), .val (.ref (own_F1 ((p5 &&& (3 : Int32)) % (3 : Int32)) wI wA wV)), .val (.ref (own_F1 ((((p5.toUInt32 >>> ((2 : Int32) &&& 31).toUInt32).toInt32) &&& (3 : Int32)) % (3 : Int32)) wI wA wV)), .val (.int (if (p5 &&& (16 : Int32)) = (0 : Int32) then p1 else (p1 ^^^ p6))), .val (.int (if (p5 &&& (32 : Int32)) = (0 : Int32) then p2 else (p2 ^^^ p6))), .val (.int (if (p5 &&& (64 : Int32)) = (0 : Int32) then p3 else (p3 ^^^ p6))), .val (.int (if (p5 &&& (128 : Int32)) = (0 : Int32) then p4 else (p4 ^^^ p6))), .val (.int (((p5.toUInt32 >>> ((8 : Int32) &&& 31).toUInt32).toInt32) &&& (3 : Int32))), .val (.ref b93), .unset, .unset, .unset] [])) rfl (hb hby at_121) (by decide) (by decide)
  obtain ⟨b101, g101⟩ : ∃ z, z = T99.heap.size := ⟨_, rfl⟩
  rw [← g101] at A101 D101 st101
  have ne102 : b93 ≠ b101 := Nat.ne_of_lt (Nat.lt_of_lt_of_le gE99.lt (Nat.le_of_eq g101.symm))
  have g_b101 : n0 ≤ b101 := Nat.le_trans z100 (Nat.le_of_eq g101.symm)
  have sz_b101 : h0.size ≤ b101 := Nat.le_trans K99.1 (Nat.le_of_eq g101.symm)
  have K101 : Keep h0 h101 [] := K99.ext E101
  have f103 : Fld Z h101 b101 "com/example/cluster_protocol_models/clusterprotocolmodels/hermes/Message" "kind" "Lcom/example/cluster_protocol_models/clusterprotocolmodels/hermes/Message$Kind;" .null := D101 (Or.inr (hw _ (List.mem_of_getElem? (i := 17) rfl))) (ty := (.object "com/example/cluster_protocol_models/clusterprotocolmodels/hermes/Message$Kind")) (by decide)
  have f104 : Fld Z h101 b101 "com/example/cluster_protocol_models/clusterprotocolmodels/hermes/Message" "sender" "I" (.int (0 : Int32)) := D101 (Or.inr (hw _ (List.mem_of_getElem? (i := 19) rfl))) (ty := .int) (by decide)
  have f105 : Fld Z h101 b101 "com/example/cluster_protocol_models/clusterprotocolmodels/hermes/Message" "epoch" "I" (.int (0 : Int32)) := D101 (Or.inr (hw _ (List.mem_of_getElem? (i := 21) rfl))) (ty := .int) (by decide)
  have f106 : Fld Z h101 b101 "com/example/cluster_protocol_models/clusterprotocolmodels/hermes/Message" "version" "I" (.int (0 : Int32)) := D101 (Or.inr (hw _ (List.mem_of_getElem? (i := 23) rfl))) (ty := .int) (by decide)
  have f107 : Fld Z h101 b101 "com/example/cluster_protocol_models/clusterprotocolmodels/hermes/Message" "tieBreaker" "I" (.int (0 : Int32)) := D101 (Or.inr (hw _ (List.mem_of_getElem? (i := 25) rfl))) (ty := .int) (by decide)
  obtain ⟨_, _, ⟨T108, L108, k108, n108⟩, -, X108, ⟨Lc108, hQ108, l108, y108, z108⟩, st108⟩ := X101.specialBack hx (y := (⟨"com/example/cluster_protocol_models/clusterprotocolmodels/hermes/Message", "<init>", "(Lcom/example/cluster_protocol_models/clusterprotocolmodels/hermes/Message$Kind;IIII)V"⟩ : MethodName)) rfl hown (mvT hZ (hw _ (List.mem_of_getElem? (i := 10) rfl))) (mvT hZ (hw _ (List.mem_of_getElem? (i := 11) rfl))) (mvT hZ (hw _ (List.mem_of_getElem? (i := 12) rfl))) (by decide) (backOf (W := 1) (rm2 l Z a0 hw [] b101 (own_F1 ((((p5.toUInt32 >>> ((2 : Int32) &&& 31).toUInt32).toInt32) &&& (3 : Int32)) % (3 : Int32)) wI wA wV) (if (p5 &&& (16 : Int32)) = (0 : Int32) then p1 else (p1 ^^^ p6)) (if (p5 &&& (32 : Int32)) = (0 : Int32) then p2 else (p2 ^^^ p6)) (if (p5 &&& (64 : Int32)) = (0 : Int32) then p3 else (p3 ^^^ p6)) (if (p5 &&& (128 : Int32)) = (0 : Int32) then p4 else (p4 ^^^ p6)) h101 n0 (Nat.le_trans z100 E101.1) f103 f104 f105 f106 f107 A101 g_b101) hZ (hw _ (List.mem_of_getElem? (i := 12) rfl)) (hw _ (List.mem_of_getElem? (i := 9) rfl)) (by decide) (by decide)) (g := (mkF m 135 #[.val (.int p1), .val (.int p2), .val (.int p3), .val (.int p4), .val (.int p5), .val (.int p6), .val (.ref (own_F1 ((p5 &&& (3 : Int32)) % (3 : Int32)) wI wA wV)), .val (.ref (own_F1 ((((p5.toUInt32 >>> ((2 : Int32) &&& 31).toUInt32).toInt32) &&& (3 : Int32)) % (3 : Int32)) wI wA wV)), .val (.int (if (p5 &&& (16 : Int32)) = (0 : Int32) then p1 else (p1 ^^^ p6))), .val (.int (if (p5 &&& (32 : Int32)) = (0 : Int32) then p2 else (p2 ^^^ p6))), .val (.int (if (p5 &&& (64 : Int32)) = (0 : Int32) then p3 else (p3 ^^^ p6))), .val (.int (if (p5 &&& (128 : Int32)) = (0 : Int32) then p4 else (p4 ^^^ p6))), .val (.int (((p5.toUInt32 >>> ((8 : Int32) &&& 31).toUInt32).toInt32) &&& (3 : Int32))), .val (.ref b93), .unset, .unset, .unset] [(.int (if (p5 &&& (128 : Int32)) = (0 : Int32) then p4 else (p4 ^^^ p6))), (.int (if (p5 &&& (64 : Int32)) = (0 : Int32) then p3 else (p3 ^^^ p6))), (.int (if (p5 &&& (32 : Int32)) = (0 : Int32) then p2 else (p2 ^^^ p6))), (.int (if (p5 &&& (16 : Int32)) = (0 : Int32) then p1 else (p1 ^^^ p6))), (.ref (own_F1 ((((p5.toUInt32 >>> ((2 : Int32) &&& 31).toUInt32).toInt32) &&& (3 : Int32)) % (3 : Int32)) wI wA wV)), (.ref b101), (.ref b101)])) rfl (by rw [hml]; rfl) (Steps.refl _) (a := b101) (argsL := [(.ref (own_F1 ((((p5.toUInt32 >>> ((2 : Int32) &&& 31).toUInt32).toInt32) &&& (3 : Int32)) % (3 : Int32)) wI wA wV)), (.int (if (p5 &&& (16 : Int32)) = (0 : Int32) then p1 else (p1 ^^^ p6))), (.int (if (p5 &&& (32 : Int32)) = (0 : Int32) then p2 else (p2 ^^^ p6))), (.int (if (p5 &&& (64 : Int32)) = (0 : Int32) then p3 else (p3 ^^^ p6))), (.int (if (p5 &&& (128 : Int32)) = (0 : Int32) then p4 else (p4 ^^^ p6)))]) (rest := [(.ref b101)]) (lenOf pd_1 rfl) rfl (by show 2 * 0 + _ ≤ _; exact Nat.le_of_eq rfl) (hb hby at_135) (fun _ _ => ⟨rfl, e101, (by decide : 2 + 0 ≤ _), (by decide : 10 + 0 ≤ _)⟩)
  dsimp only [Pt.U, Pt.locs, Pt.cells, Pt.slots] at X108 l108 y108 z108 st108 hQ108
  subst l108 y108 z108
  obtain ⟨rfl, N108q, K108q, gE108, g108_0, g108_1, g108_2, g108_3, g108_4⟩ := hQ108
  have N108 := Fr.app N99 N108q
  have K108 : Keep h0 T108.heap [] := K101.trans K108q (allS (Or.inr sz_b101) all0)
  have f109 := ((g99_0.ext E101).keep K108q (ninS ne102 nin0))
  have f110 := ((g99_1.ext E101).keep K108q (ninS ne102 nin0))
  have f111 := ((g99_2.ext E101).keep K108q (ninS ne102 nin0))
  have f112 := ((g99_3.ext E101).keep K108q (ninS ne102 nin0))
  have f113 := ((g99_4.ext E101).keep K108q (ninS ne102 nin0))
  have z114 : n0 ≤ T108.heap.size := (Nat.le_trans (Nat.le_trans z100 E101.1) K108q.1)
  obtain ⟨T115, h115, X115, e115, E115, A115, D115, -, st115⟩ := newO X108 hx hZ hown (hw _ (List.mem_of_getElem? (i := 26) rfl)) (hw _ (List.mem_of_getElem? (i := 27) rfl)) (hw _ (List.mem_of_getElem? (i := 28) rfl)) rfl (g := (mkF m 140 #[.val (.int p1), .val (.int p2), .val (.int p3), .val (.int p4), .val (.int p5), .val (.int p6), .val (.ref (own_F1 ((p5 &&& (3 : Int32)) % (3 : Int32)) wI wA wV)), .val (.ref (own_F1 ((((p5.toUInt32 >>> ((2 : Int32) &&& 31).toUInt32).toInt32) &&& (3 : Int32)) % (3 : Int32)) wI wA wV)), .val (.int (if (p5 &&& (16 : Int32)) = (0 : Int32) then p1 else (p1 ^^^ p6))), .val (.int (if (p5 &&& (32 : Int32)) = (0 : Int32) then p2 else (p2 ^^^ p6))), .val (.int (if (p5 &&& (64 : Int32)) = (0 : Int32) then p3 else (p3 ^^^ p6))), .val (.int (if (p5 &&& (128 : Int32)) = (0 : Int32) then p4 else (p4 ^^^ p6))), .val (.int (((p5.toUInt32 >>> ((8 : Int32) &&& 31).toUInt32).toInt32) &&& (3 : Int32))), .val (.ref b93), .val (.ref b101), .unset, .unset] [])) rfl (hb hby at_140) (by decide) (by decide)
  obtain ⟨b115, g115⟩ : ∃ z, z = T108.heap.size := ⟨_, rfl⟩
  rw [← g115] at A115 D115 st115
  have ne116 : b93 ≠ b115 := Nat.ne_of_lt (Nat.lt_of_lt_of_le ((gE99.ext E101).keep K108q).lt (Nat.le_of_eq g115.symm))
  have ne117 : b101 ≠ b115 := Nat.ne_of_lt (Nat.lt_of_lt_of_le gE108.lt (Nat.le_of_eq g115.symm))
  have g_b115 : n0 ≤ b115 := Nat.le_trans z114 (Nat.le_of_eq g115.symm)
  have sz_b115 : h0.size ≤ b115 := Nat.le_trans K108.1 (Nat.le_of_eq g115.symm)
  have K115 : Keep h0 h115 [] := K108.ext E115
  have f118 : Fld Z h115 b115 "com/example/cluster_protocol_models/clusterprotocolmodels/hermes/Timestamp" "version" "I" (.int (0 : Int32)) := D115 (Or.inr (hw _ (List.mem_of_getElem? (i := 34) rfl))) (ty := .int) (by decide)
  have f119 : Fld Z h115 b115 "com/example/cluster_protocol_models/clusterprotocolmodels/hermes/Timestamp" "tieBreaker" "I" (.int (0 : Int32)) := D115 (Or.inr (hw _ (List.mem_of_getElem? (i := 36) rfl))) (ty := .int) (by decide)
  have f120 := (((gE99.ext E101).keep K108q).ext E115)
  obtain ⟨_, _, ⟨T121, L121, k121, n121⟩, -, X121, ⟨Lc121, hQ121, l121, y121, z121⟩, st121⟩ := X115.specialBack hx (y := (⟨"com/example/cluster_protocol_models/clusterprotocolmodels/hermes/Timestamp", "<init>", "(II)V"⟩ : MethodName)) rfl hown (mvT hZ (hw _ (List.mem_of_getElem? (i := 29) rfl))) (mvT hZ (hw _ (List.mem_of_getElem? (i := 30) rfl))) (mvT hZ (hw _ (List.mem_of_getElem? (i := 31) rfl))) (by decide) (backOf (W := 1) (rm4 l Z a0 hw [] b115 p3 p4 h115 n0 (Nat.le_trans z114 E115.1) f118 f119 A115 g_b115) hZ (hw _ (List.mem_of_getElem? (i := 31) rfl)) (hw _ (List.mem_of_getElem? (i := 28) rfl)) (by decide) (by decide)) (g := (mkF m 146 #[.val (.int p1), .val (.int p2), .val (.int p3), .val (.int p4), .val (.int p5), .val (.int p6), .val (.ref (own_F1 ((p5 &&& (3 : Int32)) % (3 : Int32)) wI wA wV)), .val (.ref (own_F1 ((((p5.toUInt32 >>> ((2 : Int32) &&& 31).toUInt32).toInt32) &&& (3 : Int32)) % (3 : Int32)) wI wA wV)), .val (.int (if (p5 &&& (16 : Int32)) = (0 : Int32) then p1 else (p1 ^^^ p6))), .val (.int (if (p5 &&& (32 : Int32)) = (0 : Int32) then p2 else (p2 ^^^ p6))), .val (.int (if (p5 &&& (64 : Int32)) = (0 : Int32) then p3 else (p3 ^^^ p6))), .val (.int (if (p5 &&& (128 : Int32)) = (0 : Int32) then p4 else (p4 ^^^ p6))), .val (.int (((p5.toUInt32 >>> ((8 : Int32) &&& 31).toUInt32).toInt32) &&& (3 : Int32))), .val (.ref b93), .val (.ref b101), .unset, .unset] [(.int p4), (.int p3), (.ref b115), (.ref b115)])) rfl (by rw [hml]; rfl) (Steps.refl _) (a := b115) (argsL := [(.int p3), (.int p4)]) (rest := [(.ref b115)]) (lenOf pd_2 rfl) rfl (by show 2 * 0 + _ ≤ _; exact Nat.le_of_eq rfl) (hb hby at_146) (fun _ _ => ⟨rfl, e115, (by decide : 3 + 0 ≤ _), (by decide : 12 + 0 ≤ _)⟩)
  dsimp only [Pt.U, Pt.locs, Pt.cells, Pt.slots] at X121 l121 y121 z121 st121 hQ121
  subst l121 y121 z121
  obtain ⟨rfl, N121q, K121q, gE121, g121_0, g121_1⟩ := hQ121
  have N121 := Fr.app N108 N121q
  have K121 : Keep h0 T121.heap [] := K115.trans K121q (allS (Or.inr sz_b115) all0)
  have f122 := ((f109.ext E115).keep K121q (ninS ne116 nin0))
  have f123 := ((f110.ext E115).keep K121q (ninS ne116 nin0))
  have f124 := ((f111.ext E115).keep K121q (ninS ne116 nin0))
  have f125 := ((f112.ext E115).keep K121q (ninS ne116 nin0))
  have f126 := ((f113.ext E115).keep K121q (ninS ne116 nin0))
  have f127 := ((g108_0.ext E115).keep K121q (ninS ne117 nin0))
  have f128 := ((g108_1.ext E115).keep K121q (ninS ne117 nin0))
  have f129 := ((g108_2.ext E115).keep K121q (ninS ne117 nin0))
  have f130 := ((g108_3.ext E115).keep K121q (ninS ne117 nin0))
  have f131 := ((g108_4.ext E115).keep K121q (ninS ne117 nin0))
  have z132 : n0 ≤ T121.heap.size := (Nat.le_trans (Nat.le_trans z114 E115.1) K121q.1)
  have pre133 : ∀ t, Steps p.tables e below (T121.setTop (mkF m 154 #[.val (.int p1), .val (.int p2), .val (.int p3), .val (.int p4), .val (.int p5), .val (.int p6), .val (.ref (own_F1 ((p5 &&& (3 : Int32)) % (3 : Int32)) wI wA wV)), .val (.ref (own_F1 ((((p5.toUInt32 >>> ((2 : Int32) &&& 31).toUInt32).toInt32) &&& (3 : Int32)) % (3 : Int32)) wI wA wV)), .val (.int (if (p5 &&& (16 : Int32)) = (0 : Int32) then p1 else (p1 ^^^ p6))), .val (.int (if (p5 &&& (32 : Int32)) = (0 : Int32) then p2 else (p2 ^^^ p6))), .val (.int (if (p5 &&& (64 : Int32)) = (0 : Int32) then p3 else (p3 ^^^ p6))), .val (.int (if (p5 &&& (128 : Int32)) = (0 : Int32) then p4 else (p4 ^^^ p6))), .val (.int (((p5.toUInt32 >>> ((8 : Int32) &&& 31).toUInt32).toInt32) &&& (3 : Int32))), .val (.ref b93), .val (.ref b101), .val (.ref b115), .unset] [(.int (1 : Int32)), (.int (((p5.toUInt32 >>> ((8 : Int32) &&& 31).toUInt32).toInt32) &&& (3 : Int32)))])) t → Steps p.tables e below (s₁.setTop (entryFrame m #[(.int p1), (.int p2), (.int p3), (.int p4), (.int p5), (.int p6)] maxLocals)) t := by
    intro t kt
    refine pre92 _ ?_
    show Steps p.tables e below (T84.setTop (mkF m 95 #[.val (.int p1), .val (.int p2), .val (.int p3), .val (.int p4), .val (.int p5), .val (.int p6), .val (.ref (own_F1 ((p5 &&& (3 : Int32)) % (3 : Int32)) wI wA wV)), .val (.ref (own_F1 ((((p5.toUInt32 >>> ((2 : Int32) &&& 31).toUInt32).toInt32) &&& (3 : Int32)) % (3 : Int32)) wI wA wV)), .val (.int (if (p5 &&& (16 : Int32)) = (0 : Int32) then p1 else (p1 ^^^ p6))), .val (.int (if (p5 &&& (32 : Int32)) = (0 : Int32) then p2 else (p2 ^^^ p6))), .val (.int (if (p5 &&& (64 : Int32)) = (0 : Int32) then p3 else (p3 ^^^ p6))), .unset, .unset, .unset, .unset, .unset, .unset] [(.int (if (p5 &&& (128 : Int32)) = (0 : Int32) then p4 else (p4 ^^^ p6)))])) _
    refine XS.istore X84.here hx rfl (hb hby at_95) rfl (l' := #[.val (.int p1), .val (.int p2), .val (.int p3), .val (.int p4), .val (.int p5), .val (.int p6), .val (.ref (own_F1 ((p5 &&& (3 : Int32)) % (3 : Int32)) wI wA wV)), .val (.ref (own_F1 ((((p5.toUInt32 >>> ((2 : Int32) &&& 31).toUInt32).toInt32) &&& (3 : Int32)) % (3 : Int32)) wI wA wV)), .val (.int (if (p5 &&& (16 : Int32)) = (0 : Int32) then p1 else (p1 ^^^ p6))), .val (.int (if (p5 &&& (32 : Int32)) = (0 : Int32) then p2 else (p2 ^^^ p6))), .val (.int (if (p5 &&& (64 : Int32)) = (0 : Int32) then p3 else (p3 ^^^ p6))), .val (.int (if (p5 &&& (128 : Int32)) = (0 : Int32) then p4 else (p4 ^^^ p6))), .unset, .unset, .unset, .unset, .unset]) rfl ?_
    show Steps p.tables e below (T84.setTop (mkF m 97 #[.val (.int p1), .val (.int p2), .val (.int p3), .val (.int p4), .val (.int p5), .val (.int p6), .val (.ref (own_F1 ((p5 &&& (3 : Int32)) % (3 : Int32)) wI wA wV)), .val (.ref (own_F1 ((((p5.toUInt32 >>> ((2 : Int32) &&& 31).toUInt32).toInt32) &&& (3 : Int32)) % (3 : Int32)) wI wA wV)), .val (.int (if (p5 &&& (16 : Int32)) = (0 : Int32) then p1 else (p1 ^^^ p6))), .val (.int (if (p5 &&& (32 : Int32)) = (0 : Int32) then p2 else (p2 ^^^ p6))), .val (.int (if (p5 &&& (64 : Int32)) = (0 : Int32) then p3 else (p3 ^^^ p6))), .val (.int (if (p5 &&& (128 : Int32)) = (0 : Int32) then p4 else (p4 ^^^ p6))), .unset, .unset, .unset, .unset, .unset] [])) _
    refine XS.iload X84.here hx rfl (hb hby at_97) rfl ?_
    show Steps p.tables e below (T84.setTop (mkF m 99 #[.val (.int p1), .val (.int p2), .val (.int p3), .val (.int p4), .val (.int p5), .val (.int p6), .val (.ref (own_F1 ((p5 &&& (3 : Int32)) % (3 : Int32)) wI wA wV)), .val (.ref (own_F1 ((((p5.toUInt32 >>> ((2 : Int32) &&& 31).toUInt32).toInt32) &&& (3 : Int32)) % (3 : Int32)) wI wA wV)), .val (.int (if (p5 &&& (16 : Int32)) = (0 : Int32) then p1 else (p1 ^^^ p6))), .val (.int (if (p5 &&& (32 : Int32)) = (0 : Int32) then p2 else (p2 ^^^ p6))), .val (.int (if (p5 &&& (64 : Int32)) = (0 : Int32) then p3 else (p3 ^^^ p6))), .val (.int (if (p5 &&& (128 : Int32)) = (0 : Int32) then p4 else (p4 ^^^ p6))), .unset, .unset, .unset, .unset, .unset] [(.int p5)])) _
    refine XS.bipush X84.here hx rfl (hb hby at_99) ?_
    show Steps p.tables e below (T84.setTop (mkF m 101 #[.val (.int p1), .val (.int p2), .val (.int p3), .val (.int p4), .val (.int p5), .val (.int p6), .val (.ref (own_F1 ((p5 &&& (3 : Int32)) % (3 : Int32)) wI wA wV)), .val (.ref (own_F1 ((((p5.toUInt32 >>> ((2 : Int32) &&& 31).toUInt32).toInt32) &&& (3 : Int32)) % (3 : Int32)) wI wA wV)), .val (.int (if (p5 &&& (16 : Int32)) = (0 : Int32) then p1 else (p1 ^^^ p6))), .val (.int (if (p5 &&& (32 : Int32)) = (0 : Int32) then p2 else (p2 ^^^ p6))), .val (.int (if (p5 &&& (64 : Int32)) = (0 : Int32) then p3 else (p3 ^^^ p6))), .val (.int (if (p5 &&& (128 : Int32)) = (0 : Int32) then p4 else (p4 ^^^ p6))), .unset, .unset, .unset, .unset, .unset] [(.int (8 : Int32)), (.int p5)])) _
    refine XS.iushr X84.here hx rfl (hb hby at_101) rfl ?_
    show Steps p.tables e below (T84.setTop (mkF m 102 #[.val (.int p1), .val (.int p2), .val (.int p3), .val (.int p4), .val (.int p5), .val (.int p6), .val (.ref (own_F1 ((p5 &&& (3 : Int32)) % (3 : Int32)) wI wA wV)), .val (.ref (own_F1 ((((p5.toUInt32 >>> ((2 : Int32) &&& 31).toUInt32).toInt32) &&& (3 : Int32)) % (3 : Int32)) wI wA wV)), .val (.int (if (p5 &&& (16 : Int32)) = (0 : Int32) then p1 else (p1 ^^^ p6))), .val (.int (if (p5 &&& (32 : Int32)) = (0 : Int32) then p2 else (p2 ^^^ p6))), .val (.int (if (p5 &&& (64 : Int32)) = (0 : Int32) then p3 else (p3 ^^^ p6))), .val (.int (if (p5 &&& (128 : Int32)) = (0 : Int32) then p4 else (p4 ^^^ p6))), .unset, .unset, .unset, .unset, .unset] [(.int ((p5.toUInt32 >>> ((8 : Int32) &&& 31).toUInt32).toInt32))])) _
    refine XS.iconst X84.here hx rfl (hb hby at_102) ?_
    show Steps p.tables e below (T84.setTop (mkF m 103 #[.val (.int p1), .val (.int p2), .val (.int p3), .val (.int p4), .val (.int p5), .val (.int p6), .val (.ref (own_F1 ((p5 &&& (3 : Int32)) % (3 : Int32)) wI wA wV)), .val (.ref (own_F1 ((((p5.toUInt32 >>> ((2 : Int32) &&& 31).toUInt32).toInt32) &&& (3 : Int32)) % (3 : Int32)) wI wA wV)), .val (.int (if (p5 &&& (16 : Int32)) = (0 : Int32) then p1 else (p1 ^^^ p6))), .val (.int (if (p5 &&& (32 : Int32)) = (0 : Int32) then p2 else (p2 ^^^ p6))), .val (.int (if (p5 &&& (64 : Int32)) = (0 : Int32) then p3 else (p3 ^^^ p6))), .val (.int (if (p5 &&& (128 : Int32)) = (0 : Int32) then p4 else (p4 ^^^ p6))), .unset, .unset, .unset, .unset, .unset] [(.int (3 : Int32)), (.int ((p5.toUInt32 >>> ((8 : Int32) &&& 31).toUInt32).toInt32))])) _
    refine XS.iand X84.here hx rfl (hb hby at_103) rfl ?_
    show Steps p.tables e below (T84.setTop (mkF m 104 #[.val (.int p1), .val (.int p2), .val (.int p3), .val (.int p4), .val (.int p5), .val (.int p6), .val (.ref (own_F1 ((p5 &&& (3 : Int32)) % (3 : Int32)) wI wA wV)), .val (.ref (own_F1 ((((p5.toUInt32 >>> ((2 : Int32) &&& 31).toUInt32).toInt32) &&& (3 : Int32)) % (3 : Int32)) wI wA wV)), .val (.int (if (p5 &&& (16 : Int32)) = (0 : Int32) then p1 else (p1 ^^^ p6))), .val (.int (if (p5 &&& (32 : Int32)) = (0 : Int32) then p2 else (p2 ^^^ p6))), .val (.int (if (p5 &&& (64 : Int32)) = (0 : Int32) then p3 else (p3 ^^^ p6))), .val (.int (if (p5 &&& (128 : Int32)) = (0 : Int32) then p4 else (p4 ^^^ p6))), .unset, .unset, .unset, .unset, .unset] [(.int (((p5.toUInt32 >>> ((8 : Int32) &&& 31).toUInt32).toInt32) &&& (3 : Int32)))])) _
    refine XS.istore X84.here hx rfl (hb hby at_104) rfl (l' := #[.val (.int p1), .val (.int p2), .val (.int p3), .val (.int p4), .val (.int p5), .val (.int p6), .val (.ref (own_F1 ((p5 &&& (3 : Int32)) % (3 : Int32)) wI wA wV)), .val (.ref (own_F1 ((((p5.toUInt32 >>> ((2 : Int32) &&& 31).toUInt32).toInt32) &&& (3 : Int32)) % (3 : Int32)) wI wA wV)), .val (.int (if (p5 &&& (16 : Int32)) = (0 : Int32) then p1 else (p1 ^^^ p6))), .val (.int (if (p5 &&& (32 : Int32)) = (0 : Int32) then p2 else (p2 ^^^ p6))), .val (.int (if (p5 &&& (64 : Int32)) = (0 : Int32) then p3 else (p3 ^^^ p6))), .val (.int (if (p5 &&& (128 : Int32)) = (0 : Int32) then p4 else (p4 ^^^ p6))), .val (.int (((p5.toUInt32 >>> ((8 : Int32) &&& 31).toUInt32).toInt32) &&& (3 : Int32))), .unset, .unset, .unset, .unset]) rfl ?_
    show Steps p.tables e below (T84.setTop (mkF m 106 #[.val (.int p1), .val (.int p2), .val (.int p3), .val (.int p4), .val (.int p5), .val (.int p6), .val (.ref (own_F1 ((p5 &&& (3 : Int32)) % (3 : Int32)) wI wA wV)), .val (.ref (own_F1 ((((p5.toUInt32 >>> ((2 : Int32) &&& 31).toUInt32).toInt32) &&& (3 : Int32)) % (3 : Int32)) wI wA wV)), .val (.int (if (p5 &&& (16 : Int32)) = (0 : Int32) then p1 else (p1 ^^^ p6))), .val (.int (if (p5 &&& (32 : Int32)) = (0 : Int32) then p2 else (p2 ^^^ p6))), .val (.int (if (p5 &&& (64 : Int32)) = (0 : Int32) then p3 else (p3 ^^^ p6))), .val (.int (if (p5 &&& (128 : Int32)) = (0 : Int32) then p4 else (p4 ^^^ p6))), .val (.int (((p5.toUInt32 >>> ((8 : Int32) &&& 31).toUInt32).toInt32) &&& (3 : Int32))), .unset, .unset, .unset, .unset] [])) _
    refine st93 _ ?_
    show Steps p.tables e below (T93.setTop (mkF m 109 #[.val (.int p1), .val (.int p2), .val (.int p3), .val (.int p4), .val (.int p5), .val (.int p6), .val (.ref (own_F1 ((p5 &&& (3 : Int32)) % (3 : Int32)) wI wA wV)), .val (.ref (own_F1 ((((p5.toUInt32 >>> ((2 : Int32) &&& 31).toUInt32).toInt32) &&& (3 : Int32)) % (3 : Int32)) wI wA wV)), .val (.int (if (p5 &&& (16 : Int32)) = (0 : Int32) then p1 else (p1 ^^^ p6))), .val (.int (if (p5 &&& (32 : Int32)) = (0 : Int32) then p2 else (p2 ^^^ p6))), .val (.int (if (p5 &&& (64 : Int32)) = (0 : Int32) then p3 else (p3 ^^^ p6))), .val (.int (if (p5 &&& (128 : Int32)) = (0 : Int32) then p4 else (p4 ^^^ p6))), .val (.int (((p5.toUInt32 >>> ((8 : Int32) &&& 31).toUInt32).toInt32) &&& (3 : Int32))), .unset, .unset, .unset, .unset] [(.ref b93)])) _
    refine XS.dup X93.here hx rfl (hb hby at_109) rfl rfl ?_
    show Steps p.tables e below (T93.setTop (mkF m 110 #[.val (.int p1), .val (.int p2), .val (.int p3), .val (.int p4), .val (.int p5), .val (.int p6), .val (.ref (own_F1 ((p5 &&& (3 : Int32)) % (3 : Int32)) wI wA wV)), .val (.ref (own_F1 ((((p5.toUInt32 >>> ((2 : Int32) &&& 31).toUInt32).toInt32) &&& (3 : Int32)) % (3 : Int32)) wI wA wV)), .val (.int (if (p5 &&& (16 : Int32)) = (0 : Int32) then p1 else (p1 ^^^ p6))), .val (.int (if (p5 &&& (32 : Int32)) = (0 : Int32) then p2 else (p2 ^^^ p6))), .val (.int (if (p5 &&& (64 : Int32)) = (0 : Int32) then p3 else (p3 ^^^ p6))), .val (.int (if (p5 &&& (128 : Int32)) = (0 : Int32) then p4 else (p4 ^^^ p6))), .val (.int (((p5.toUInt32 >>> ((8 : Int32) &&& 31).toUInt32).toInt32) &&& (3 : Int32))), .unset, .unset, .unset, .unset] [(.ref b93), (.ref b93)])) _
    refine XS.aload X93.here hx rfl (hb hby at_110) rfl rfl ?_
    show Steps p.tables e below (T93.setTop (mkF m 112 #[.val (.int p1), .val (.int p2), .val (.int p3), .val (.int p4), .val (.int p5), .val (.int p6), .val (.ref (own_F1 ((p5 &&& (3 : Int32)) % (3 : Int32)) wI wA wV)), .val (.ref (own_F1 ((((p5.toUInt32 >>> ((2 : Int32) &&& 31).toUInt32).toInt32) &&& (3 : Int32)) % (3 : Int32)) wI wA wV)), .val (.int (if (p5 &&& (16 : Int32)) = (0 : Int32) then p1 else (p1 ^^^ p6))), .val (.int (if (p5 &&& (32 : Int32)) = (0 : Int32) then p2 else (p2 ^^^ p6))), .val (.int (if (p5 &&& (64 : Int32)) = (0 : Int32) then p3 else (p3 ^^^ p6))), .val (.int (if (p5 &&& (128 : Int32)) = (0 : Int32) then p4 else (p4 ^^^ p6))), .val (.int (((p5.toUInt32 >>> ((8 : Int32) &&& 31).toUInt32).toInt32) &&& (3 : Int32))), .unset, .unset, .unset, .unset] [(.ref (own_F1 ((p5 &&& (3 : Int32)) % (3 : Int32)) wI wA wV)), (.ref b93), (.ref b93)])) _
    refine XS.iloadN X93.here hx rfl (hb hby at_112) rfl ?_
    show Steps p.tables e below (T93.setTop (mkF m 113 #[.val (.int p1), .val (.int p2), .val (.int p3), .val (.int p4), .val (.int p5), .val (.int p6), .val (.ref (own_F1 ((p5 &&& (3 : Int32)) % (3 : Int32)) wI wA wV)), .val (.ref (own_F1 ((((p5.toUInt32 >>> ((2 : Int32) &&& 31).toUInt32).toInt32) &&& (3 : Int32)) % (3 : Int32)) wI wA wV)), .val (.int (if (p5 &&& (16 : Int32)) = (0 : Int32) then p1 else (p1 ^^^ p6))), .val (.int (if (p5 &&& (32 : Int32)) = (0 : Int32) then p2 else (p2 ^^^ p6))), .val (.int (if (p5 &&& (64 : Int32)) = (0 : Int32) then p3 else (p3 ^^^ p6))), .val (.int (if (p5 &&& (128 : Int32)) = (0 : Int32) then p4 else (p4 ^^^ p6))), .val (.int (((p5.toUInt32 >>> ((8 : Int32) &&& 31).toUInt32).toInt32) &&& (3 : Int32))), .unset, .unset, .unset, .unset] [(.int p1), (.ref (own_F1 ((p5 &&& (3 : Int32)) % (3 : Int32)) wI wA wV)), (.ref b93), (.ref b93)])) _
    refine XS.iloadN X93.here hx rfl (hb hby at_113) rfl ?_
    show Steps p.tables e below (T93.setTop (mkF m 114 #[.val (.int p1), .val (.int p2), .val (.int p3), .val (.int p4), .val (.int p5), .val (.int p6), .val (.ref (own_F1 ((p5 &&& (3 : Int32)) % (3 : Int32)) wI wA wV)), .val (.ref (own_F1 ((((p5.toUInt32 >>> ((2 : Int32) &&& 31).toUInt32).toInt32) &&& (3 : Int32)) % (3 : Int32)) wI wA wV)), .val (.int (if (p5 &&& (16 : Int32)) = (0 : Int32) then p1 else (p1 ^^^ p6))), .val (.int (if (p5 &&& (32 : Int32)) = (0 : Int32) then p2 else (p2 ^^^ p6))), .val (.int (if (p5 &&& (64 : Int32)) = (0 : Int32) then p3 else (p3 ^^^ p6))), .val (.int (if (p5 &&& (128 : Int32)) = (0 : Int32) then p4 else (p4 ^^^ p6))), .val (.int (((p5.toUInt32 >>> ((8 : Int32) &&& 31).toUInt32).toInt32) &&& (3 : Int32))), .unset, .unset, .unset, .unset] [(.int p2), (.int p1), (.ref (own_F1 ((p5 &&& (3 : Int32)) % (3 : Int32)) wI wA wV)), (.ref b93), (.ref b93)])) _
    refine XS.iloadN X93.here hx rfl (hb hby at_114) rfl ?_
    show Steps p.tables e below (T93.setTop (mkF m 115 #[.val (.int p1), .val (.int p2), .val (.int p3), .val (.int p4), .val (.int p5), .val (.int p6), .val (.ref (own_F1 ((p5 &&& (3 : Int32)) % (3 : Int32)) wI wA wV)), .val (.ref (own_F1 ((((p5.toUInt32 >>> ((2 : Int32) &&& 31).toUInt32).toInt32) &&& (3 : Int32)) % (3 : Int32)) wI wA wV)), .val (.int (if (p5 &&& (16 : Int32)) = (0 : Int32) then p1 else (p1 ^^^ p6))), .val (.int (if (p5 &&& (32 : Int32)) = (0 : Int32) then p2 else (p2 ^^^ p6))), .val (.int (if (p5 &&& (64 : Int32)) = (0 : Int32) then p3 else (p3 ^^^ p6))), .val (.int (if (p5 &&& (128 : Int32)) = (0 : Int32) then p4 else (p4 ^^^ p6))), .val (.int (((p5.toUInt32 >>> ((8 : Int32) &&& 31).toUInt32).toInt32) &&& (3 : Int32))), .unset, .unset, .unset, .unset] [(.int p3), (.int p2), (.int p1), (.ref (own_F1 ((p5 &&& (3 : Int32)) % (3 : Int32)) wI wA wV)), (.ref b93), (.ref b93)])) _
    refine XS.iloadN X93.here hx rfl (hb hby at_115) rfl ?_
    show Steps p.tables e below (T93.setTop (mkF m 116 #[.val (.int p1), .val (.int p2), .val (.int p3), .val (.int p4), .val (.int p5), .val (.int p6), .val (.ref (own_F1 ((p5 &&& (3 : Int32)) % (3 : Int32)) wI wA wV)), .val (.ref (own_F1 ((((p5.toUInt32 >>> ((2 : Int32) &&& 31).toUInt32).toInt32) &&& (3 : Int32)) % (3 : Int32)) wI wA wV)), .val (.int (if (p5 &&& (16 : Int32)) = (0 : Int32) then p1 else (p1 ^^^ p6))), .val (.int (if (p5 &&& (32 : Int32)) = (0 : Int32) then p2 else (p2 ^^^ p6))), .val (.int (if (p5 &&& (64 : Int32)) = (0 : Int32) then p3 else (p3 ^^^ p6))), .val (.int (if (p5 &&& (128 : Int32)) = (0 : Int32) then p4 else (p4 ^^^ p6))), .val (.int (((p5.toUInt32 >>> ((8 : Int32) &&& 31).toUInt32).toInt32) &&& (3 : Int32))), .unset, .unset, .unset, .unset] [(.int p4), (.int p3), (.int p2), (.int p1), (.ref (own_F1 ((p5 &&& (3 : Int32)) % (3 : Int32)) wI wA wV)), (.ref b93), (.ref b93)])) _
    refine st99.trans ?_
    show Steps p.tables e below (T99.setTop (mkF m 119 #[.val (.int p1), .val (.int p2), .val (.int p3), .val (.int p4), .val (.int p5), .val (.int p6), .val (.ref (own_F1 ((p5 &&& (3 : Int32)) % (3 : Int32)) wI wA wV)), .val (.ref (own_F1 ((((p5.toUInt32 >>> ((2 : Int32) &&& 31).toUInt32).toInt32) &&& (3 : Int32)) % (3 : Int32)) wI wA wV)), .val (.int (if (p5 &&& (16 : Int32)) = (0 : Int32) then p1 else (p1 ^^^ p6))), .val (.int (if (p5 &&& (32 : Int32)) = (0 : Int32) then p2 else (p2 ^^^ p6))), .val (.int (if (p5 &&& (64 : Int32)) = (0 : Int32) then p3 else (p3 ^^^ p6))), .val (.int (if (p5 &&& (128 : Int32)) = (0 : Int32) then p4 else (p4 ^^^ p6))), .val (.int (((p5.toUInt32 >>> ((8 : Int32) &&& 31).toUInt32).toInt32) &&& (3 : Int32))), .unset, .unset, .unset, .unset] [(.ref b93)])) _
    refine XS.astore X99.here hx rfl (hb hby at_119) rfl rfl (l' := #[.val (.int p1), .val (.int p2), .val (.int p3), .val (.int p4), .val (.int p5), .val (.int p6), .val (.ref (own_F1 ((p5 &&& (3 : Int32)) % (3 : Int32)) wI wA wV)), .val (.ref (own_F1 ((((p5.toUInt32 >>> ((2 : Int32) &&& 31).toUInt32).toInt32) &&& (3 : Int32)) % (3 : Int32)) wI wA wV)), .val (.int (if (p5 &&& (16 : Int32)) = (0 : Int32) then p1 else (p1 ^^^ p6))), .val (.int (if (p5 &&& (32 : Int32)) = (0 : Int32) then p2 else (p2 ^^^ p6))), .val (.int (if (p5 &&& (64 : Int32)) = (0 : Int32) then p3 else (p3 ^^^ p6))), .val (.int (if (p5 &&& (128 : Int32)) = (0 : Int32) then p4 else (p4 ^^^ p6))), .val (.int (((p5.toUInt32 >>> ((8 : Int32) &&& 31).toUInt32).toInt32) &&& (3 : Int32))), .val (.ref b93), .unset, .unset, .unset]) rfl ?_
    show Steps p.tables e below (T99.setTop (mkF m 121 #[.val (.int p1), .val (.int p2), .val (.int p3), .val (.int p4), .val (.int p5), .val (.int p6), .val (.ref (own_F1 ((p5 &&& (3 : Int32)) % (3 : Int32)) wI wA wV)), .val (.ref (own_F1 ((((p5.toUInt32 >>> ((2 : Int32) &&& 31).toUInt32).toInt32) &&& (3 : Int32)) % (3 : Int32)) wI wA wV)), .val (.int (if (p5 &&& (16 : Int32)) = (0 : Int32) then p1 else (p1 ^^^ p6))), .val (.int (if (p5 &&& (32 : Int32)) = (0 : Int32) then p2 else (p2 ^^^ p6))), .val (.int (if (p5 &&& (64 : Int32)) = (0 : Int32) then p3 else (p3 ^^^ p6))), .val (.int (if (p5 &&& (128 : Int32)) = (0 : Int32) then p4 else (p4 ^^^ p6))), .val (.int (((p5.toUInt32 >>> ((8 : Int32) &&& 31).toUInt32).toInt32) &&& (3 : Int32))), .val (.ref b93), .unset, .unset, .unset] [])) _
    refine st101 _ ?_
    show Steps p.tables e below (T101.setTop (mkF m 124 #[.val (.int p1), .val (.int p2), .val (.int p3), .val (.int p4), .val (.int p5), .val (.int p6), .val (.ref (own_F1 ((p5 &&& (3 : Int32)) % (3 : Int32)) wI wA wV)), .val (.ref (own_F1 ((((p5.toUInt32 >>> ((2 : Int32) &&& 31).toUInt32).toInt32) &&& (3 : Int32)) % (3 : Int32)) wI wA wV)), .val (.int (if (p5 &&& (16 : Int32)) = (0 : Int32) then p1 else (p1 ^^^ p6))), .val (.int (if (p5 &&& (32 : Int32)) = (0 : Int32) then p2 else (p2 ^^^ p6))), .val (.int (if (p5 &&& (64 : Int32)) = (0 : Int32) then p3 else (p3 ^^^ p6))), .val (.int (if (p5 &&& (128 : Int32)) = (0 : Int32) then p4 else (p4 ^^^ p6))), .val (.int (((p5.toUInt32 >>> ((8 : Int32) &&& 31).toUInt32).toInt32) &&& (3 : Int32))), .val (.ref b93), .unset, .unset, .unset] [(.ref b101)])) _
    refine XS.dup X101.here hx rfl (hb hby at_124) rfl rfl ?_
    show Steps p.tables e below (T101.setTop (mkF m 125 #[.val (.int p1), .val (.int p2), .val (.int p3), .val (.int p4), .val (.int p5), .val (.int p6), .val (.ref (own_F1 ((p5 &&& (3 : Int32)) % (3 : Int32)) wI wA wV)), .val (.ref (own_F1 ((((p5.toUInt32 >>> ((2 : Int32) &&& 31).toUInt32).toInt32) &&& (3 : Int32)) % (3 : Int32)) wI wA wV)), .val (.int (if (p5 &&& (16 : Int32)) = (0 : Int32) then p1 else (p1 ^^^ p6))), .val (.int (if (p5 &&& (32 : Int32)) = (0 : Int32) then p2 else (p2 ^^^ p6))), .val (.int (if (p5 &&& (64 : Int32)) = (0 : Int32) then p3 else (p3 ^^^ p6))), .val (.int (if (p5 &&& (128 : Int32)) = (0 : Int32) then p4 else (p4 ^^^ p6))), .val (.int (((p5.toUInt32 >>> ((8 : Int32) &&& 31).toUInt32).toInt32) &&& (3 : Int32))), .val (.ref b93), .unset, .unset, .unset] [(.ref b101), (.ref b101)])) _
    refine XS.aload X101.here hx rfl (hb hby at_125) rfl rfl ?_
    show Steps p.tables e below (T101.setTop (mkF m 127 #[.val (.int p1), .val (.int p2), .val (.int p3), .val (.int p4), .val (.int p5), .val (.int p6), .val (.ref (own_F1 ((p5 &&& (3 : Int32)) % (3 : Int32)) wI wA wV)), .val (.ref (own_F1 ((((p5.toUInt32 >>> ((2 : Int32) &&& 31).toUInt32).toInt32) &&& (3 : Int32)) % (3 : Int32)) wI wA wV)), .val (.int (if (p5 &&& (16 : Int32)) = (0 : Int32) then p1 else (p1 ^^^ p6))), .val (.int (if (p5 &&& (32 : Int32)) = (0 : Int32) then p2 else (p2 ^^^ p6))), .val (.int (if (p5 &&& (64 : Int32)) = (0 : Int32) then p3 else (p3 ^^^ p6))), .val (.int (if (p5 &&& (128 : Int32)) = (0 : Int32) then p4 else (p4 ^^^ p6))), .val (.int (((p5.toUInt32 >>> ((8 : Int32) &&& 31).toUInt32).toInt32) &&& (3 : Int32))), .val (.ref b93), .unset, .unset, .unset] [(.ref (own_F1 ((((p5.toUInt32 >>> ((2 : Int32) &&& 31).toUInt32).toInt32) &&& (3 : Int32)) % (3 : Int32)) wI wA wV)), (.ref b101), (.ref b101)])) _
    refine XS.iload X101.here hx rfl (hb hby at_127) rfl ?_
    show Steps p.tables e below (T101.setTop (mkF m 129 #[.val (.int p1), .val (.int p2), .val (.int p3), .val (.int p4), .val (.int p5), .val (.int p6), .val (.ref (own_F1 ((p5 &&& (3 : Int32)) % (3 : Int32)) wI wA wV)), .val (.ref (own_F1 ((((p5.toUInt32 >>> ((2 : Int32) &&& 31).toUInt32).toInt32) &&& (3 : Int32)) % (3 : Int32)) wI wA wV)), .val (.int (if (p5 &&& (16 : Int32)) = (0 : Int32) then p1 else (p1 ^^^ p6))), .val (.int (if (p5 &&& (32 : Int32)) = (0 : Int32) then p2 else (p2 ^^^ p6))), .val (.int (if (p5 &&& (64 : Int32)) = (0 : Int32) then p3 else (p3 ^^^ p6))), .val (.int (if (p5 &&& (128 : Int32)) = (0 : Int32) then p4 else (p4 ^^^ p6))), .val (.int (((p5.toUInt32 >>> ((8 : Int32) &&& 31).toUInt32).toInt32) &&& (3 : Int32))), .val (.ref b93), .unset, .unset, .unset] [(.int (if (p5 &&& (16 : Int32)) = (0 : Int32) then p1 else (p1 ^^^ p6))), (.ref (own_F1 ((((p5.toUInt32 >>> ((2 : Int32) &&& 31).toUInt32).toInt32) &&& (3 : Int32)) % (3 : Int32)) wI wA wV)), (.ref b101), (.ref b101)])) _
    refine XS.iload X101.here hx rfl (hb hby at_129) rfl ?_
    show Steps p.tables e below (T101.setTop (mkF m 131 #[.val (.int p1), .val (.int p2), .val (.int p3), .val (.int p4), .val (.int p5), .val (.int p6), .val (.ref (own_F1 ((p5 &&& (3 : Int32)) % (3 : Int32)) wI wA wV)), .val (.ref (own_F1 ((((p5.toUInt32 >>> ((2 : Int32) &&& 31).toUInt32).toInt32) &&& (3 : Int32)) % (3 : Int32)) wI wA wV)), .val (.int (if (p5 &&& (16 : Int32)) = (0 : Int32) then p1 else (p1 ^^^ p6))), .val (.int (if (p5 &&& (32 : Int32)) = (0 : Int32) then p2 else (p2 ^^^ p6))), .val (.int (if (p5 &&& (64 : Int32)) = (0 : Int32) then p3 else (p3 ^^^ p6))), .val (.int (if (p5 &&& (128 : Int32)) = (0 : Int32) then p4 else (p4 ^^^ p6))), .val (.int (((p5.toUInt32 >>> ((8 : Int32) &&& 31).toUInt32).toInt32) &&& (3 : Int32))), .val (.ref b93), .unset, .unset, .unset] [(.int (if (p5 &&& (32 : Int32)) = (0 : Int32) then p2 else (p2 ^^^ p6))), (.int (if (p5 &&& (16 : Int32)) = (0 : Int32) then p1 else (p1 ^^^ p6))), (.ref (own_F1 ((((p5.toUInt32 >>> ((2 : Int32) &&& 31).toUInt32).toInt32) &&& (3 : Int32)) % (3 : Int32)) wI wA wV)), (.ref b101), (.ref b101)])) _
    refine XS.iload X101.here hx rfl (hb hby at_131) rfl ?_
    show Steps p.tables e below (T101.setTop (mkF m 133 #[.val (.int p1), .val (.int p2), .val (.int p3), .val (.int p4), .val (.int p5), .val (.int p6), .val (.ref (own_F1 ((p5 &&& (3 : Int32)) % (3 : Int32)) wI wA wV)), .val (.ref (own_F1 ((((p5.toUInt32 >>> ((2 : Int32) &&& 31).toUInt32).toInt32) &&& (3 : Int32)) % (3 : Int32)) wI wA wV)), .val (.int (if (p5 &&& (16 : Int32)) = (0 : Int32) then p1 else (p1 ^^^ p6))), .val (.int (if (p5 &&& (32 : Int32)) = (0 : Int32) then p2 else (p2 ^^^ p6))), .val (.int (if (p5 &&& (64 : Int32)) = (0 : Int32) then p3 else (p3 ^^^ p6))), .val (.int (if (p5 &&& (128 : Int32)) = (0 : Int32) then p4 else (p4 ^^^ p6))), .val (.int (((p5.toUInt32 >>> ((8 : Int32) &&& 31).toUInt32).toInt32) &&& (3 : Int32))), .val (.ref b93), .unset, .unset, .unset] [(.int (if (p5 &&& (64 : Int32)) = (0 : Int32) then p3 else (p3 ^^^ p6))), (.int (if (p5 &&& (32 : Int32)) = (0 : Int32) then p2 else (p2 ^^^ p6))), (.int (if (p5 &&& (16 : Int32)) = (0 : Int32) then p1 else (p1 ^^^ p6))), (.ref (own_F1 ((((p5.toUInt32 >>> ((2 : Int32) &&& 31).toUInt32).toInt32) &&& (3 : Int32)) % (3 : Int32)) wI wA wV)), (.ref b101), (.ref b101)])) _
    refine XS.iload X101.here hx rfl (hb hby at_133) rfl ?_
    show Steps p.tables e below (T101.setTop (mkF m 135 #[.val (.int p1), .val (.int p2), .val (.int p3), .val (.int p4), .val (.int p5), .val (.int p6), .val (.ref (own_F1 ((p5 &&& (3 : Int32)) % (3 : Int32)) wI wA wV)), .val (.ref (own_F1 ((((p5.toUInt32 >>> ((2 : Int32) &&& 31).toUInt32).toInt32) &&& (3 : Int32)) % (3 : Int32)) wI wA wV)), .val (.int (if (p5 &&& (16 : Int32)) = (0 : Int32) then p1 else (p1 ^^^ p6))), .val (.int (if (p5 &&& (32 : Int32)) = (0 : Int32) then p2 else (p2 ^^^ p6))), .val (.int (if (p5 &&& (64 : Int32)) = (0 : Int32) then p3 else (p3 ^^^ p6))), .val (.int (if (p5 &&& (128 : Int32)) = (0 : Int32) then p4 else (p4 ^^^ p6))), .val (.int (((p5.toUInt32 >>> ((8 : Int32) &&& 31).toUInt32).toInt32) &&& (3 : Int32))), .val (.ref b93), .unset, .unset, .unset] [(.int (if (p5 &&& (128 : Int32)) = (0 : Int32) then p4 else (p4 ^^^ p6))), (.int (if (p5 &&& (64 : Int32)) = (0 : Int32) then p3 else (p3 ^^^ p6))), (.int (if (p5 &&& (32 : Int32)) = (0 : Int32) then p2 else (p2 ^^^ p6))), (.int (if (p5 &&& (16 : Int32)) = (0 : Int32) then p1 else (p1 ^^^ p6))), (.ref (own_F1 ((((p5.toUInt32 >>> ((2 : Int32) &&& 31).toUInt32).toInt32) &&& (3 : Int32)) % (3 : Int32)) wI wA wV)), (.ref b101), (.ref b101)])) _
    refine st108.trans ?_
    show Steps p.tables e below (T108.setTop (mkF m 138 #[.val (.int p1), .val (.int p2), .val (.int p3), .val (.int p4), .val (.int p5), .val (.int p6), .val (.ref (own_F1 ((p5 &&& (3 : Int32)) % (3 : Int32)) wI wA wV)), .val (.ref (own_F1 ((((p5.toUInt32 >>> ((2 : Int32) &&& 31).toUInt32).toInt32) &&& (3 : Int32)) % (3 : Int32)) wI wA wV)), .val (.int (if (p5 &&& (16 : Int32)) = (0 : Int32) then p1 else (p1 ^^^ p6))), .val (.int (if (p5 &&& (32 : Int32)) = (0 : Int32) then p2 else (p2 ^^^ p6))), .val (.int (if (p5 &&& (64 : Int32)) = (0 : Int32) then p3 else (p3 ^^^ p6))), .val (.int (if (p5 &&& (128 : Int32)) = (0 : Int32) then p4 else (p4 ^^^ p6))), .val (.int (((p5.toUInt32 >>> ((8 : Int32) &&& 31).toUInt32).toInt32) &&& (3 : Int32))), .val (.ref b93), .unset, .unset, .unset] [(.ref b101)])) _
    refine XS.astore X108.here hx rfl (hb hby at_138) rfl rfl (l' := #[.val (.int p1), .val (.int p2), .val (.int p3), .val (.int p4), .val (.int p5), .val (.int p6), .val (.ref (own_F1 ((p5 &&& (3 : Int32)) % (3 : Int32)) wI wA wV)), .val (.ref (own_F1 ((((p5.toUInt32 >>> ((2 : Int32) &&& 31).toUInt32).toInt32) &&& (3 : Int32)) % (3 : Int32)) wI wA wV)), .val (.int (if (p5 &&& (16 : Int32)) = (0 : Int32) then p1 else (p1 ^^^ p6))), .val (.int (if (p5 &&& (32 : Int32)) = (0 : Int32) then p2 else (p2 ^^^ p6))), .val (.int (if (p5 &&& (64 : Int32)) = (0 : Int32) then p3 else (p3 ^^^ p6))), .val (.int (if (p5 &&& (128 : Int32)) = (0 : Int32) then p4 else (p4 ^^^ p6))), .val (.int (((p5.toUInt32 >>> ((8 : Int32) &&& 31).toUInt32).toInt32) &&& (3 : Int32))), .val (.ref b93), .val (.ref b101), .unset, .unset]) rfl ?_
    show Steps p.tables e below (T108.setTop (mkF m 140 #[.val (.int p1), .val (.int p2), .val (.int p3), .val (.int p4), .val (.int p5), .val (.int p6), .val (.ref (own_F1 ((p5 &&& (3 : Int32)) % (3 : Int32)) wI wA wV)), .val (.ref (own_F1 ((((p5.toUInt32 >>> ((2 : Int32) &&& 31).toUInt32).toInt32) &&& (3 : Int32)) % (3 : Int32)) wI wA wV)), .val (.int (if (p5 &&& (16 : Int32)) = (0 : Int32) then p1 else (p1 ^^^ p6))), .val (.int (if (p5 &&& (32 : Int32)) = (0 : Int32) then p2 else (p2 ^^^ p6))), .val (.int (if (p5 &&& (64 : Int32)) = (0 : Int32) then p3 else (p3 ^^^ p6))), .val (.int (if (p5 &&& (128 : Int32)) = (0 : Int32) then p4 else (p4 ^^^ p6))), .val (.int (((p5.toUInt32 >>> ((8 : Int32) &&& 31).toUInt32).toInt32) &&& (3 : Int32))), .val (.ref b93), .val (.ref b101), .unset, .unset] [])) _
    refine st115 _ ?_
    show Steps p.tables e below (T115.setTop (mkF m 143 #[.val (.int p1), .val (.int p2), .val (.int p3), .val (.int p4), .val (.int p5), .val (.int p6), .val (.ref (own_F1 ((p5 &&& (3 : Int32)) % (3 : Int32)) wI wA wV)), .val (.ref (own_F1 ((((p5.toUInt32 >>> ((2 : Int32) &&& 31).toUInt32).toInt32) &&& (3 : Int32)) % (3 : Int32)) wI wA wV)), .val (.int (if (p5 &&& (16 : Int32)) = (0 : Int32) then p1 else (p1 ^^^ p6))), .val (.int (if (p5 &&& (32 : Int32)) = (0 : Int32) then p2 else (p2 ^^^ p6))), .val (.int (if (p5 &&& (64 : Int32)) = (0 : Int32) then p3 else (p3 ^^^ p6))), .val (.int (if (p5 &&& (128 : Int32)) = (0 : Int32) then p4 else (p4 ^^^ p6))), .val (.int (((p5.toUInt32 >>> ((8 : Int32) &&& 31).toUInt32).toInt32) &&& (3 : Int32))), .val (.ref b93), .val (.ref b101), .unset, .unset] [(.ref b115)])) _
    refine XS.dup X115.here hx rfl (hb hby at_143) rfl rfl ?_
    show Steps p.tables e below (T115.setTop (mkF m 144 #[.val (.int p1), .val (.int p2), .val (.int p3), .val (.int p4), .val (.int p5), .val (.int p6), .val (.ref (own_F1 ((p5 &&& (3 : Int32)) % (3 : Int32)) wI wA wV)), .val (.ref (own_F1 ((((p5.toUInt32 >>> ((2 : Int32) &&& 31).toUInt32).toInt32) &&& (3 : Int32)) % (3 : Int32)) wI wA wV)), .val (.int (if (p5 &&& (16 : Int32)) = (0 : Int32) then p1 else (p1 ^^^ p6))), .val (.int (if (p5 &&& (32 : Int32)) = (0 : Int32) then p2 else (p2 ^^^ p6))), .val (.int (if (p5 &&& (64 : Int32)) = (0 : Int32) then p3 else (p3 ^^^ p6))), .val (.int (if (p5 &&& (128 : Int32)) = (0 : Int32) then p4 else (p4 ^^^ p6))), .val (.int (((p5.toUInt32 >>> ((8 : Int32) &&& 31).toUInt32).toInt32) &&& (3 : Int32))), .val (.ref b93), .val (.ref b101), .unset, .unset] [(.ref b115), (.ref b115)])) _
    refine XS.iloadN X115.here hx rfl (hb hby at_144) rfl ?_
    show Steps p.tables e below (T115.setTop (mkF m 145 #[.val (.int p1), .val (.int p2), .val (.int p3), .val (.int p4), .val (.int p5), .val (.int p6), .val (.ref (own_F1 ((p5 &&& (3 : Int32)) % (3 : Int32)) wI wA wV)), .val (.ref (own_F1 ((((p5.toUInt32 >>> ((2 : Int32) &&& 31).toUInt32).toInt32) &&& (3 : Int32)) % (3 : Int32)) wI wA wV)), .val (.int (if (p5 &&& (16 : Int32)) = (0 : Int32) then p1 else (p1 ^^^ p6))), .val (.int (if (p5 &&& (32 : Int32)) = (0 : Int32) then p2 else (p2 ^^^ p6))), .val (.int (if (p5 &&& (64 : Int32)) = (0 : Int32) then p3 else (p3 ^^^ p6))), .val (.int (if (p5 &&& (128 : Int32)) = (0 : Int32) then p4 else (p4 ^^^ p6))), .val (.int (((p5.toUInt32 >>> ((8 : Int32) &&& 31).toUInt32).toInt32) &&& (3 : Int32))), .val (.ref b93), .val (.ref b101), .unset, .unset] [(.int p3), (.ref b115), (.ref b115)])) _
    refine XS.iloadN X115.here hx rfl (hb hby at_145) rfl ?_
    show Steps p.tables e below (T115.setTop (mkF m 146 #[.val (.int p1), .val (.int p2), .val (.int p3), .val (.int p4), .val (.int p5), .val (.int p6), .val (.ref (own_F1 ((p5 &&& (3 : Int32)) % (3 : Int32)) wI wA wV)), .val (.ref (own_F1 ((((p5.toUInt32 >>> ((2 : Int32) &&& 31).toUInt32).toInt32) &&& (3 : Int32)) % (3 : Int32)) wI wA wV)), .val (.int (if (p5 &&& (16 : Int32)) = (0 : Int32) then p1 else (p1 ^^^ p6))), .val (.int (if (p5 &&& (32 : Int32)) = (0 : Int32) then p2 else (p2 ^^^ p6))), .val (.int (if (p5 &&& (64 : Int32)) = (0 : Int32) then p3 else (p3 ^^^ p6))), .val (.int (if (p5 &&& (128 : Int32)) = (0 : Int32) then p4 else (p4 ^^^ p6))), .val (.int (((p5.toUInt32 >>> ((8 : Int32) &&& 31).toUInt32).toInt32) &&& (3 : Int32))), .val (.ref b93), .val (.ref b101), .unset, .unset] [(.int p4), (.int p3), (.ref b115), (.ref b115)])) _
    refine st121.trans ?_
    show Steps p.tables e below (T121.setTop (mkF m 149 #[.val (.int p1), .val (.int p2), .val (.int p3), .val (.int p4), .val (.int p5), .val (.int p6), .val (.ref (own_F1 ((p5 &&& (3 : Int32)) % (3 : Int32)) wI wA wV)), .val (.ref (own_F1 ((((p5.toUInt32 >>> ((2 : Int32) &&& 31).toUInt32).toInt32) &&& (3 : Int32)) % (3 : Int32)) wI wA wV)), .val (.int (if (p5 &&& (16 : Int32)) = (0 : Int32) then p1 else (p1 ^^^ p6))), .val (.int (if (p5 &&& (32 : Int32)) = (0 : Int32) then p2 else (p2 ^^^ p6))), .val (.int (if (p5 &&& (64 : Int32)) = (0 : Int32) then p3 else (p3 ^^^ p6))), .val (.int (if (p5 &&& (128 : Int32)) = (0 : Int32) then p4 else (p4 ^^^ p6))), .val (.int (((p5.toUInt32 >>> ((8 : Int32) &&& 31).toUInt32).toInt32) &&& (3 : Int32))), .val (.ref b93), .val (.ref b101), .unset, .unset] [(.ref b115)])) _
    refine XS.astore X121.here hx rfl (hb hby at_149) rfl rfl (l' := #[.val (.int p1), .val (.int p2), .val (.int p3), .val (.int p4), .val (.int p5), .val (.int p6), .val (.ref (own_F1 ((p5 &&& (3 : Int32)) % (3 : Int32)) wI wA wV)), .val (.ref (own_F1 ((((p5.toUInt32 >>> ((2 : Int32) &&& 31).toUInt32).toInt32) &&& (3 : Int32)) % (3 : Int32)) wI wA wV)), .val (.int (if (p5 &&& (16 : Int32)) = (0 : Int32) then p1 else (p1 ^^^ p6))), .val (.int (if (p5 &&& (32 : Int32)) = (0 : Int32) then p2 else (p2 ^^^ p6))), .val (.int (if (p5 &&& (64 : Int32)) = (0 : Int32) then p3 else (p3 ^^^ p6))), .val (.int (if (p5 &&& (128 : Int32)) = (0 : Int32) then p4 else (p4 ^^^ p6))), .val (.int (((p5.toUInt32 >>> ((8 : Int32) &&& 31).toUInt32).toInt32) &&& (3 : Int32))), .val (.ref b93), .val (.ref b101), .val (.ref b115), .unset]) rfl ?_
    show Steps p.tables e below (T121.setTop (mkF m 151 #[.val (.int p1), .val (.int p2), .val (.int p3), .val (.int p4), .val (.int p5), .val (.int p6), .val (.ref (own_F1 ((p5 &&& (3 : Int32)) % (3 : Int32)) wI wA wV)), .val (.ref (own_F1 ((((p5.toUInt32 >>> ((2 : Int32) &&& 31).toUInt32).toInt32) &&& (3 : Int32)) % (3 : Int32)) wI wA wV)), .val (.int (if (p5 &&& (16 : Int32)) = (0 : Int32) then p1 else (p1 ^^^ p6))), .val (.int (if (p5 &&& (32 : Int32)) = (0 : Int32) then p2 else (p2 ^^^ p6))), .val (.int (if (p5 &&& (64 : Int32)) = (0 : Int32) then p3 else (p3 ^^^ p6))), .val (.int (if (p5 &&& (128 : Int32)) = (0 : Int32) then p4 else (p4 ^^^ p6))), .val (.int (((p5.toUInt32 >>> ((8 : Int32) &&& 31).toUInt32).toInt32) &&& (3 : Int32))), .val (.ref b93), .val (.ref b101), .val (.ref b115), .unset] [])) _
    refine XS.iload X121.here hx rfl (hb hby at_151) rfl ?_
    show Steps p.tables e below (T121.setTop (mkF m 153 #[.val (.int p1), .val (.int p2), .val (.int p3), .val (.int p4), .val (.int p5), .val (.int p6), .val (.ref (own_F1 ((p5 &&& (3 : Int32)) % (3 : Int32)) wI wA wV)), .val (.ref (own_F1 ((((p5.toUInt32 >>> ((2 : Int32) &&& 31).toUInt32).toInt32) &&& (3 : Int32)) % (3 : Int32)) wI wA wV)), .val (.int (if (p5 &&& (16 : Int32)) = (0 : Int32) then p1 else (p1 ^^^ p6))), .val (.int (if (p5 &&& (32 : Int32)) = (0 : Int32) then p2 else (p2 ^^^ p6))), .val (.int (if (p5 &&& (64 : Int32)) = (0 : Int32) then p3 else (p3 ^^^ p6))), .val (.int (if (p5 &&& (128 : Int32)) = (0 : Int32) then p4 else (p4 ^^^ p6))), .val (.int (((p5.toUInt32 >>> ((8 : Int32) &&& 31).toUInt32).toInt32) &&& (3 : Int32))), .val (.ref b93), .val (.ref b101), .val (.ref b115), .unset] [(.int (((p5.toUInt32 >>> ((8 : Int32) &&& 31).toUInt32).toInt32) &&& (3 : Int32)))])) _
    refine XS.iconst X121.here hx rfl (hb hby at_153) ?_
    exact kt
  by_cases hc154_134 : (((p5.toUInt32 >>> ((8 : Int32) &&& 31).toUInt32).toInt32) &&& (3 : Int32)) = (1 : Int32)
  · obtain ⟨cq135, kq135, q135a, q135b, q135c⟩ := isOf hZ rfl (f120.keep K121q)
    obtain ⟨_, _, ⟨T135, L135, k135, n135⟩, -, X135, ⟨Lc135, hQ135, l135, y135, z135⟩, st135⟩ := X121.virtualBack hx (y := (⟨"com/example/cluster_protocol_models/clusterprotocolmodels/hermes/Message", "equals", "(Ljava/lang/Object;)Z"⟩ : MethodName)) (z := (⟨"com/example/cluster_protocol_models/clusterprotocolmodels/hermes/Message", "equals", "(Ljava/lang/Object;)Z"⟩ : MethodName)) hown (mvT hZ (hw _ (List.mem_of_getElem? (i := 37) rfl))) (mvT hZ (hw _ (List.mem_of_getElem? (i := 38) rfl))) (notFace_of_selects (args := #[]) (mvT hZ (hw _ (List.mem_of_getElem? (i := 40) rfl)))) (mvT hZ (hw _ (List.mem_of_getElem? (i := 40) rfl))) (mvT hZ (hw _ (List.mem_of_getElem? (i := 39) rfl))) (by decide) (backOf (W := 0) (rm5n l Z a0 hw [] b93 T121.heap n0 z132) hZ (hw _ (List.mem_of_getElem? (i := 41) rfl)) (hw _ (List.mem_of_getElem? (i := 9) rfl)) (by decide) (by decide)) q135a q135c (g := (mkF m 160 #[.val (.int p1), .val (.int p2), .val (.int p3), .val (.int p4), .val (.int p5), .val (.int p6), .val (.ref (own_F1 ((p5 &&& (3 : Int32)) % (3 : Int32)) wI wA wV)), .val (.ref (own_F1 ((((p5.toUInt32 >>> ((2 : Int32) &&& 31).toUInt32).toInt32) &&& (3 : Int32)) % (3 : Int32)) wI wA wV)), .val (.int (if (p5 &&& (16 : Int32)) = (0 : Int32) then p1 else (p1 ^^^ p6))), .val (.int (if (p5 &&& (32 : Int32)) = (0 : Int32) then p2 else (p2 ^^^ p6))), .val (.int (if (p5 &&& (64 : Int32)) = (0 : Int32) then p3 else (p3 ^^^ p6))), .val (.int (if (p5 &&& (128 : Int32)) = (0 : Int32) then p4 else (p4 ^^^ p6))), .val (.int (((p5.toUInt32 >>> ((8 : Int32) &&& 31).toUInt32).toInt32) &&& (3 : Int32))), .val (.ref b93), .val (.ref b101), .val (.ref b115), .unset] [.null, (.ref b93)])) rfl (by rw [hml]; rfl) (Steps.refl _) (argsL := [.null]) (rest := []) (lenOf pd_3 rfl) rfl (by show 2 * 0 + _ ≤ _; exact Nat.le_of_eq rfl) (hb hby at_160) (fun _ _ => ⟨rfl, rfl, (by decide : 3 + 0 ≤ _), (by decide : 12 + 0 ≤ _)⟩)
    dsimp only [Pt.U, Pt.locs, Pt.cells, Pt.slots] at X135 l135 y135 z135 st135 hQ135
    subst l135 y135 z135
    obtain ⟨rfl, N135q, e135⟩ := hQ135
    have N135 := Fr.app N121 N135q
    have pre136 : ∀ t, Steps p.tables e below (T135.setTop (mkF m 171 #[.val (.int p1), .val (.int p2), .val (.int p3), .val (.int p4), .val (.int p5), .val (.int p6), .val (.ref (own_F1 ((p5 &&& (3 : Int32)) % (3 : Int32)) wI wA wV)), .val (.ref (own_F1 ((((p5.toUInt32 >>> ((2 : Int32) &&& 31).toUInt32).toInt32) &&& (3 : Int32)) % (3 : Int32)) wI wA wV)), .val (.int (if (p5 &&& (16 : Int32)) = (0 : Int32) then p1 else (p1 ^^^ p6))), .val (.int (if (p5 &&& (32 : Int32)) = (0 : Int32) then p2 else (p2 ^^^ p6))), .val (.int (if (p5 &&& (64 : Int32)) = (0 : Int32) then p3 else (p3 ^^^ p6))), .val (.int (if (p5 &&& (128 : Int32)) = (0 : Int32) then p4 else (p4 ^^^ p6))), .val (.int (((p5.toUInt32 >>> ((8 : Int32) &&& 31).toUInt32).toInt32) &&& (3 : Int32))), .val (.ref b93), .val (.ref b101), .val (.ref b115), .unset] [(.int (1 : Int32))])) t → Steps p.tables e below (s₁.setTop (entryFrame m #[(.int p1), (.int p2), (.int p3), (.int p4), (.int p5), (.int p6)] maxLocals)) t := by
      intro t kt
      refine pre133 _ ?_
      show Steps p.tables e below (T121.setTop (mkF m 154 #[.val (.int p1), .val (.int p2), .val (.int p3), .val (.int p4), .val (.int p5), .val (.int p6), .val (.ref (own_F1 ((p5 &&& (3 : Int32)) % (3 : Int32)) wI wA wV)), .val (.ref (own_F1 ((((p5.toUInt32 >>> ((2 : Int32) &&& 31).toUInt32).toInt32) &&& (3 : Int32)) % (3 : Int32)) wI wA wV)), .val (.int (if (p5 &&& (16 : Int32)) = (0 : Int32) then p1 else (p1 ^^^ p6))), .val (.int (if (p5 &&& (32 : Int32)) = (0 : Int32) then p2 else (p2 ^^^ p6))), .val (.int (if (p5 &&& (64 : Int32)) = (0 : Int32) then p3 else (p3 ^^^ p6))), .val (.int (if (p5 &&& (128 : Int32)) = (0 : Int32) then p4 else (p4 ^^^ p6))), .val (.int (((p5.toUInt32 >>> ((8 : Int32) &&& 31).toUInt32).toInt32) &&& (3 : Int32))), .val (.ref b93), .val (.ref b101), .val (.ref b115), .unset] [(.int (1 : Int32)), (.int (((p5.toUInt32 >>> ((8 : Int32) &&& 31).toUInt32).toInt32) &&& (3 : Int32)))])) _
      refine XS.icmpNo X121.here hx rfl (hb hby at_154) rfl (teq hc154_134).2 ?_
      show Steps p.tables e below (T121.setTop (mkF m 157 #[.val (.int p1), .val (.int p2), .val (.int p3), .val (.int p4), .val (.int p5), .val (.int p6), .val (.ref (own_F1 ((p5 &&& (3 : Int32)) % (3 : Int32)) wI wA wV)), .val (.ref (own_F1 ((((p5.toUInt32 >>> ((2 : Int32) &&& 31).toUInt32).toInt32) &&& (3 : Int32)) % (3 : Int32)) wI wA wV)), .val (.int (if (p5 &&& (16 : Int32)) = (0 : Int32) then p1 else (p1 ^^^ p6))), .val (.int (if (p5 &&& (32 : Int32)) = (0 : Int32) then p2 else (p2 ^^^ p6))), .val (.int (if (p5 &&& (64 : Int32)) = (0 : Int32) then p3 else (p3 ^^^ p6))), .val (.int (if (p5 &&& (128 : Int32)) = (0 : Int32) then p4 else (p4 ^^^ p6))), .val (.int (((p5.toUInt32 >>> ((8 : Int32) &&& 31).toUInt32).toInt32) &&& (3 : Int32))), .val (.ref b93), .val (.ref b101), .val (.ref b115), .unset] [])) _
      refine XS.aload X121.here hx rfl (hb hby at_157) rfl rfl ?_
      show Steps p.tables e below (T121.setTop (mkF m 159 #[.val (.int p1), .val (.int p2), .val (.int p3), .val (.int p4), .val (.int p5), .val (.int p6), .val (.ref (own_F1 ((p5 &&& (3 : Int32)) % (3 : Int32)) wI wA wV)), .val (.ref (own_F1 ((((p5.toUInt32 >>> ((2 : Int32) &&& 31).toUInt32).toInt32) &&& (3 : Int32)) % (3 : Int32)) wI wA wV)), .val (.int (if (p5 &&& (16 : Int32)) = (0 : Int32) then p1 else (p1 ^^^ p6))), .val (.int (if (p5 &&& (32 : Int32)) = (0 : Int32) then p2 else (p2 ^^^ p6))), .val (.int (if (p5 &&& (64 : Int32)) = (0 : Int32) then p3 else (p3 ^^^ p6))), .val (.int (if (p5 &&& (128 : Int32)) = (0 : Int32) then p4 else (p4 ^^^ p6))), .val (.int (((p5.toUInt32 >>> ((8 : Int32) &&& 31).toUInt32).toInt32) &&& (3 : Int32))), .val (.ref b93), .val (.ref b101), .val (.ref b115), .unset] [(.ref b93)])) _
      refine XS.aconstNull X121.here hx rfl (hb hby at_159) ?_
      show Steps p.tables e below (T121.setTop (mkF m 160 #[.val (.int p1), .val (.int p2), .val (.int p3), .val (.int p4), .val (.int p5), .val (.int p6), .val (.ref (own_F1 ((p5 &&& (3 : Int32)) % (3 : Int32)) wI wA wV)), .val (.ref (own_F1 ((((p5.toUInt32 >>> ((2 : Int32) &&& 31).toUInt32).toInt32) &&& (3 : Int32)) % (3 : Int32)) wI wA wV)), .val (.int (if (p5 &&& (16 : Int32)) = (0 : Int32) then p1 else (p1 ^^^ p6))), .val (.int (if (p5 &&& (32 : Int32)) = (0 : Int32) then p2 else (p2 ^^^ p6))), .val (.int (if (p5 &&& (64 : Int32)) = (0 : Int32) then p3 else (p3 ^^^ p6))), .val (.int (if (p5 &&& (128 : Int32)) = (0 : Int32) then p4 else (p4 ^^^ p6))), .val (.int (((p5.toUInt32 >>> ((8 : Int32) &&& 31).toUInt32).toInt32) &&& (3 : Int32))), .val (.ref b93), .val (.ref b101), .val (.ref b115), .unset] [.null, (.ref b93)])) _
      refine st135.trans ?_
      show Steps p.tables e below (T135.setTop (mkF m 163 #[.val (.int p1), .val (.int p2), .val (.int p3), .val (.int p4), .val (.int p5), .val (.int p6), .val (.ref (own_F1 ((p5 &&& (3 : Int32)) % (3 : Int32)) wI wA wV)), .val (.ref (own_F1 ((((p5.toUInt32 >>> ((2 : Int32) &&& 31).toUInt32).toInt32) &&& (3 : Int32)) % (3 : Int32)) wI wA wV)), .val (.int (if (p5 &&& (16 : Int32)) = (0 : Int32) then p1 else (p1 ^^^ p6))), .val (.int (if (p5 &&& (32 : Int32)) = (0 : Int32) then p2 else (p2 ^^^ p6))), .val (.int (if (p5 &&& (64 : Int32)) = (0 : Int32) then p3 else (p3 ^^^ p6))), .val (.int (if (p5 &&& (128 : Int32)) = (0 : Int32) then p4 else (p4 ^^^ p6))), .val (.int (((p5.toUInt32 >>> ((8 : Int32) &&& 31).toUInt32).toInt32) &&& (3 : Int32))), .val (.ref b93), .val (.ref b101), .val (.ref b115), .unset] [(.int (0 : Int32))])) _
      refine XS.ifNo X135.here hx rfl (hb hby at_163) rfl ((if0 _ _).trans (teq (by decide : (0 : Int32) = (0 : Int32))).2) ?_
      show Steps p.tables e below (T135.setTop (mkF m 166 #[.val (.int p1), .val (.int p2), .val (.int p3), .val (.int p4), .val (.int p5), .val (.int p6), .val (.ref (own_F1 ((p5 &&& (3 : Int32)) % (3 : Int32)) wI wA wV)), .val (.ref (own_F1 ((((p5.toUInt32 >>> ((2 : Int32) &&& 31).toUInt32).toInt32) &&& (3 : Int32)) % (3 : Int32)) wI wA wV)), .val (.int (if (p5 &&& (16 : Int32)) = (0 : Int32) then p1 else (p1 ^^^ p6))), .val (.int (if (p5 &&& (32 : Int32)) = (0 : Int32) then p2 else (p2 ^^^ p6))), .val (.int (if (p5 &&& (64 : Int32)) = (0 : Int32) then p3 else (p3 ^^^ p6))), .val (.int (if (p5 &&& (128 : Int32)) = (0 : Int32) then p4 else (p4 ^^^ p6))), .val (.int (((p5.toUInt32 >>> ((8 : Int32) &&& 31).toUInt32).toInt32) &&& (3 : Int32))), .val (.ref b93), .val (.ref b101), .val (.ref b115), .unset] [])) _
      refine XS.iconst X135.here hx rfl (hb hby at_166) ?_
      show Steps p.tables e below (T135.setTop (mkF m 167 #[.val (.int p1), .val (.int p2), .val (.int p3), .val (.int p4), .val (.int p5), .val (.int p6), .val (.ref (own_F1 ((p5 &&& (3 : Int32)) % (3 : Int32)) wI wA wV)), .val (.ref (own_F1 ((((p5.toUInt32 >>> ((2 : Int32) &&& 31).toUInt32).toInt32) &&& (3 : Int32)) % (3 : Int32)) wI wA wV)), .val (.int (if (p5 &&& (16 : Int32)) = (0 : Int32) then p1 else (p1 ^^^ p6))), .val (.int (if (p5 &&& (32 : Int32)) = (0 : Int32) then p2 else (p2 ^^^ p6))), .val (.int (if (p5 &&& (64 : Int32)) = (0 : Int32) then p3 else (p3 ^^^ p6))), .val (.int (if (p5 &&& (128 : Int32)) = (0 : Int32) then p4 else (p4 ^^^ p6))), .val (.int (((p5.toUInt32 >>> ((8 : Int32) &&& 31).toUInt32).toInt32) &&& (3 : Int32))), .val (.ref b93), .val (.ref b101), .val (.ref b115), .unset] [(.int (1 : Int32))])) _
      refine XS.goto X135.here hx rfl (pc0 := 167) (pc' := 171) rfl (hb hby at_167) (by decide) (by decide) ?_
      exact kt
    obtain ⟨fs, hr, hrun, hended, hW, hsame⟩ := X135.leave (v := some (.int (1 : Int32))) (fun h => by rw [Bd.returns] at h; cases h)
    refine ⟨_, _, pre136 _ ?_, hrun, hended, _, _, rfl, ?_, ⟨_, rfl⟩, hW, hsame.mono (by decide) (by decide)⟩
    · show Steps p.tables e below (T135.setTop (mkF m 171 #[.val (.int p1), .val (.int p2), .val (.int p3), .val (.int p4), .val (.int p5), .val (.int p6), .val (.ref (own_F1 ((p5 &&& (3 : Int32)) % (3 : Int32)) wI wA wV)), .val (.ref (own_F1 ((((p5.toUInt32 >>> ((2 : Int32) &&& 31).toUInt32).toInt32) &&& (3 : Int32)) % (3 : Int32)) wI wA wV)), .val (.int (if (p5 &&& (16 : Int32)) = (0 : Int32) then p1 else (p1 ^^^ p6))), .val (.int (if (p5 &&& (32 : Int32)) = (0 : Int32) then p2 else (p2 ^^^ p6))), .val (.int (if (p5 &&& (64 : Int32)) = (0 : Int32) then p3 else (p3 ^^^ p6))), .val (.int (if (p5 &&& (128 : Int32)) = (0 : Int32) then p4 else (p4 ^^^ p6))), .val (.int (((p5.toUInt32 >>> ((8 : Int32) &&& 31).toUInt32).toInt32) &&& (3 : Int32))), .val (.ref b93), .val (.ref b101), .val (.ref b115), .unset] [(.int (1 : Int32))])) _
      exact retN X135 hx (t := .boolean) Bd.returns (by simp) (hb hby at_171) hr
    · show Q0 Z p1 p2 p3 p4 p5 p6 wI wA wV h0 n0 _ T135.heap _
      rw [e135]
      exact ⟨rfl, N135⟩
  · have pre137 : ∀ t, Steps p.tables e below (T121.setTop (mkF m 175 #[.val (.int p1), .val (.int p2), .val (.int p3), .val (.int p4), .val (.int p5), .val (.int p6), .val (.ref (own_F1 ((p5 &&& (3 : Int32)) % (3 : Int32)) wI wA wV)), .val (.ref (own_F1 ((((p5.toUInt32 >>> ((2 : Int32) &&& 31).toUInt32).toInt32) &&& (3 : Int32)) % (3 : Int32)) wI wA wV)), .val (.int (if (p5 &&& (16 : Int32)) = (0 : Int32) then p1 else (p1 ^^^ p6))), .val (.int (if (p5 &&& (32 : Int32)) = (0 : Int32) then p2 else (p2 ^^^ p6))), .val (.int (if (p5 &&& (64 : Int32)) = (0 : Int32) then p3 else (p3 ^^^ p6))), .val (.int (if (p5 &&& (128 : Int32)) = (0 : Int32) then p4 else (p4 ^^^ p6))), .val (.int (((p5.toUInt32 >>> ((8 : Int32) &&& 31).toUInt32).toInt32) &&& (3 : Int32))), .val (.ref b93), .val (.ref b101), .val (.ref b115), .unset] [(.int (2 : Int32)), (.int (((p5.toUInt32 >>> ((8 : Int32) &&& 31).toUInt32).toInt32) &&& (3 : Int32)))])) t → Steps p.tables e below (s₁.setTop (entryFrame m #[(.int p1), (.int p2), (.int p3), (.int p4), (.int p5), (.int p6)] maxLocals)) t := by
      intro t kt
      refine pre133 _ ?_
      show Steps p.tables e below (T121.setTop (mkF m 154 #[.val (.int p1), .val (.int p2), .val (.int p3), .val (.int p4), .val (.int p5), .val (.int p6), .val (.ref (own_F1 ((p5 &&& (3 : Int32)) % (3 : Int32)) wI wA wV)), .val (.ref (own_F1 ((((p5.toUInt32 >>> ((2 : Int32) &&& 31).toUInt32).toInt32) &&& (3 : Int32)) % (3 : Int32)) wI wA wV)), .val (.int (if (p5 &&& (16 : Int32)) = (0 : Int32) then p1 else (p1 ^^^ p6))), .val (.int (if (p5 &&& (32 : Int32)) = (0 : Int32) then p2 else (p2 ^^^ p6))), .val (.int (if (p5 &&& (64 : Int32)) = (0 : Int32) then p3 else (p3 ^^^ p6))), .val (.int (if (p5 &&& (128 : Int32)) = (0 : Int32) then p4 else (p4 ^^^ p6))), .val (.int (((p5.toUInt32 >>> ((8 : Int32) &&& 31).toUInt32).toInt32) &&& (3 : Int32))), .val (.ref b93), .val (.ref b101), .val (.ref b115), .unset] [(.int (1 : Int32)), (.int (((p5.toUInt32 >>> ((8 : Int32) &&& 31).toUInt32).toInt32) &&& (3 : Int32)))])) _
      refine XS.icmpYes X121.here hx rfl (pc0 := 154) (pc' := 172) rfl (hb hby at_154) rfl (feq hc154_134).2 (by decide) (by decide) ?_
      show Steps p.tables e below (T121.setTop (mkF m 172 #[.val (.int p1), .val (.int p2), .val (.int p3), .val (.int p4), .val (.int p5), .val (.int p6), .val (.ref (own_F1 ((p5 &&& (3 : Int32)) % (3 : Int32)) wI wA wV)), .val (.ref (own_F1 ((((p5.toUInt32 >>> ((2 : Int32) &&& 31).toUInt32).toInt32) &&& (3 : Int32)) % (3 : Int32)) wI wA wV)), .val (.int (if (p5 &&& (16 : Int32)) = (0 : Int32) then p1 else (p1 ^^^ p6))), .val (.int (if (p5 &&& (32 : Int32)) = (0 : Int32) then p2 else (p2 ^^^ p6))), .val (.int (if (p5 &&& (64 : Int32)) = (0 : Int32) then p3 else (p3 ^^^ p6))), .val (.int (if (p5 &&& (128 : Int32)) = (0 : Int32) then p4 else (p4 ^^^ p6))), .val (.int (((p5.toUInt32 >>> ((8 : Int32) &&& 31).toUInt32).toInt32) &&& (3 : Int32))), .val (.ref b93), .val (.ref b101), .val (.ref b115), .unset] [])) _
      refine XS.iload X121.here hx rfl (hb hby at_172) rfl ?_
      show Steps p.tables e below (T121.setTop (mkF m 174 #[.val (.int p1), .val (.int p2), .val (.int p3), .val (.int p4), .val (.int p5), .val (.int p6), .val (.ref (own_F1 ((p5 &&& (3 : Int32)) % (3 : Int32)) wI wA wV)), .val (.ref (own_F1 ((((p5.toUInt32 >>> ((2 : Int32) &&& 31).toUInt32).toInt32) &&& (3 : Int32)) % (3 : Int32)) wI wA wV)), .val (.int (if (p5 &&& (16 : Int32)) = (0 : Int32) then p1 else (p1 ^^^ p6))), .val (.int (if (p5 &&& (32 : Int32)) = (0 : Int32) then p2 else (p2 ^^^ p6))), .val (.int (if (p5 &&& (64 : Int32)) = (0 : Int32) then p3 else (p3 ^^^ p6))), .val (.int (if (p5 &&& (128 : Int32)) = (0 : Int32) then p4 else (p4 ^^^ p6))), .val (.int (((p5.toUInt32 >>> ((8 : Int32) &&& 31).toUInt32).toInt32) &&& (3 : Int32))), .val (.ref b93), .val (.ref b101), .val (.ref b115), .unset] [(.int (((p5.toUInt32 >>> ((8 : Int32) &&& 31).toUInt32).toInt32) &&& (3 : Int32)))])) _
      refine XS.iconst X121.here hx rfl (hb hby at_174) ?_
      exact kt
    by_cases hc175_138 : (((p5.toUInt32 >>> ((8 : Int32) &&& 31).toUInt32).toInt32) &&& (3 : Int32)) = (2 : Int32)
    · obtain ⟨cq139, kq139, q139a, q139b, q139c⟩ := isOf hZ rfl (f120.keep K121q)
      obtain ⟨_, _, ⟨T139, L139, k139, n139⟩, -, X139, ⟨Lc139, hQ139, l139, y139, z139⟩, st139⟩ := X121.virtualBack hx (y := (⟨"com/example/cluster_protocol_models/clusterprotocolmodels/hermes/Message", "equals", "(Ljava/lang/Object;)Z"⟩ : MethodName)) (z := (⟨"com/example/cluster_protocol_models/clusterprotocolmodels/hermes/Message", "equals", "(Ljava/lang/Object;)Z"⟩ : MethodName)) hown (mvT hZ (hw _ (List.mem_of_getElem? (i := 37) rfl))) (mvT hZ (hw _ (List.mem_of_getElem? (i := 38) rfl))) (notFace_of_selects (args := #[]) (mvT hZ (hw _ (List.mem_of_getElem? (i := 40) rfl)))) (mvT hZ (hw _ (List.mem_of_getElem? (i := 40) rfl))) (mvT hZ (hw _ (List.mem_of_getElem? (i := 39) rfl))) (by decide) (backOf (W := 0) (rm5t l Z a0 hw [] b93 b115 T121.heap n0 z132 gE121) hZ (hw _ (List.mem_of_getElem? (i := 41) rfl)) (hw _ (List.mem_of_getElem? (i := 9) rfl)) (by decide) (by decide)) q139a q139c (g := (mkF m 182 #[.val (.int p1), .val (.int p2), .val (.int p3), .val (.int p4), .val (.int p5), .val (.int p6), .val (.ref (own_F1 ((p5 &&& (3 : Int32)) % (3 : Int32)) wI wA wV)), .val (.ref (own_F1 ((((p5.toUInt32 >>> ((2 : Int32) &&& 31).toUInt32).toInt32) &&& (3 : Int32)) % (3 : Int32)) wI wA wV)), .val (.int (if (p5 &&& (16 : Int32)) = (0 : Int32) then p1 else (p1 ^^^ p6))), .val (.int (if (p5 &&& (32 : Int32)) = (0 : Int32) then p2 else (p2 ^^^ p6))), .val (.int (if (p5 &&& (64 : Int32)) = (0 : Int32) then p3 else (p3 ^^^ p6))), .val (.int (if (p5 &&& (128 : Int32)) = (0 : Int32) then p4 else (p4 ^^^ p6))), .val (.int (((p5.toUInt32 >>> ((8 : Int32) &&& 31).toUInt32).toInt32) &&& (3 : Int32))), .val (.ref b93), .val (.ref b101), .val (.ref b115), .unset] [(.ref b115), (.ref b93)])) rfl (by rw [hml]; rfl) (Steps.refl _) (argsL := [(.ref b115)]) (rest := []) (lenOf pd_3 rfl) rfl (by show 2 * 0 + _ ≤ _; exact Nat.le_of_eq rfl) (hb hby at_182) (fun _ _ => ⟨rfl, rfl, (by decide : 3 + 0 ≤ _), (by decide : 12 + 0 ≤ _)⟩)
      dsimp only [Pt.U, Pt.locs, Pt.cells, Pt.slots] at X139 l139 y139 z139 st139 hQ139
      subst l139 y139 z139
      obtain ⟨rfl, N139q, e139⟩ := hQ139
      have N139 := Fr.app N121 N139q
      have pre140 : ∀ t, Steps p.tables e below (T139.setTop (mkF m 193 #[.val (.int p1), .val (.int p2), .val (.int p3), .val (.int p4), .val (.int p5), .val (.int p6), .val (.ref (own_F1 ((p5 &&& (3 : Int32)) % (3 : Int32)) wI wA wV)), .val (.ref (own_F1 ((((p5.toUInt32 >>> ((2 : Int32) &&& 31).toUInt32).toInt32) &&& (3 : Int32)) % (3 : Int32)) wI wA wV)), .val (.int (if (p5 &&& (16 : Int32)) = (0 : Int32) then p1 else (p1 ^^^ p6))), .val (.int (if (p5 &&& (32 : Int32)) = (0 : Int32) then p2 else (p2 ^^^ p6))), .val (.int (if (p5 &&& (64 : Int32)) = (0 : Int32) then p3 else (p3 ^^^ p6))), .val (.int (if (p5 &&& (128 : Int32)) = (0 : Int32) then p4 else (p4 ^^^ p6))), .val (.int (((p5.toUInt32 >>> ((8 : Int32) &&& 31).toUInt32).toInt32) &&& (3 : Int32))), .val (.ref b93), .val (.ref b101), .val (.ref b115), .unset] [(.int (1 : Int32))])) t → Steps p.tables e below (s₁.setTop (entryFrame m #[(.int p1), (.int p2), (.int p3), (.int p4), (.int p5), (.int p6)] maxLocals)) t := by
        intro t kt
        refine pre137 _ ?_
        show Steps p.tables e below (T121.setTop (mkF m 175 #[.val (.int p1), .val (.int p2), .val (.int p3), .val (.int p4), .val (.int p5), .val (.int p6), .val (.ref (own_F1 ((p5 &&& (3 : Int32)) % (3 : Int32)) wI wA wV)), .val (.ref (own_F1 ((((p5.toUInt32 >>> ((2 : Int32) &&& 31).toUInt32).toInt32) &&& (3 : Int32)) % (3 : Int32)) wI wA wV)), .val (.int (if (p5 &&& (16 : Int32)) = (0 : Int32) then p1 else (p1 ^^^ p6))), .val (.int (if (p5 &&& (32 : Int32)) = (0 : Int32) then p2 else (p2 ^^^ p6))), .val (.int (if (p5 &&& (64 : Int32)) = (0 : Int32) then p3 else (p3 ^^^ p6))), .val (.int (if (p5 &&& (128 : Int32)) = (0 : Int32) then p4 else (p4 ^^^ p6))), .val (.int (((p5.toUInt32 >>> ((8 : Int32) &&& 31).toUInt32).toInt32) &&& (3 : Int32))), .val (.ref b93), .val (.ref b101), .val (.ref b115), .unset] [(.int (2 : Int32)), (.int (((p5.toUInt32 >>> ((8 : Int32) &&& 31).toUInt32).toInt32) &&& (3 : Int32)))])) _
        refine XS.icmpNo X121.here hx rfl (hb hby at_175) rfl (teq hc175_138).2 ?_
        show Steps p.tables e below (T121.setTop (mkF m 178 #[.val (.int p1), .val (.int p2), .val (.int p3), .val (.int p4), .val (.int p5), .val (.int p6), .val (.ref (own_F1 ((p5 &&& (3 : Int32)) % (3 : Int32)) wI wA wV)), .val (.ref (own_F1 ((((p5.toUInt32 >>> ((2 : Int32) &&& 31).toUInt32).toInt32) &&& (3 : Int32)) % (3 : Int32)) wI wA wV)), .val (.int (if (p5 &&& (16 : Int32)) = (0 : Int32) then p1 else (p1 ^^^ p6))), .val (.int (if (p5 &&& (32 : Int32)) = (0 : Int32) then p2 else (p2 ^^^ p6))), .val (.int (if (p5 &&& (64 : Int32)) = (0 : Int32) then p3 else (p3 ^^^ p6))), .val (.int (if (p5 &&& (128 : Int32)) = (0 : Int32) then p4 else (p4 ^^^ p6))), .val (.int (((p5.toUInt32 >>> ((8 : Int32) &&& 31).toUInt32).toInt32) &&& (3 : Int32))), .val (.ref b93), .val (.ref b101), .val (.ref b115), .unset] [])) _
        refine XS.aload X121.here hx rfl (hb hby at_178) rfl rfl ?_
        show Steps p.tables e below (T121.setTop (mkF m 180 #[.val (.int p1), .val (.int p2), .val (.int p3), .val (.int p4), .val (.int p5), .val (.int p6), .val (.ref (own_F1 ((p5 &&& (3 : Int32)) % (3 : Int32)) wI wA wV)), .val (.ref (own_F1 ((((p5.toUInt32 >>> ((2 : Int32) &&& 31).toUInt32).toInt32) &&& (3 : Int32)) % (3 : Int32)) wI wA wV)), .val (.int (if (p5 &&& (16 : Int32)) = (0 : Int32) then p1 else (p1 ^^^ p6))), .val (.int (if (p5 &&& (32 : Int32)) = (0 : Int32) then p2 else (p2 ^^^ p6))), .val (.int (if (p5 &&& (64 : Int32)) = (0 : Int32) then p3 else (p3 ^^^ p6))), .val (.int (if (p5 &&& (128 : Int32)) = (0 : Int32) then p4 else (p4 ^^^ p6))), .val (.int (((p5.toUInt32 >>> ((8 : Int32) &&& 31).toUInt32).toInt32) &&& (3 : Int32))), .val (.ref b93), .val (.ref b101), .val (.ref b115), .unset] [(.ref b93)])) _
        refine XS.aload X121.here hx rfl (hb hby at_180) rfl rfl ?_
        show Steps p.tables e below (T121.setTop (mkF m 182 #[.val (.int p1), .val (.int p2), .val (.int p3), .val (.int p4), .val (.int p5), .val (.int p6), .val (.ref (own_F1 ((p5 &&& (3 : Int32)) % (3 : Int32)) wI wA wV)), .val (.ref (own_F1 ((((p5.toUInt32 >>> ((2 : Int32) &&& 31).toUInt32).toInt32) &&& (3 : Int32)) % (3 : Int32)) wI wA wV)), .val (.int (if (p5 &&& (16 : Int32)) = (0 : Int32) then p1 else (p1 ^^^ p6))), .val (.int (if (p5 &&& (32 : Int32)) = (0 : Int32) then p2 else (p2 ^^^ p6))), .val (.int (if (p5 &&& (64 : Int32)) = (0 : Int32) then p3 else (p3 ^^^ p6))), .val (.int (if (p5 &&& (128 : Int32)) = (0 : Int32) then p4 else (p4 ^^^ p6))), .val (.int (((p5.toUInt32 >>> ((8 : Int32) &&& 31).toUInt32).toInt32) &&& (3 : Int32))), .val (.ref b93), .val (.ref b101), .val (.ref b115), .unset] [(.ref b115), (.ref b93)])) _
        refine st139.trans ?_
        show Steps p.tables e below (T139.setTop (mkF m 185 #[.val (.int p1), .val (.int p2), .val (.int p3), .val (.int p4), .val (.int p5), .val (.int p6), .val (.ref (own_F1 ((p5 &&& (3 : Int32)) % (3 : Int32)) wI wA wV)), .val (.ref (own_F1 ((((p5.toUInt32 >>> ((2 : Int32) &&& 31).toUInt32).toInt32) &&& (3 : Int32)) % (3 : Int32)) wI wA wV)), .val (.int (if (p5 &&& (16 : Int32)) = (0 : Int32) then p1 else (p1 ^^^ p6))), .val (.int (if (p5 &&& (32 : Int32)) = (0 : Int32) then p2 else (p2 ^^^ p6))), .val (.int (if (p5 &&& (64 : Int32)) = (0 : Int32) then p3 else (p3 ^^^ p6))), .val (.int (if (p5 &&& (128 : Int32)) = (0 : Int32) then p4 else (p4 ^^^ p6))), .val (.int (((p5.toUInt32 >>> ((8 : Int32) &&& 31).toUInt32).toInt32) &&& (3 : Int32))), .val (.ref b93), .val (.ref b101), .val (.ref b115), .unset] [(.int (0 : Int32))])) _
        refine XS.ifNo X139.here hx rfl (hb hby at_185) rfl ((if0 _ _).trans (teq (by decide : (0 : Int32) = (0 : Int32))).2) ?_
        show Steps p.tables e below (T139.setTop (mkF m 188 #[.val (.int p1), .val (.int p2), .val (.int p3), .val (.int p4), .val (.int p5), .val (.int p6), .val (.ref (own_F1 ((p5 &&& (3 : Int32)) % (3 : Int32)) wI wA wV)), .val (.ref (own_F1 ((((p5.toUInt32 >>> ((2 : Int32) &&& 31).toUInt32).toInt32) &&& (3 : Int32)) % (3 : Int32)) wI wA wV)), .val (.int (if (p5 &&& (16 : Int32)) = (0 : Int32) then p1 else (p1 ^^^ p6))), .val (.int (if (p5 &&& (32 : Int32)) = (0 : Int32) then p2 else (p2 ^^^ p6))), .val (.int (if (p5 &&& (64 : Int32)) = (0 : Int32) then p3 else (p3 ^^^ p6))), .val (.int (if (p5 &&& (128 : Int32)) = (0 : Int32) then p4 else (p4 ^^^ p6))), .val (.int (((p5.toUInt32 >>> ((8 : Int32) &&& 31).toUInt32).toInt32) &&& (3 : Int32))), .val (.ref b93), .val (.ref b101), .val (.ref b115), .unset] [])) _
        refine XS.iconst X139.here hx rfl (hb hby at_188) ?_
        show Steps p.tables e below (T139.setTop (mkF m 189 #[.val (.int p1), .val (.int p2), .val (.int p3), .val (.int p4), .val (.int p5), .val (.int p6), .val (.ref (own_F1 ((p5 &&& (3 : Int32)) % (3 : Int32)) wI wA wV)), .val (.ref (own_F1 ((((p5.toUInt32 >>> ((2 : Int32) &&& 31).toUInt32).toInt32) &&& (3 : Int32)) % (3 : Int32)) wI wA wV)), .val (.int (if (p5 &&& (16 : Int32)) = (0 : Int32) then p1 else (p1 ^^^ p6))), .val (.int (if (p5 &&& (32 : Int32)) = (0 : Int32) then p2 else (p2 ^^^ p6))), .val (.int (if (p5 &&& (64 : Int32)) = (0 : Int32) then p3 else (p3 ^^^ p6))), .val (.int (if (p5 &&& (128 : Int32)) = (0 : Int32) then p4 else (p4 ^^^ p6))), .val (.int (((p5.toUInt32 >>> ((8 : Int32) &&& 31).toUInt32).toInt32) &&& (3 : Int32))), .val (.ref b93), .val (.ref b101), .val (.ref b115), .unset] [(.int (1 : Int32))])) _
        refine XS.goto X139.here hx rfl (pc0 := 189) (pc' := 193) rfl (hb hby at_189) (by decide) (by decide) ?_
        exact kt
      obtain ⟨fs, hr, hrun, hended, hW, hsame⟩ := X139.leave (v := some (.int (1 : Int32))) (fun h => by rw [Bd.returns] at h; cases h)
      refine ⟨_, _, pre140 _ ?_, hrun, hended, _, _, rfl, ?_, ⟨_, rfl⟩, hW, hsame.mono (by decide) (by decide)⟩
      · show Steps p.tables e below (T139.setTop (mkF m 193 #[.val (.int p1), .val (.int p2), .val (.int p3), .val (.int p4), .val (.int p5), .val (.int p6), .val (.ref (own_F1 ((p5 &&& (3 : Int32)) % (3 : Int32)) wI wA wV)), .val (.ref (own_F1 ((((p5.toUInt32 >>> ((2 : Int32) &&& 31).toUInt32).toInt32) &&& (3 : Int32)) % (3 : Int32)) wI wA wV)), .val (.int (if (p5 &&& (16 : Int32)) = (0 : Int32) then p1 else (p1 ^^^ p6))), .val (.int (if (p5 &&& (32 : Int32)) = (0 : Int32) then p2 else (p2 ^^^ p6))), .val (.int (if (p5 &&& (64 : Int32)) = (0 : Int32) then p3 else (p3 ^^^ p6))), .val (.int (if (p5 &&& (128 : Int32)) = (0 : Int32) then p4 else (p4 ^^^ p6))), .val (.int (((p5.toUInt32 >>> ((8 : Int32) &&& 31).toUInt32).toInt32) &&& (3 : Int32))), .val (.ref b93), .val (.ref b101), .val (.ref b115), .unset] [(.int (1 : Int32))])) _
        exact retN X139 hx (t := .boolean) Bd.returns (by simp) (hb hby at_193) hr
      · show Q0 Z p1 p2 p3 p4 p5 p6 wI wA wV h0 n0 _ T139.heap _
        rw [e139]
        exact ⟨rfl, N139⟩
    · have pre141 : ∀ t, Steps p.tables e below (T121.setTop (mkF m 197 #[.val (.int p1), .val (.int p2), .val (.int p3), .val (.int p4), .val (.int p5), .val (.int p6), .val (.ref (own_F1 ((p5 &&& (3 : Int32)) % (3 : Int32)) wI wA wV)), .val (.ref (own_F1 ((((p5.toUInt32 >>> ((2 : Int32) &&& 31).toUInt32).toInt32) &&& (3 : Int32)) % (3 : Int32)) wI wA wV)), .val (.int (if (p5 &&& (16 : Int32)) = (0 : Int32) then p1 else (p1 ^^^ p6))), .val (.int (if (p5 &&& (32 : Int32)) = (0 : Int32) then p2 else (p2 ^^^ p6))), .val (.int (if (p5 &&& (64 : Int32)) = (0 : Int32) then p3 else (p3 ^^^ p6))), .val (.int (if (p5 &&& (128 : Int32)) = (0 : Int32) then p4 else (p4 ^^^ p6))), .val (.int (((p5.toUInt32 >>> ((8 : Int32) &&& 31).toUInt32).toInt32) &&& (3 : Int32))), .val (.ref b93), .val (.ref b101), .val (.ref b115), .unset] [(.int (3 : Int32)), (.int (((p5.toUInt32 >>> ((8 : Int32) &&& 31).toUInt32).toInt32) &&& (3 : Int32)))])) t → Steps p.tables e below (s₁.setTop (entryFrame m #[(.int p1), (.int p2), (.int p3), (.int p4), (.int p5), (.int p6)] maxLocals)) t := by
        intro t kt
        refine pre137 _ ?_
        show Steps p.tables e below (T121.setTop (mkF m 175 #[.val (.int p1), .val (.int p2), .val (.int p3), .val (.int p4), .val (.int p5), .val (.int p6), .val (.ref (own_F1 ((p5 &&& (3 : Int32)) % (3 : Int32)) wI wA wV)), .val (.ref (own_F1 ((((p5.toUInt32 >>> ((2 : Int32) &&& 31).toUInt32).toInt32) &&& (3 : Int32)) % (3 : Int32)) wI wA wV)), .val (.int (if (p5 &&& (16 : Int32)) = (0 : Int32) then p1 else (p1 ^^^ p6))), .val (.int (if (p5 &&& (32 : Int32)) = (0 : Int32) then p2 else (p2 ^^^ p6))), .val (.int (if (p5 &&& (64 : Int32)) = (0 : Int32) then p3 else (p3 ^^^ p6))), .val (.int (if (p5 &&& (128 : Int32)) = (0 : Int32) then p4 else (p4 ^^^ p6))), .val (.int (((p5.toUInt32 >>> ((8 : Int32) &&& 31).toUInt32).toInt32) &&& (3 : Int32))), .val (.ref b93), .val (.ref b101), .val (.ref b115), .unset] [(.int (2 : Int32)), (.int (((p5.toUInt32 >>> ((8 : Int32) &&& 31).toUInt32).toInt32) &&& (3 : Int32)))])) _
        refine XS.icmpYes X121.here hx rfl (pc0 := 175) (pc' := 194) rfl (hb hby at_175) rfl (feq hc175_138).2 (by decide) (by decide) ?_
        show Steps p.tables e below (T121.setTop (mkF m 194 #[.val (.int p1), .val (.int p2), .val (.int p3), .val (.int p4), .val (.int p5), .val (.int p6), .val (.ref (own_F1 ((p5 &&& (3 : Int32)) % (3 : Int32)) wI wA wV)), .val (.ref (own_F1 ((((p5.toUInt32 >>> ((2 : Int32) &&& 31).toUInt32).toInt32) &&& (3 : Int32)) % (3 : Int32)) wI wA wV)), .val (.int (if (p5 &&& (16 : Int32)) = (0 : Int32) then p1 else (p1 ^^^ p6))), .val (.int (if (p5 &&& (32 : Int32)) = (0 : Int32) then p2 else (p2 ^^^ p6))), .val (.int (if (p5 &&& (64 : Int32)) = (0 : Int32) then p3 else (p3 ^^^ p6))), .val (.int (if (p5 &&& (128 : Int32)) = (0 : Int32) then p4 else (p4 ^^^ p6))), .val (.int (((p5.toUInt32 >>> ((8 : Int32) &&& 31).toUInt32).toInt32) &&& (3 : Int32))), .val (.ref b93), .val (.ref b101), .val (.ref b115), .unset] [])) _
        refine XS.iload X121.here hx rfl (hb hby at_194) rfl ?_
        show Steps p.tables e below (T121.setTop (mkF m 196 #[.val (.int p1), .val (.int p2), .val (.int p3), .val (.int p4), .val (.int p5), .val (.int p6), .val (.ref (own_F1 ((p5 &&& (3 : Int32)) % (3 : Int32)) wI wA wV)), .val (.ref (own_F1 ((((p5.toUInt32 >>> ((2 : Int32) &&& 31).toUInt32).toInt32) &&& (3 : Int32)) % (3 : Int32)) wI wA wV)), .val (.int (if (p5 &&& (16 : Int32)) = (0 : Int32) then p1 else (p1 ^^^ p6))), .val (.int (if (p5 &&& (32 : Int32)) = (0 : Int32) then p2 else (p2 ^^^ p6))), .val (.int (if (p5 &&& (64 : Int32)) = (0 : Int32) then p3 else (p3 ^^^ p6))), .val (.int (if (p5 &&& (128 : Int32)) = (0 : Int32) then p4 else (p4 ^^^ p6))), .val (.int (((p5.toUInt32 >>> ((8 : Int32) &&& 31).toUInt32).toInt32) &&& (3 : Int32))), .val (.ref b93), .val (.ref b101), .val (.ref b115), .unset] [(.int (((p5.toUInt32 >>> ((8 : Int32) &&& 31).toUInt32).toInt32) &&& (3 : Int32)))])) _
        refine XS.iconst X121.here hx rfl (hb hby at_196) ?_
        exact kt
      by_cases hc197_142 : (((p5.toUInt32 >>> ((8 : Int32) &&& 31).toUInt32).toInt32) &&& (3 : Int32)) = (3 : Int32)
      · obtain ⟨cq143, kq143, q143a, q143b, q143c⟩ := isOf hZ rfl (f120.keep K121q)
        obtain ⟨_, _, ⟨T143, L143, k143, n143⟩, -, X143, ⟨Lc143, hQ143, l143, y143, z143⟩, st143⟩ := X121.virtualBack hx (y := (⟨"com/example/cluster_protocol_models/clusterprotocolmodels/hermes/Message", "equals", "(Ljava/lang/Object;)Z"⟩ : MethodName)) (z := (⟨"com/example/cluster_protocol_models/clusterprotocolmodels/hermes/Message", "equals", "(Ljava/lang/Object;)Z"⟩ : MethodName)) hown (mvT hZ (hw _ (List.mem_of_getElem? (i := 37) rfl))) (mvT hZ (hw _ (List.mem_of_getElem? (i := 38) rfl))) (notFace_of_selects (args := #[]) (mvT hZ (hw _ (List.mem_of_getElem? (i := 40) rfl)))) (mvT hZ (hw _ (List.mem_of_getElem? (i := 40) rfl))) (mvT hZ (hw _ (List.mem_of_getElem? (i := 39) rfl))) (by decide) (backOf (W := 0) (rm5m l Z a0 hw [] b93 b93 (own_F1 ((p5 &&& (3 : Int32)) % (3 : Int32)) wI wA wV) p1 p2 p3 p4 (own_F1 ((p5 &&& (3 : Int32)) % (3 : Int32)) wI wA wV) p1 p2 p3 p4 T121.heap n0 z132 f122 f123 f124 f125 f126 f122 f123 f124 f125 f126 (f120.keep K121q)) hZ (hw _ (List.mem_of_getElem? (i := 41) rfl)) (hw _ (List.mem_of_getElem? (i := 9) rfl)) (by decide) (by decide)) q143a q143c (g := (mkF m 204 #[.val (.int p1), .val (.int p2), .val (.int p3), .val (.int p4), .val (.int p5), .val (.int p6), .val (.ref (own_F1 ((p5 &&& (3 : Int32)) % (3 : Int32)) wI wA wV)), .val (.ref (own_F1 ((((p5.toUInt32 >>> ((2 : Int32) &&& 31).toUInt32).toInt32) &&& (3 : Int32)) % (3 : Int32)) wI wA wV)), .val (.int (if (p5 &&& (16 : Int32)) = (0 : Int32) then p1 else (p1 ^^^ p6))), .val (.int (if (p5 &&& (32 : Int32)) = (0 : Int32) then p2 else (p2 ^^^ p6))), .val (.int (if (p5 &&& (64 : Int32)) = (0 : Int32) then p3 else (p3 ^^^ p6))), .val (.int (if (p5 &&& (128 : Int32)) = (0 : Int32) then p4 else (p4 ^^^ p6))), .val (.int (((p5.toUInt32 >>> ((8 : Int32) &&& 31).toUInt32).toInt32) &&& (3 : Int32))), .val (.ref b93), .val (.ref b101), .val (.ref b115), .unset] [(.ref b93), (.ref b93)])) rfl (by rw [hml]; rfl) (Steps.refl _) (argsL := [(.ref b93)]) (rest := []) (lenOf pd_3 rfl) rfl (by show 2 * 0 + _ ≤ _; exact Nat.le_of_eq rfl) (hb hby at_204) (fun _ _ => ⟨rfl, rfl, (by decide : 3 + 0 ≤ _), (by decide : 12 + 0 ≤ _)⟩)
        dsimp only [Pt.U, Pt.locs, Pt.cells, Pt.slots] at X143 l143 y143 z143 st143 hQ143
        subst l143 y143 z143
        obtain ⟨rfl, N143q, e143⟩ := hQ143
        have N143 := Fr.app N121 N143q
        have pre144 : ∀ t, Steps p.tables e below (T143.setTop (mkF m 207 #[.val (.int p1), .val (.int p2), .val (.int p3), .val (.int p4), .val (.int p5), .val (.int p6), .val (.ref (own_F1 ((p5 &&& (3 : Int32)) % (3 : Int32)) wI wA wV)), .val (.ref (own_F1 ((((p5.toUInt32 >>> ((2 : Int32) &&& 31).toUInt32).toInt32) &&& (3 : Int32)) % (3 : Int32)) wI wA wV)), .val (.int (if (p5 &&& (16 : Int32)) = (0 : Int32) then p1 else (p1 ^^^ p6))), .val (.int (if (p5 &&& (32 : Int32)) = (0 : Int32) then p2 else (p2 ^^^ p6))), .val (.int (if (p5 &&& (64 : Int32)) = (0 : Int32) then p3 else (p3 ^^^ p6))), .val (.int (if (p5 &&& (128 : Int32)) = (0 : Int32) then p4 else (p4 ^^^ p6))), .val (.int (((p5.toUInt32 >>> ((8 : Int32) &&& 31).toUInt32).toInt32) &&& (3 : Int32))), .val (.ref b93), .val (.ref b101), .val (.ref b115), .unset] [(.int (own_eq (own_F1 ((p5 &&& (3 : Int32)) % (3 : Int32)) wI wA wV) p1 p2 p3 p4 (own_F1 ((p5 &&& (3 : Int32)) % (3 : Int32)) wI wA wV) p1 p2 p3 p4))])) t → Steps p.tables e below (s₁.setTop (entryFrame m #[(.int p1), (.int p2), (.int p3), (.int p4), (.int p5), (.int p6)] maxLocals)) t := by
          intro t kt
          refine pre141 _ ?_
          show Steps p.tables e below (T121.setTop (mkF m 197 #[.val (.int p1), .val (.int p2), .val (.int p3), .val (.int p4), .val (.int p5), .val (.int p6), .val (.ref (own_F1 ((p5 &&& (3 : Int32)) % (3 : Int32)) wI wA wV)), .val (.ref (own_F1 ((((p5.toUInt32 >>> ((2 : Int32) &&& 31).toUInt32).toInt32) &&& (3 : Int32)) % (3 : Int32)) wI wA wV)), .val (.int (if (p5 &&& (16 : Int32)) = (0 : Int32) then p1 else (p1 ^^^ p6))), .val (.int (if (p5 &&& (32 : Int32)) = (0 : Int32) then p2 else (p2 ^^^ p6))), .val (.int (if (p5 &&& (64 : Int32)) = (0 : Int32) then p3 else (p3 ^^^ p6))), .val (.int (if (p5 &&& (128 : Int32)) = (0 : Int32) then p4 else (p4 ^^^ p6))), .val (.int (((p5.toUInt32 >>> ((8 : Int32) &&& 31).toUInt32).toInt32) &&& (3 : Int32))), .val (.ref b93), .val (.ref b101), .val (.ref b115), .unset] [(.int (3 : Int32)), (.int (((p5.toUInt32 >>> ((8 : Int32) &&& 31).toUInt32).toInt32) &&& (3 : Int32)))])) _
          refine XS.icmpNo X121.here hx rfl (hb hby at_197) rfl (teq hc197_142).2 ?_
          show Steps p.tables e below (T121.setTop (mkF m 200 #[.val (.int p1), .val (.int p2), .val (.int p3), .val (.int p4), .val (.int p5), .val (.int p6), .val (.ref (own_F1 ((p5 &&& (3 : Int32)) % (3 : Int32)) wI wA wV)), .val (.ref (own_F1 ((((p5.toUInt32 >>> ((2 : Int32) &&& 31).toUInt32).toInt32) &&& (3 : Int32)) % (3 : Int32)) wI wA wV)), .val (.int (if (p5 &&& (16 : Int32)) = (0 : Int32) then p1 else (p1 ^^^ p6))), .val (.int (if (p5 &&& (32 : Int32)) = (0 : Int32) then p2 else (p2 ^^^ p6))), .val (.int (if (p5 &&& (64 : Int32)) = (0 : Int32) then p3 else (p3 ^^^ p6))), .val (.int (if (p5 &&& (128 : Int32)) = (0 : Int32) then p4 else (p4 ^^^ p6))), .val (.int (((p5.toUInt32 >>> ((8 : Int32) &&& 31).toUInt32).toInt32) &&& (3 : Int32))), .val (.ref b93), .val (.ref b101), .val (.ref b115), .unset] [])) _
          refine XS.aload X121.here hx rfl (hb hby at_200) rfl rfl ?_
          show Steps p.tables e below (T121.setTop (mkF m 202 #[.val (.int p1), .val (.int p2), .val (.int p3), .val (.int p4), .val (.int p5), .val (.int p6), .val (.ref (own_F1 ((p5 &&& (3 : Int32)) % (3 : Int32)) wI wA wV)), .val (.ref (own_F1 ((((p5.toUInt32 >>> ((2 : Int32) &&& 31).toUInt32).toInt32) &&& (3 : Int32)) % (3 : Int32)) wI wA wV)), .val (.int (if (p5 &&& (16 : Int32)) = (0 : Int32) then p1 else (p1 ^^^ p6))), .val (.int (if (p5 &&& (32 : Int32)) = (0 : Int32) then p2 else (p2 ^^^ p6))), .val (.int (if (p5 &&& (64 : Int32)) = (0 : Int32) then p3 else (p3 ^^^ p6))), .val (.int (if (p5 &&& (128 : Int32)) = (0 : Int32) then p4 else (p4 ^^^ p6))), .val (.int (((p5.toUInt32 >>> ((8 : Int32) &&& 31).toUInt32).toInt32) &&& (3 : Int32))), .val (.ref b93), .val (.ref b101), .val (.ref b115), .unset] [(.ref b93)])) _
          refine XS.aload X121.here hx rfl (hb hby at_202) rfl rfl ?_
          show Steps p.tables e below (T121.setTop (mkF m 204 #[.val (.int p1), .val (.int p2), .val (.int p3), .val (.int p4), .val (.int p5), .val (.int p6), .val (.ref (own_F1 ((p5 &&& (3 : Int32)) % (3 : Int32)) wI wA wV)), .val (.ref (own_F1 ((((p5.toUInt32 >>> ((2 : Int32) &&& 31).toUInt32).toInt32) &&& (3 : Int32)) % (3 : Int32)) wI wA wV)), .val (.int (if (p5 &&& (16 : Int32)) = (0 : Int32) then p1 else (p1 ^^^ p6))), .val (.int (if (p5 &&& (32 : Int32)) = (0 : Int32) then p2 else (p2 ^^^ p6))), .val (.int (if (p5 &&& (64 : Int32)) = (0 : Int32) then p3 else (p3 ^^^ p6))), .val (.int (if (p5 &&& (128 : Int32)) = (0 : Int32) then p4 else (p4 ^^^ p6))), .val (.int (((p5.toUInt32 >>> ((8 : Int32) &&& 31).toUInt32).toInt32) &&& (3 : Int32))), .val (.ref b93), .val (.ref b101), .val (.ref b115), .unset] [(.ref b93), (.ref b93)])) _
          refine st143.trans ?_
          exact kt
        obtain ⟨fs, hr, hrun, hended, hW, hsame⟩ := X143.leave (v := some (.int (nar .boolean (own_eq (own_F1 ((p5 &&& (3 : Int32)) % (3 : Int32)) wI wA wV) p1 p2 p3 p4 (own_F1 ((p5 &&& (3 : Int32)) % (3 : Int32)) wI wA wV) p1 p2 p3 p4)))) (fun h => by rw [Bd.returns] at h; cases h)
        refine ⟨_, _, pre144 _ ?_, hrun, hended, _, _, rfl, ?_, ⟨_, rfl⟩, hW, hsame.mono (by decide) (by decide)⟩
        · show Steps p.tables e below (T143.setTop (mkF m 207 #[.val (.int p1), .val (.int p2), .val (.int p3), .val (.int p4), .val (.int p5), .val (.int p6), .val (.ref (own_F1 ((p5 &&& (3 : Int32)) % (3 : Int32)) wI wA wV)), .val (.ref (own_F1 ((((p5.toUInt32 >>> ((2 : Int32) &&& 31).toUInt32).toInt32) &&& (3 : Int32)) % (3 : Int32)) wI wA wV)), .val (.int (if (p5 &&& (16 : Int32)) = (0 : Int32) then p1 else (p1 ^^^ p6))), .val (.int (if (p5 &&& (32 : Int32)) = (0 : Int32) then p2 else (p2 ^^^ p6))), .val (.int (if (p5 &&& (64 : Int32)) = (0 : Int32) then p3 else (p3 ^^^ p6))), .val (.int (if (p5 &&& (128 : Int32)) = (0 : Int32) then p4 else (p4 ^^^ p6))), .val (.int (((p5.toUInt32 >>> ((8 : Int32) &&& 31).toUInt32).toInt32) &&& (3 : Int32))), .val (.ref b93), .val (.ref b101), .val (.ref b115), .unset] [(.int (own_eq (own_F1 ((p5 &&& (3 : Int32)) % (3 : Int32)) wI wA wV) p1 p2 p3 p4 (own_F1 ((p5 &&& (3 : Int32)) % (3 : Int32)) wI wA wV) p1 p2 p3 p4))])) _
          exact retN X143 hx (t := .boolean) Bd.returns (by simp) (hb hby at_207) hr
        · show Q0 Z p1 p2 p3 p4 p5 p6 wI wA wV h0 n0 _ T143.heap _
          rw [e143]
          exact ⟨(by rw [own_eqself]; rfl), N143⟩
      · have pre150 : ∀ t, Steps p.tables e below (T121.setTop (mkF m 244 #[.val (.int p1), .val (.int p2), .val (.int p3), .val (.int p4), .val (.int p5), .val (.int p6), .val (.ref (own_F1 ((p5 &&& (3 : Int32)) % (3 : Int32)) wI wA wV)), .val (.ref (own_F1 ((((p5.toUInt32 >>> ((2 : Int32) &&& 31).toUInt32).toInt32) &&& (3 : Int32)) % (3 : Int32)) wI wA wV)), .val (.int (if (p5 &&& (16 : Int32)) = (0 : Int32) then p1 else (p1 ^^^ p6))), .val (.int (if (p5 &&& (32 : Int32)) = (0 : Int32) then p2 else (p2 ^^^ p6))), .val (.int (if (p5 &&& (64 : Int32)) = (0 : Int32) then p3 else (p3 ^^^ p6))), .val (.int (if (p5 &&& (128 : Int32)) = (0 : Int32) then p4 else (p4 ^^^ p6))), .val (.int (((p5.toUInt32 >>> ((8 : Int32) &&& 31).toUInt32).toInt32) &&& (3 : Int32))), .val (.ref b93), .val (.ref b101), .val (.ref b115), .unset] [(.int (if (own_F1 ((p5 &&& (3 : Int32)) % (3 : Int32)) wI wA wV) = (own_F1 ((((p5.toUInt32 >>> ((2 : Int32) &&& 31).toUInt32).toInt32) &&& (3 : Int32)) % (3 : Int32)) wI wA wV) then (if p1 = (if (p5 &&& (16 : Int32)) = (0 : Int32) then p1 else (p1 ^^^ p6)) then (if p2 = (if (p5 &&& (32 : Int32)) = (0 : Int32) then p2 else (p2 ^^^ p6)) then (if p3 = (if (p5 &&& (64 : Int32)) = (0 : Int32) then p3 else (p3 ^^^ p6)) then (if p4 = (if (p5 &&& (128 : Int32)) = (0 : Int32) then p4 else (p4 ^^^ p6)) then (1 : Int32) else (0 : Int32)) else (0 : Int32)) else (0 : Int32)) else (0 : Int32)) else (0 : Int32)))])) t → Steps p.tables e below (s₁.setTop (entryFrame m #[(.int p1), (.int p2), (.int p3), (.int p4), (.int p5), (.int p6)] maxLocals)) t := by
          intro t kt
          refine pre141 _ ?_
          show Steps p.tables e below (T121.setTop (mkF m 197 #[.val (.int p1), .val (.int p2), .val (.int p3), .val (.int p4), .val (.int p5), .val (.int p6), .val (.ref (own_F1 ((p5 &&& (3 : Int32)) % (3 : Int32)) wI wA wV)), .val (.ref (own_F1 ((((p5.toUInt32 >>> ((2 : Int32) &&& 31).toUInt32).toInt32) &&& (3 : Int32)) % (3 : Int32)) wI wA wV)), .val (.int (if (p5 &&& (16 : Int32)) = (0 : Int32) then p1 else (p1 ^^^ p6))), .val (.int (if (p5 &&& (32 : Int32)) = (0 : Int32) then p2 else (p2 ^^^ p6))), .val (.int (if (p5 &&& (64 : Int32)) = (0 : Int32) then p3 else (p3 ^^^ p6))), .val (.int (if (p5 &&& (128 : Int32)) = (0 : Int32) then p4 else (p4 ^^^ p6))), .val (.int (((p5.toUInt32 >>> ((8 : Int32) &&& 31).toUInt32).toInt32) &&& (3 : Int32))), .val (.ref b93), .val (.ref b101), .val (.ref b115), .unset] [(.int (3 : Int32)), (.int (((p5.toUInt32 >>> ((8 : Int32) &&& 31).toUInt32).toInt32) &&& (3 : Int32)))])) _
          refine XS.icmpYes X121.here hx rfl (pc0 := 197) (pc' := 208) rfl (hb hby at_197) rfl (feq hc197_142).2 (by decide) (by decide) ?_
          show Steps p.tables e below (T121.setTop (mkF m 208 #[.val (.int p1), .val (.int p2), .val (.int p3), .val (.int p4), .val (.int p5), .val (.int p6), .val (.ref (own_F1 ((p5 &&& (3 : Int32)) % (3 : Int32)) wI wA wV)), .val (.ref (own_F1 ((((p5.toUInt32 >>> ((2 : Int32) &&& 31).toUInt32).toInt32) &&& (3 : Int32)) % (3 : Int32)) wI wA wV)), .val (.int (if (p5 &&& (16 : Int32)) = (0 : Int32) then p1 else (p1 ^^^ p6))), .val (.int (if (p5 &&& (32 : Int32)) = (0 : Int32) then p2 else (p2 ^^^ p6))), .val (.int (if (p5 &&& (64 : Int32)) = (0 : Int32) then p3 else (p3 ^^^ p6))), .val (.int (if (p5 &&& (128 : Int32)) = (0 : Int32) then p4 else (p4 ^^^ p6))), .val (.int (((p5.toUInt32 >>> ((8 : Int32) &&& 31).toUInt32).toInt32) &&& (3 : Int32))), .val (.ref b93), .val (.ref b101), .val (.ref b115), .unset] [])) _
          refine XS.aload X121.here hx rfl (hb hby at_208) rfl rfl ?_
          show Steps p.tables e below (T121.setTop (mkF m 210 #[.val (.int p1), .val (.int p2), .val (.int p3), .val (.int p4), .val (.int p5), .val (.int p6), .val (.ref (own_F1 ((p5 &&& (3 : Int32)) % (3 : Int32)) wI wA wV)), .val (.ref (own_F1 ((((p5.toUInt32 >>> ((2 : Int32) &&& 31).toUInt32).toInt32) &&& (3 : Int32)) % (3 : Int32)) wI wA wV)), .val (.int (if (p5 &&& (16 : Int32)) = (0 : Int32) then p1 else (p1 ^^^ p6))), .val (.int (if (p5 &&& (32 : Int32)) = (0 : Int32) then p2 else (p2 ^^^ p6))), .val (.int (if (p5 &&& (64 : Int32)) = (0 : Int32) then p3 else (p3 ^^^ p6))), .val (.int (if (p5 &&& (128 : Int32)) = (0 : Int32) then p4 else (p4 ^^^ p6))), .val (.int (((p5.toUInt32 >>> ((8 : Int32) &&& 31).toUInt32).toInt32) &&& (3 : Int32))), .val (.ref b93), .val (.ref b101), .val (.ref b115), .unset] [(.ref (own_F1 ((p5 &&& (3 : Int32)) % (3 : Int32)) wI wA wV))])) _
          refine XS.aload X121.here hx rfl (hb hby at_210) rfl rfl ?_
          by_cases hj212_145 : (own_F1 ((p5 &&& (3 : Int32)) % (3 : Int32)) wI wA wV) = (own_F1 ((((p5.toUInt32 >>> ((2 : Int32) &&& 31).toUInt32).toInt32) &&& (3 : Int32)) % (3 : Int32)) wI wA wV)
          · rw [if_pos hj212_145] at kt
            show Steps p.tables e below (T121.setTop (mkF m 212 #[.val (.int p1), .val (.int p2), .val (.int p3), .val (.int p4), .val (.int p5), .val (.int p6), .val (.ref (own_F1 ((p5 &&& (3 : Int32)) % (3 : Int32)) wI wA wV)), .val (.ref (own_F1 ((((p5.toUInt32 >>> ((2 : Int32) &&& 31).toUInt32).toInt32) &&& (3 : Int32)) % (3 : Int32)) wI wA wV)), .val (.int (if (p5 &&& (16 : Int32)) = (0 : Int32) then p1 else (p1 ^^^ p6))), .val (.int (if (p5 &&& (32 : Int32)) = (0 : Int32) then p2 else (p2 ^^^ p6))), .val (.int (if (p5 &&& (64 : Int32)) = (0 : Int32) then p3 else (p3 ^^^ p6))), .val (.int (if (p5 &&& (128 : Int32)) = (0 : Int32) then p4 else (p4 ^^^ p6))), .val (.int (((p5.toUInt32 >>> ((8 : Int32) &&& 31).toUInt32).toInt32) &&& (3 : Int32))), .val (.ref b93), .val (.ref b101), .val (.ref b115), .unset] [(.ref (own_F1 ((((p5.toUInt32 >>> ((2 : Int32) &&& 31).toUInt32).toInt32) &&& (3 : Int32)) % (3 : Int32)) wI wA wV)), (.ref (own_F1 ((p5 &&& (3 : Int32)) % (3 : Int32)) wI wA wV))])) _
            refine Jvm.RoadKit.acmp (g := (mkF m 212 #[.val (.int p1), .val (.int p2), .val (.int p3), .val (.int p4), .val (.int p5), .val (.int p6), .val (.ref (own_F1 ((p5 &&& (3 : Int32)) % (3 : Int32)) wI wA wV)), .val (.ref (own_F1 ((((p5.toUInt32 >>> ((2 : Int32) &&& 31).toUInt32).toInt32) &&& (3 : Int32)) % (3 : Int32)) wI wA wV)), .val (.int (if (p5 &&& (16 : Int32)) = (0 : Int32) then p1 else (p1 ^^^ p6))), .val (.int (if (p5 &&& (32 : Int32)) = (0 : Int32) then p2 else (p2 ^^^ p6))), .val (.int (if (p5 &&& (64 : Int32)) = (0 : Int32) then p3 else (p3 ^^^ p6))), .val (.int (if (p5 &&& (128 : Int32)) = (0 : Int32) then p4 else (p4 ^^^ p6))), .val (.int (((p5.toUInt32 >>> ((8 : Int32) &&& 31).toUInt32).toInt32) &&& (3 : Int32))), .val (.ref b93), .val (.ref b101), .val (.ref b115), .unset] [(.ref (own_F1 ((((p5.toUInt32 >>> ((2 : Int32) &&& 31).toUInt32).toInt32) &&& (3 : Int32)) % (3 : Int32)) wI wA wV)), (.ref (own_F1 ((p5 &&& (3 : Int32)) % (3 : Int32)) wI wA wV))])) X121 hx rfl rfl rfl (pc0 := 212) (pc' := 215) (same := true) rfl (hb hby at_212) rfl (decide_eq_true (congrArg Value.ref hj212_145)) (by decide) (by decide) ?_
            show Steps p.tables e below (T121.setTop (mkF m 215 #[.val (.int p1), .val (.int p2), .val (.int p3), .val (.int p4), .val (.int p5), .val (.int p6), .val (.ref (own_F1 ((p5 &&& (3 : Int32)) % (3 : Int32)) wI wA wV)), .val (.ref (own_F1 ((((p5.toUInt32 >>> ((2 : Int32) &&& 31).toUInt32).toInt32) &&& (3 : Int32)) % (3 : Int32)) wI wA wV)), .val (.int (if (p5 &&& (16 : Int32)) = (0 : Int32) then p1 else (p1 ^^^ p6))), .val (.int (if (p5 &&& (32 : Int32)) = (0 : Int32) then p2 else (p2 ^^^ p6))), .val (.int (if (p5 &&& (64 : Int32)) = (0 : Int32) then p3 else (p3 ^^^ p6))), .val (.int (if (p5 &&& (128 : Int32)) = (0 : Int32) then p4 else (p4 ^^^ p6))), .val (.int (((p5.toUInt32 >>> ((8 : Int32) &&& 31).toUInt32).toInt32) &&& (3 : Int32))), .val (.ref b93), .val (.ref b101), .val (.ref b115), .unset] [])) _
            refine XS.iloadN X121.here hx rfl (hb hby at_215) rfl ?_
            show Steps p.tables e below (T121.setTop (mkF m 216 #[.val (.int p1), .val (.int p2), .val (.int p3), .val (.int p4), .val (.int p5), .val (.int p6), .val (.ref (own_F1 ((p5 &&& (3 : Int32)) % (3 : Int32)) wI wA wV)), .val (.ref (own_F1 ((((p5.toUInt32 >>> ((2 : Int32) &&& 31).toUInt32).toInt32) &&& (3 : Int32)) % (3 : Int32)) wI wA wV)), .val (.int (if (p5 &&& (16 : Int32)) = (0 : Int32) then p1 else (p1 ^^^ p6))), .val (.int (if (p5 &&& (32 : Int32)) = (0 : Int32) then p2 else (p2 ^^^ p6))), .val (.int (if (p5 &&& (64 : Int32)) = (0 : Int32) then p3 else (p3 ^^^ p6))), .val (.int (if (p5 &&& (128 : Int32)) = (0 : Int32) then p4 else (p4 ^^^ p6))), .val (.int (((p5.toUInt32 >>> ((8 : Int32) &&& 31).toUInt32).toInt32) &&& (3 : Int32))), .val (.ref b93), .val (.ref b101), .val (.ref b115), .unset] [(.int p1)])) _
            refine XS.iload X121.here hx rfl (hb hby at_216) rfl ?_
            by_cases hj218_146 : p1 = (if (p5 &&& (16 : Int32)) = (0 : Int32) then p1 else (p1 ^^^ p6))
            · rw [if_pos hj218_146] at kt
              show Steps p.tables e below (T121.setTop (mkF m 218 #[.val (.int p1), .val (.int p2), .val (.int p3), .val (.int p4), .val (.int p5), .val (.int p6), .val (.ref (own_F1 ((p5 &&& (3 : Int32)) % (3 : Int32)) wI wA wV)), .val (.ref (own_F1 ((((p5.toUInt32 >>> ((2 : Int32) &&& 31).toUInt32).toInt32) &&& (3 : Int32)) % (3 : Int32)) wI wA wV)), .val (.int (if (p5 &&& (16 : Int32)) = (0 : Int32) then p1 else (p1 ^^^ p6))), .val (.int (if (p5 &&& (32 : Int32)) = (0 : Int32) then p2 else (p2 ^^^ p6))), .val (.int (if (p5 &&& (64 : Int32)) = (0 : Int32) then p3 else (p3 ^^^ p6))), .val (.int (if (p5 &&& (128 : Int32)) = (0 : Int32) then p4 else (p4 ^^^ p6))), .val (.int (((p5.toUInt32 >>> ((8 : Int32) &&& 31).toUInt32).toInt32) &&& (3 : Int32))), .val (.ref b93), .val (.ref b101), .val (.ref b115), .unset] [(.int (if (p5 &&& (16 : Int32)) = (0 : Int32) then p1 else (p1 ^^^ p6))), (.int p1)])) _
              refine XS.icmpNo X121.here hx rfl (hb hby at_218) rfl (teq hj218_146).2 ?_
              show Steps p.tables e below (T121.setTop (mkF m 221 #[.val (.int p1), .val (.int p2), .val (.int p3), .val (.int p4), .val (.int p5), .val (.int p6), .val (.ref (own_F1 ((p5 &&& (3 : Int32)) % (3 : Int32)) wI wA wV)), .val (.ref (own_F1 ((((p5.toUInt32 >>> ((2 : Int32) &&& 31).toUInt32).toInt32) &&& (3 : Int32)) % (3 : Int32)) wI wA wV)), .val (.int (if (p5 &&& (16 : Int32)) = (0 : Int32) then p1 else (p1 ^^^ p6))), .val (.int (if (p5 &&& (32 : Int32)) = (0 : Int32) then p2 else (p2 ^^^ p6))), .val (.int (if (p5 &&& (64 : Int32)) = (0 : Int32) then p3 else (p3 ^^^ p6))), .val (.int (if (p5 &&& (128 : Int32)) = (0 : Int32) then p4 else (p4 ^^^ p6))), .val (.int (((p5.toUInt32 >>> ((8 : Int32) &&& 31).toUInt32).toInt32) &&& (3 : Int32))), .val (.ref b93), .val (.ref b101), .val (.ref b115), .unset] [])) _
              refine XS.iloadN X121.here hx rfl (hb hby at_221) rfl ?_
              show Steps p.tables e below (T121.setTop (mkF m 222 #[.val (.int p1), .val (.int p2), .val (.int p3), .val (.int p4), .val (.int p5), .val (.int p6), .val (.ref (own_F1 ((p5 &&& (3 : Int32)) % (3 : Int32)) wI wA wV)), .val (.ref (own_F1 ((((p5.toUInt32 >>> ((2 : Int32) &&& 31).toUInt32).toInt32) &&& (3 : Int32)) % (3 : Int32)) wI wA wV)), .val (.int (if (p5 &&& (16 : Int32)) = (0 : Int32) then p1 else (p1 ^^^ p6))), .val (.int (if (p5 &&& (32 : Int32)) = (0 : Int32) then p2 else (p2 ^^^ p6))), .val (.int (if (p5 &&& (64 : Int32)) = (0 : Int32) then p3 else (p3 ^^^ p6))), .val (.int (if (p5 &&& (128 : Int32)) = (0 : Int32) then p4 else (p4 ^^^ p6))), .val (.int (((p5.toUInt32 >>> ((8 : Int32) &&& 31).toUInt32).toInt32) &&& (3 : Int32))), .val (.ref b93), .val (.ref b101), .val (.ref b115), .unset] [(.int p2)])) _
              refine XS.iload X121.here hx rfl (hb hby at_222) rfl ?_
              by_cases hj224_147 : p2 = (if (p5 &&& (32 : Int32)) = (0 : Int32) then p2 else (p2 ^^^ p6))
              · rw [if_pos hj224_147] at kt
                show Steps p.tables e below (T121.setTop (mkF m 224 #[.val (.int p1), .val (.int p2), .val (.int p3), .val (.int p4), .val (.int p5), .val (.int p6), .val (.ref (own_F1 ((p5 &&& (3 : Int32)) % (3 : Int32)) wI wA wV)), .val (.ref (own_F1 ((((p5.toUInt32 >>> ((2 : Int32) &&& 31).toUInt32).toInt32) &&& (3 : Int32)) % (3 : Int32)) wI wA wV)), .val (.int (if (p5 &&& (16 : Int32)) = (0 : Int32) then p1 else (p1 ^^^ p6))), .val (.int (if (p5 &&& (32 : Int32)) = (0 : Int32) then p2 else (p2 ^^^ p6))), .val (.int (if (p5 &&& (64 : Int32)) = (0 : Int32) then p3 else (p3 ^^^ p6))), .val (.int (if (p5 &&& (128 : Int32)) = (0 : Int32) then p4 else (p4 ^^^ p6))), .val (.int (((p5.toUInt32 >>> ((8 : Int32) &&& 31).toUInt32).toInt32) &&& (3 : Int32))), .val (.ref b93), .val (.ref b101), .val (.ref b115), .unset] [(.int (if (p5 &&& (32 : Int32)) = (0 : Int32) then p2 else (p2 ^^^ p6))), (.int p2)])) _
                refine XS.icmpNo X121.here hx rfl (hb hby at_224) rfl (teq hj224_147).2 ?_
                show Steps p.tables e below (T121.setTop (mkF m 227 #[.val (.int p1), .val (.int p2), .val (.int p3), .val (.int p4), .val (.int p5), .val (.int p6), .val (.ref (own_F1 ((p5 &&& (3 : Int32)) % (3 : Int32)) wI wA wV)), .val (.ref (own_F1 ((((p5.toUInt32 >>> ((2 : Int32) &&& 31).toUInt32).toInt32) &&& (3 : Int32)) % (3 : Int32)) wI wA wV)), .val (.int (if (p5 &&& (16 : Int32)) = (0 : Int32) then p1 else (p1 ^^^ p6))), .val (.int (if (p5 &&& (32 : Int32)) = (0 : Int32) then p2 else (p2 ^^^ p6))), .val (.int (if (p5 &&& (64 : Int32)) = (0 : Int32) then p3 else (p3 ^^^ p6))), .val (.int (if (p5 &&& (128 : Int32)) = (0 : Int32) then p4 else (p4 ^^^ p6))), .val (.int (((p5.toUInt32 >>> ((8 : Int32) &&& 31).toUInt32).toInt32) &&& (3 : Int32))), .val (.ref b93), .val (.ref b101), .val (.ref b115), .unset] [])) _
                refine XS.iloadN X121.here hx rfl (hb hby at_227) rfl ?_
                show Steps p.tables e below (T121.setTop (mkF m 228 #[.val (.int p1), .val (.int p2), .val (.int p3), .val (.int p4), .val (.int p5), .val (.int p6), .val (.ref (own_F1 ((p5 &&& (3 : Int32)) % (3 : Int32)) wI wA wV)), .val (.ref (own_F1 ((((p5.toUInt32 >>> ((2 : Int32) &&& 31).toUInt32).toInt32) &&& (3 : Int32)) % (3 : Int32)) wI wA wV)), .val (.int (if (p5 &&& (16 : Int32)) = (0 : Int32) then p1 else (p1 ^^^ p6))), .val (.int (if (p5 &&& (32 : Int32)) = (0 : Int32) then p2 else (p2 ^^^ p6))), .val (.int (if (p5 &&& (64 : Int32)) = (0 : Int32) then p3 else (p3 ^^^ p6))), .val (.int (if (p5 &&& (128 : Int32)) = (0 : Int32) then p4 else (p4 ^^^ p6))), .val (.int (((p5.toUInt32 >>> ((8 : Int32) &&& 31).toUInt32).toInt32) &&& (3 : Int32))), .val (.ref b93), .val (.ref b101), .val (.ref b115), .unset] [(.int p3)])) _
                refine XS.iload X121.here hx rfl (hb hby at_228) rfl ?_
                by_cases hj230_148 : p3 = (if (p5 &&& (64 : Int32)) = (0 : Int32) then p3 else (p3 ^^^ p6))
                · rw [if_pos hj230_148] at kt
                  show Steps p.tables e below (T121.setTop (mkF m 230 #[.val (.int p1), .val (.int p2), .val (.int p3), .val (.int p4), .val (.int p5), .val (.int p6), .val (.ref (own_F1 ((p5 &&& (3 : Int32)) % (3 : Int32)) wI wA wV)), .val (.ref (own_F1 ((((p5.toUInt32 >>> ((2 : Int32) &&& 31).toUInt32).toInt32) &&& (3 : Int32)) % (3 : Int32)) wI wA wV)), .val (.int (if (p5 &&& (16 : Int32)) = (0 : Int32) then p1 else (p1 ^^^ p6))), .val (.int (if (p5 &&& (32 : Int32)) = (0 : Int32) then p2 else (p2 ^^^ p6))), .val (.int (if (p5 &&& (64 : Int32)) = (0 : Int32) then p3 else (p3 ^^^ p6))), .val (.int (if (p5 &&& (128 : Int32)) = (0 : Int32) then p4 else (p4 ^^^ p6))), .val (.int (((p5.toUInt32 >>> ((8 : Int32) &&& 31).toUInt32).toInt32) &&& (3 : Int32))), .val (.ref b93), .val (.ref b101), .val (.ref b115), .unset] [(.int (if (p5 &&& (64 : Int32)) = (0 : Int32) then p3 else (p3 ^^^ p6))), (.int p3)])) _
                  refine XS.icmpNo X121.here hx rfl (hb hby at_230) rfl (teq hj230_148).2 ?_
                  show Steps p.tables e below (T121.setTop (mkF m 233 #[.val (.int p1), .val (.int p2), .val (.int p3), .val (.int p4), .val (.int p5), .val (.int p6), .val (.ref (own_F1 ((p5 &&& (3 : Int32)) % (3 : Int32)) wI wA wV)), .val (.ref (own_F1 ((((p5.toUInt32 >>> ((2 : Int32) &&& 31).toUInt32).toInt32) &&& (3 : Int32)) % (3 : Int32)) wI wA wV)), .val (.int (if (p5 &&& (16 : Int32)) = (0 : Int32) then p1 else (p1 ^^^ p6))), .val (.int (if (p5 &&& (32 : Int32)) = (0 : Int32) then p2 else (p2 ^^^ p6))), .val (.int (if (p5 &&& (64 : Int32)) = (0 : Int32) then p3 else (p3 ^^^ p6))), .val (.int (if (p5 &&& (128 : Int32)) = (0 : Int32) then p4 else (p4 ^^^ p6))), .val (.int (((p5.toUInt32 >>> ((8 : Int32) &&& 31).toUInt32).toInt32) &&& (3 : Int32))), .val (.ref b93), .val (.ref b101), .val (.ref b115), .unset] [])) _
                  refine XS.iloadN X121.here hx rfl (hb hby at_233) rfl ?_
                  show Steps p.tables e below (T121.setTop (mkF m 234 #[.val (.int p1), .val (.int p2), .val (.int p3), .val (.int p4), .val (.int p5), .val (.int p6), .val (.ref (own_F1 ((p5 &&& (3 : Int32)) % (3 : Int32)) wI wA wV)), .val (.ref (own_F1 ((((p5.toUInt32 >>> ((2 : Int32) &&& 31).toUInt32).toInt32) &&& (3 : Int32)) % (3 : Int32)) wI wA wV)), .val (.int (if (p5 &&& (16 : Int32)) = (0 : Int32) then p1 else (p1 ^^^ p6))), .val (.int (if (p5 &&& (32 : Int32)) = (0 : Int32) then p2 else (p2 ^^^ p6))), .val (.int (if (p5 &&& (64 : Int32)) = (0 : Int32) then p3 else (p3 ^^^ p6))), .val (.int (if (p5 &&& (128 : Int32)) = (0 : Int32) then p4 else (p4 ^^^ p6))), .val (.int (((p5.toUInt32 >>> ((8 : Int32) &&& 31).toUInt32).toInt32) &&& (3 : Int32))), .val (.ref b93), .val (.ref b101), .val (.ref b115), .unset] [(.int p4)])) _
                  refine XS.iload X121.here hx rfl (hb hby at_234) rfl ?_
                  by_cases hj236_149 : p4 = (if (p5 &&& (128 : Int32)) = (0 : Int32) then p4 else (p4 ^^^ p6))
                  · rw [if_pos hj236_149] at kt
                    show Steps p.tables e below (T121.setTop (mkF m 236 #[.val (.int p1), .val (.int p2), .val (.int p3), .val (.int p4), .val (.int p5), .val (.int p6), .val (.ref (own_F1 ((p5 &&& (3 : Int32)) % (3 : Int32)) wI wA wV)), .val (.ref (own_F1 ((((p5.toUInt32 >>> ((2 : Int32) &&& 31).toUInt32).toInt32) &&& (3 : Int32)) % (3 : Int32)) wI wA wV)), .val (.int (if (p5 &&& (16 : Int32)) = (0 : Int32) then p1 else (p1 ^^^ p6))), .val (.int (if (p5 &&& (32 : Int32)) = (0 : Int32) then p2 else (p2 ^^^ p6))), .val (.int (if (p5 &&& (64 : Int32)) = (0 : Int32) then p3 else (p3 ^^^ p6))), .val (.int (if (p5 &&& (128 : Int32)) = (0 : Int32) then p4 else (p4 ^^^ p6))), .val (.int (((p5.toUInt32 >>> ((8 : Int32) &&& 31).toUInt32).toInt32) &&& (3 : Int32))), .val (.ref b93), .val (.ref b101), .val (.ref b115), .unset] [(.int (if (p5 &&& (128 : Int32)) = (0 : Int32) then p4 else (p4 ^^^ p6))), (.int p4)])) _
                    refine XS.icmpNo X121.here hx rfl (hb hby at_236) rfl (teq hj236_149).2 ?_
                    show Steps p.tables e below (T121.setTop (mkF m 239 #[.val (.int p1), .val (.int p2), .val (.int p3), .val (.int p4), .val (.int p5), .val (.int p6), .val (.ref (own_F1 ((p5 &&& (3 : Int32)) % (3 : Int32)) wI wA wV)), .val (.ref (own_F1 ((((p5.toUInt32 >>> ((2 : Int32) &&& 31).toUInt32).toInt32) &&& (3 : Int32)) % (3 : Int32)) wI wA wV)), .val (.int (if (p5 &&& (16 : Int32)) = (0 : Int32) then p1 else (p1 ^^^ p6))), .val (.int (if (p5 &&& (32 : Int32)) = (0 : Int32) then p2 else (p2 ^^^ p6))), .val (.int (if (p5 &&& (64 : Int32)) = (0 : Int32) then p3 else (p3 ^^^ p6))), .val (.int (if (p5 &&& (128 : Int32)) = (0 : Int32) then p4 else (p4 ^^^ p6))), .val (.int (((p5.toUInt32 >>> ((8 : Int32) &&& 31).toUInt32).toInt32) &&& (3 : Int32))), .val (.ref b93), .val (.ref b101), .val (.ref b115), .unset] [])) _
                    refine XS.iconst X121.here hx rfl (hb hby at_239) ?_
                    show Steps p.tables e below (T121.setTop (mkF m 240 #[.val (.int p1), .val (.int p2), .val (.int p3), .val (.int p4), .val (.int p5), .val (.int p6), .val (.ref (own_F1 ((p5 &&& (3 : Int32)) % (3 : Int32)) wI wA wV)), .val (.ref (own_F1 ((((p5.toUInt32 >>> ((2 : Int32) &&& 31).toUInt32).toInt32) &&& (3 : Int32)) % (3 : Int32)) wI wA wV)), .val (.int (if (p5 &&& (16 : Int32)) = (0 : Int32) then p1 else (p1 ^^^ p6))), .val (.int (if (p5 &&& (32 : Int32)) = (0 : Int32) then p2 else (p2 ^^^ p6))), .val (.int (if (p5 &&& (64 : Int32)) = (0 : Int32) then p3 else (p3 ^^^ p6))), .val (.int (if (p5 &&& (128 : Int32)) = (0 : Int32) then p4 else (p4 ^^^ p6))), .val (.int (((p5.toUInt32 >>> ((8 : Int32) &&& 31).toUInt32).toInt32) &&& (3 : Int32))), .val (.ref b93), .val (.ref b101), .val (.ref b115), .unset] [(.int (1 : Int32))])) _
                    refine XS.goto X121.here hx rfl (pc0 := 240) (pc' := 244) rfl (hb hby at_240) (by decide) (by decide) ?_
                    exact kt
                  · rw [if_neg hj236_149] at kt
                    show Steps p.tables e below (T121.setTop (mkF m 236 #[.val (.int p1), .val (.int p2), .val (.int p3), .val (.int p4), .val (.int p5), .val (.int p6), .val (.ref (own_F1 ((p5 &&& (3 : Int32)) % (3 : Int32)) wI wA wV)), .val (.ref (own_F1 ((((p5.toUInt32 >>> ((2 : Int32) &&& 31).toUInt32).toInt32) &&& (3 : Int32)) % (3 : Int32)) wI wA wV)), .val (.int (if (p5 &&& (16 : Int32)) = (0 : Int32) then p1 else (p1 ^^^ p6))), .val (.int (if (p5 &&& (32 : Int32)) = (0 : Int32) then p2 else (p2 ^^^ p6))), .val (.int (if (p5 &&& (64 : Int32)) = (0 : Int32) then p3 else (p3 ^^^ p6))), .val (.int (if (p5 &&& (128 : Int32)) = (0 : Int32) then p4 else (p4 ^^^ p6))), .val (.int (((p5.toUInt32 >>> ((8 : Int32) &&& 31).toUInt32).toInt32) &&& (3 : Int32))), .val (.ref b93), .val (.ref b101), .val (.ref b115), .unset] [(.int (if (p5 &&& (128 : Int32)) = (0 : Int32) then p4 else (p4 ^^^ p6))), (.int p4)])) _
                    refine XS.icmpYes X121.here hx rfl (pc0 := 236) (pc' := 243) rfl (hb hby at_236) rfl (feq hj236_149).2 (by decide) (by decide) ?_
                    show Steps p.tables e below (T121.setTop (mkF m 243 #[.val (.int p1), .val (.int p2), .val (.int p3), .val (.int p4), .val (.int p5), .val (.int p6), .val (.ref (own_F1 ((p5 &&& (3 : Int32)) % (3 : Int32)) wI wA wV)), .val (.ref (own_F1 ((((p5.toUInt32 >>> ((2 : Int32) &&& 31).toUInt32).toInt32) &&& (3 : Int32)) % (3 : Int32)) wI wA wV)), .val (.int (if (p5 &&& (16 : Int32)) = (0 : Int32) then p1 else (p1 ^^^ p6))), .val (.int (if (p5 &&& (32 : Int32)) = (0 : Int32) then p2 else (p2 ^^^ p6))), .val (.int (if (p5 &&& (64 : Int32)) = (0 : Int32) then p3 else (p3 ^^^ p6))), .val (.int (if (p5 &&& (128 : Int32)) = (0 : Int32) then p4 else (p4 ^^^ p6))), .val (.int (((p5.toUInt32 >>> ((8 : Int32) &&& 31).toUInt32).toInt32) &&& (3 : Int32))), .val (.ref b93), .val (.ref b101), .val (.ref b115), .unset] [])) _
                    refine XS.iconst X121.here hx rfl (hb hby at_243) ?_
                    exact kt
                · rw [if_neg hj230_148] at kt
                  show Steps p.tables e below (T121.setTop (mkF m 230 #[.val (.int p1), .val (.int p2), .val (.int p3), .val (.int p4), .val (.int p5), .val (.int p6), .val (.ref (own_F1 ((p5 &&& (3 : Int32)) % (3 : Int32)) wI wA wV)), .val (.ref (own_F1 ((((p5.toUInt32 >>> ((2 : Int32) &&& 31).toUInt32).toInt32) &&& (3 : Int32)) % (3 : Int32)) wI wA wV)), .val (.int (if (p5 &&& (16 : Int32)) = (0 : Int32) then p1 else (p1 ^^^ p6))), .val (.int (if (p5 &&& (32 : Int32)) = (0 : Int32) then p2 else (p2 ^^^ p6))), .val (.int (if (p5 &&& (64 : Int32)) = (0 : Int32) then p3 else (p3 ^^^ p6))), .val (.int (if (p5 &&& (128 : Int32)) = (0 : Int32) then p4 else (p4 ^^^ p6))), .val (.int (((p5.toUInt32 >>> ((8 : Int32) &&& 31).toUInt32).toInt32) &&& (3 : Int32))), .val (.ref b93), .val (.ref b101), .val (.ref b115), .unset] [(.int (if (p5 &&& (64 : Int32)) = (0 : Int32) then p3 else (p3 ^^^ p6))), (.int p3)])) _
                  refine XS.icmpYes X121.here hx rfl (pc0 := 230) (pc' := 243) rfl (hb hby at_230) rfl (feq hj230_148).2 (by decide) (by decide) ?_
                  show Steps p.tables e below (T121.setTop (mkF m 243 #[.val (.int p1), .val (.int p2), .val (.int p3), .val (.int p4), .val (.int p5), .val (.int p6), .val (.ref (own_F1 ((p5 &&& (3 : Int32)) % (3 : Int32)) wI wA wV)), .val (.ref (own_F1 ((((p5.toUInt32 >>> ((2 : Int32) &&& 31).toUInt32).toInt32) &&& (3 : Int32)) % (3 : Int32)) wI wA wV)), .val (.int (if (p5 &&& (16 : Int32)) = (0 : Int32) then p1 else (p1 ^^^ p6))), .val (.int (if (p5 &&& (32 : Int32)) = (0 : Int32) then p2 else (p2 ^^^ p6))), .val (.int (if (p5 &&& (64 : Int32)) = (0 : Int32) then p3 else (p3 ^^^ p6))), .val (.int (if (p5 &&& (128 : Int32)) = (0 : Int32) then p4 else (p4 ^^^ p6))), .val (.int (((p5.toUInt32 >>> ((8 : Int32) &&& 31).toUInt32).toInt32) &&& (3 : Int32))), .val (.ref b93), .val (.ref b101), .val (.ref b115), .unset] [])) _
                  refine XS.iconst X121.here hx rfl (hb hby at_243) ?_
                  exact kt
              · rw [if_neg hj224_147] at kt
                show Steps p.tables e below (T121.setTop (mkF m 224 #[.val (.int p1), .val (.int p2), .val (.int p3), .val (.int p4), .val (.int p5), .val (.int p6), .val (.ref (own_F1 ((p5 &&& (3 : Int32)) % (3 : Int32)) wI wA wV)), .val (.ref (own_F1 ((((p5.toUInt32 >>> ((2 : Int32) &&& 31).toUInt32).toInt32) &&& (3 : Int32)) % (3 : Int32)) wI wA wV)), .val (.int (if (p5 &&& (16 : Int32)) = (0 : Int32) then p1 else (p1 ^^^ p6))), .val (.int (if (p5 &&& (32 : Int32)) = (0 : Int32) then p2 else (p2 ^^^ p6))), .val (.int (if (p5 &&& (64 : Int32)) = (0 : Int32) then p3 else (p3 ^^^ p6))), .val (.int (if (p5 &&& (128 : Int32)) = (0 : Int32) then p4 else (p4 ^^^ p6))), .val (.int (((p5.toUInt32 >>> ((8 : Int32) &&& 31).toUInt32).toInt32) &&& (3 : Int32))), .val (.ref b93), .val (.ref b101), .val (.ref b115), .unset] [(.int (if (p5 &&& (32 : Int32)) = (0 : Int32) then p2 else (p2 ^^^ p6))), (.int p2)])) _
                refine XS.icmpYes X121.here hx rfl (pc0 := 224) (pc' := 243) rfl (hb hby at_224) rfl (feq hj224_147).2 (by decide) (by decide) ?_
                show Steps p.tables e below (T121.setTop (mkF m 243 #[.val (.int p1), .val (.int p2), .val (.int p3), .val (.int p4), .val (.int p5), .val (.int p6), .val (.ref (own_F1 ((p5 &&& (3 : Int32)) % (3 : Int32)) wI wA wV)), .val (.ref (own_F1 ((((p5.toUInt32 >>> ((2 : Int32) &&& 31).toUInt32).toInt32) &&& (3 : Int32)) % (3 : Int32)) wI wA wV)), .val (.int (if (p5 &&& (16 : Int32)) = (0 : Int32) then p1 else (p1 ^^^ p6))), .val (.int (if (p5 &&& (32 : Int32)) = (0 : Int32) then p2 else (p2 ^^^ p6))), .val (.int (if (p5 &&& (64 : Int32)) = (0 : Int32) then p3 else (p3 ^^^ p6))), .val (.int (if (p5 &&& (128 : Int32)) = (0 : Int32) then p4 else (p4 ^^^ p6))), .val (.int (((p5.toUInt32 >>> ((8 : Int32) &&& 31).toUInt32).toInt32) &&& (3 : Int32))), .val (.ref b93), .val (.ref b101), .val (.ref b115), .unset] [])) _
                refine XS.iconst X121.here hx rfl (hb hby at_243) ?_
                exact kt
            · rw [if_neg hj218_146] at kt
              show Steps p.tables e below (T121.setTop (mkF m 218 #[.val (.int p1), .val (.int p2), .val (.int p3), .val (.int p4), .val (.int p5), .val (.int p6), .val (.ref (own_F1 ((p5 &&& (3 : Int32)) % (3 : Int32)) wI wA wV)), .val (.ref (own_F1 ((((p5.toUInt32 >>> ((2 : Int32) &&& 31).toUInt32).toInt32) &&& (3 : Int32)) % (3 : Int32)) wI wA wV)), .val (.int (if (p5 &&& (16 : Int32)) = (0 : Int32) then p1 else (p1 ^^^ p6))), .val (.int (if (p5 &&& (32 : Int32)) = (0 : Int32) then p2 else (p2 ^^^ p6))), .val (.int (if (p5 &&& (64 : Int32)) = (0 : Int32) then p3 else (p3 ^^^ p6))), .val (.int (if (p5 &&& (128 : Int32)) = (0 : Int32) then p4 else (p4 ^^^ p6))), .val (.int (((p5.toUInt32 >>> ((8 : Int32) &&& 31).toUInt32).toInt32) &&& (3 : Int32))), .val (.ref b93), .val (.ref b101), .val (.ref b115), .unset] [(.int (if (p5 &&& (16 : Int32)) = (0 : Int32) then p1 else (p1 ^^^ p6))), (.int p1)])) _
              refine XS.icmpYes X121.here hx rfl (pc0 := 218) (pc' := 243) rfl (hb hby at_218) rfl (feq hj218_146).2 (by decide) (by decide) ?_
              show Steps p.tables e below (T121.setTop (mkF m 243 #[.val (.int p1), .val (.int p2), .val (.int p3), .val (.int p4), .val (.int p5), .val (.int p6), .val (.ref (own_F1 ((p5 &&& (3 : Int32)) % (3 : Int32)) wI wA wV)), .val (.ref (own_F1 ((((p5.toUInt32 >>> ((2 : Int32) &&& 31).toUInt32).toInt32) &&& (3 : Int32)) % (3 : Int32)) wI wA wV)), .val (.int (if (p5 &&& (16 : Int32)) = (0 : Int32) then p1 else (p1 ^^^ p6))), .val (.int (if (p5 &&& (32 : Int32)) = (0 : Int32) then p2 else (p2 ^^^ p6))), .val (.int (if (p5 &&& (64 : Int32)) = (0 : Int32) then p3 else (p3 ^^^ p6))), .val (.int (if (p5 &&& (128 : Int32)) = (0 : Int32) then p4 else (p4 ^^^ p6))), .val (.int (((p5.toUInt32 >>> ((8 : Int32) &&& 31).toUInt32).toInt32) &&& (3 : Int32))), .val (.ref b93), .val (.ref b101), .val (.ref b115), .unset] [])) _
              refine XS.iconst X121.here hx rfl (hb hby at_243) ?_
              exact kt
          · rw [if_neg hj212_145] at kt
            show Steps p.tables e below (T121.setTop (mkF m 212 #[.val (.int p1), .val (.int p2), .val (.int p3), .val (.int p4), .val (.int p5), .val (.int p6), .val (.ref (own_F1 ((p5 &&& (3 : Int32)) % (3 : Int32)) wI wA wV)), .val (.ref (own_F1 ((((p5.toUInt32 >>> ((2 : Int32) &&& 31).toUInt32).toInt32) &&& (3 : Int32)) % (3 : Int32)) wI wA wV)), .val (.int (if (p5 &&& (16 : Int32)) = (0 : Int32) then p1 else (p1 ^^^ p6))), .val (.int (if (p5 &&& (32 : Int32)) = (0 : Int32) then p2 else (p2 ^^^ p6))), .val (.int (if (p5 &&& (64 : Int32)) = (0 : Int32) then p3 else (p3 ^^^ p6))), .val (.int (if (p5 &&& (128 : Int32)) = (0 : Int32) then p4 else (p4 ^^^ p6))), .val (.int (((p5.toUInt32 >>> ((8 : Int32) &&& 31).toUInt32).toInt32) &&& (3 : Int32))), .val (.ref b93), .val (.ref b101), .val (.ref b115), .unset] [(.ref (own_F1 ((((p5.toUInt32 >>> ((2 : Int32) &&& 31).toUInt32).toInt32) &&& (3 : Int32)) % (3 : Int32)) wI wA wV)), (.ref (own_F1 ((p5 &&& (3 : Int32)) % (3 : Int32)) wI wA wV))])) _
            refine Jvm.RoadKit.acmp (g := (mkF m 212 #[.val (.int p1), .val (.int p2), .val (.int p3), .val (.int p4), .val (.int p5), .val (.int p6), .val (.ref (own_F1 ((p5 &&& (3 : Int32)) % (3 : Int32)) wI wA wV)), .val (.ref (own_F1 ((((p5.toUInt32 >>> ((2 : Int32) &&& 31).toUInt32).toInt32) &&& (3 : Int32)) % (3 : Int32)) wI wA wV)), .val (.int (if (p5 &&& (16 : Int32)) = (0 : Int32) then p1 else (p1 ^^^ p6))), .val (.int (if (p5 &&& (32 : Int32)) = (0 : Int32) then p2 else (p2 ^^^ p6))), .val (.int (if (p5 &&& (64 : Int32)) = (0 : Int32) then p3 else (p3 ^^^ p6))), .val (.int (if (p5 &&& (128 : Int32)) = (0 : Int32) then p4 else (p4 ^^^ p6))), .val (.int (((p5.toUInt32 >>> ((8 : Int32) &&& 31).toUInt32).toInt32) &&& (3 : Int32))), .val (.ref b93), .val (.ref b101), .val (.ref b115), .unset] [(.ref (own_F1 ((((p5.toUInt32 >>> ((2 : Int32) &&& 31).toUInt32).toInt32) &&& (3 : Int32)) % (3 : Int32)) wI wA wV)), (.ref (own_F1 ((p5 &&& (3 : Int32)) % (3 : Int32)) wI wA wV))])) X121 hx rfl rfl rfl (pc0 := 212) (pc' := 243) (same := false) rfl (hb hby at_212) rfl (decide_eq_false fun q => hj212_145 (Value.ref.inj q)) (by decide) (by decide) ?_
            show Steps p.tables e below (T121.setTop (mkF m 243 #[.val (.int p1), .val (.int p2), .val (.int p3), .val (.int p4), .val (.int p5), .val (.int p6), .val (.ref (own_F1 ((p5 &&& (3 : Int32)) % (3 : Int32)) wI wA wV)), .val (.ref (own_F1 ((((p5.toUInt32 >>> ((2 : Int32) &&& 31).toUInt32).toInt32) &&& (3 : Int32)) % (3 : Int32)) wI wA wV)), .val (.int (if (p5 &&& (16 : Int32)) = (0 : Int32) then p1 else (p1 ^^^ p6))), .val (.int (if (p5 &&& (32 : Int32)) = (0 : Int32) then p2 else (p2 ^^^ p6))), .val (.int (if (p5 &&& (64 : Int32)) = (0 : Int32) then p3 else (p3 ^^^ p6))), .val (.int (if (p5 &&& (128 : Int32)) = (0 : Int32) then p4 else (p4 ^^^ p6))), .val (.int (((p5.toUInt32 >>> ((8 : Int32) &&& 31).toUInt32).toInt32) &&& (3 : Int32))), .val (.ref b93), .val (.ref b101), .val (.ref b115), .unset] [])) _
            refine XS.iconst X121.here hx rfl (hb hby at_243) ?_
            exact kt
        obtain ⟨cq151, kq151, q151a, q151b, q151c⟩ := isOf hZ rfl (f120.keep K121q)
        obtain ⟨_, _, ⟨T151, L151, k151, n151⟩, -, X151, ⟨Lc151, hQ151, l151, y151, z151⟩, st151⟩ := X121.virtualBack hx (y := (⟨"com/example/cluster_protocol_models/clusterprotocolmodels/hermes/Message", "equals", "(Ljava/lang/Object;)Z"⟩ : MethodName)) (z := (⟨"com/example/cluster_protocol_models/clusterprotocolmodels/hermes/Message", "equals", "(Ljava/lang/Object;)Z"⟩ : MethodName)) hown (mvT hZ (hw _ (List.mem_of_getElem? (i := 37) rfl))) (mvT hZ (hw _ (List.mem_of_getElem? (i := 38) rfl))) (notFace_of_selects (args := #[]) (mvT hZ (hw _ (List.mem_of_getElem? (i := 40) rfl)))) (mvT hZ (hw _ (List.mem_of_getElem? (i := 40) rfl))) (mvT hZ (hw _ (List.mem_of_getElem? (i := 39) rfl))) (by decide) (backOf (W := 0) (rm5m l Z a0 hw [] b93 b101 (own_F1 ((p5 &&& (3 : Int32)) % (3 : Int32)) wI wA wV) p1 p2 p3 p4 (own_F1 ((((p5.toUInt32 >>> ((2 : Int32) &&& 31).toUInt32).toInt32) &&& (3 : Int32)) % (3 : Int32)) wI wA wV) (if (p5 &&& (16 : Int32)) = (0 : Int32) then p1 else (p1 ^^^ p6)) (if (p5 &&& (32 : Int32)) = (0 : Int32) then p2 else (p2 ^^^ p6)) (if (p5 &&& (64 : Int32)) = (0 : Int32) then p3 else (p3 ^^^ p6)) (if (p5 &&& (128 : Int32)) = (0 : Int32) then p4 else (p4 ^^^ p6)) T121.heap n0 z132 f122 f123 f124 f125 f126 f127 f128 f129 f130 f131 ((gE108.ext E115).keep K121q)) hZ (hw _ (List.mem_of_getElem? (i := 41) rfl)) (hw _ (List.mem_of_getElem? (i := 9) rfl)) (by decide) (by decide)) q151a q151c (g := (mkF m 250 #[.val (.int p1), .val (.int p2), .val (.int p3), .val (.int p4), .val (.int p5), .val (.int p6), .val (.ref (own_F1 ((p5 &&& (3 : Int32)) % (3 : Int32)) wI wA wV)), .val (.ref (own_F1 ((((p5.toUInt32 >>> ((2 : Int32) &&& 31).toUInt32).toInt32) &&& (3 : Int32)) % (3 : Int32)) wI wA wV)), .val (.int (if (p5 &&& (16 : Int32)) = (0 : Int32) then p1 else (p1 ^^^ p6))), .val (.int (if (p5 &&& (32 : Int32)) = (0 : Int32) then p2 else (p2 ^^^ p6))), .val (.int (if (p5 &&& (64 : Int32)) = (0 : Int32) then p3 else (p3 ^^^ p6))), .val (.int (if (p5 &&& (128 : Int32)) = (0 : Int32) then p4 else (p4 ^^^ p6))), .val (.int (((p5.toUInt32 >>> ((8 : Int32) &&& 31).toUInt32).toInt32) &&& (3 : Int32))), .val (.ref b93), .val (.ref b101), .val (.ref b115), .val (.int (if (own_F1 ((p5 &&& (3 : Int32)) % (3 : Int32)) wI wA wV) = (own_F1 ((((p5.toUInt32 >>> ((2 : Int32) &&& 31).toUInt32).toInt32) &&& (3 : Int32)) % (3 : Int32)) wI wA wV) then (if p1 = (if (p5 &&& (16 : Int32)) = (0 : Int32) then p1 else (p1 ^^^ p6)) then (if p2 = (if (p5 &&& (32 : Int32)) = (0 : Int32) then p2 else (p2 ^^^ p6)) then (if p3 = (if (p5 &&& (64 : Int32)) = (0 : Int32) then p3 else (p3 ^^^ p6)) then (if p4 = (if (p5 &&& (128 : Int32)) = (0 : Int32) then p4 else (p4 ^^^ p6)) then (1 : Int32) else (0 : Int32)) else (0 : Int32)) else (0 : Int32)) else (0 : Int32)) else (0 : Int32)))] [(.ref b101), (.ref b93)])) rfl (by rw [hml]; rfl) (Steps.refl _) (argsL := [(.ref b101)]) (rest := []) (lenOf pd_3 rfl) rfl (by show 2 * 0 + _ ≤ _; exact Nat.le_of_eq rfl) (hb hby at_250) (fun _ _ => ⟨rfl, rfl, (by decide : 3 + 0 ≤ _), (by decide : 12 + 0 ≤ _)⟩)
        dsimp only [Pt.U, Pt.locs, Pt.cells, Pt.slots] at X151 l151 y151 z151 st151 hQ151
        subst l151 y151 z151
        obtain ⟨rfl, N151q, e151⟩ := hQ151
        have N151 := Fr.app N121 N151q
        obtain ⟨cq152, kq152, q152a, q152b, q152c⟩ := isOf hZ e151 ((gE108.ext E115).keep K121q)
        obtain ⟨_, _, ⟨T152, L152, k152, n152⟩, -, X152, ⟨Lc152, hQ152, l152, y152, z152⟩, st152⟩ := X151.virtualBack hx (y := (⟨"com/example/cluster_protocol_models/clusterprotocolmodels/hermes/Message", "equals", "(Ljava/lang/Object;)Z"⟩ : MethodName)) (z := (⟨"com/example/cluster_protocol_models/clusterprotocolmodels/hermes/Message", "equals", "(Ljava/lang/Object;)Z"⟩ : MethodName)) hown (mvT hZ (hw _ (List.mem_of_getElem? (i := 37) rfl))) (mvT hZ (hw _ (List.mem_of_getElem? (i := 38) rfl))) (notFace_of_selects (args := #[]) (mvT hZ (hw _ (List.mem_of_getElem? (i := 40) rfl)))) (mvT hZ (hw _ (List.mem_of_getElem? (i := 40) rfl))) (mvT hZ (hw _ (List.mem_of_getElem? (i := 39) rfl))) (by decide) (backOf (W := 0) (rm5m l Z a0 hw [] b101 b93 (own_F1 ((((p5.toUInt32 >>> ((2 : Int32) &&& 31).toUInt32).toInt32) &&& (3 : Int32)) % (3 : Int32)) wI wA wV) (if (p5 &&& (16 : Int32)) = (0 : Int32) then p1 else (p1 ^^^ p6)) (if (p5 &&& (32 : Int32)) = (0 : Int32) then p2 else (p2 ^^^ p6)) (if (p5 &&& (64 : Int32)) = (0 : Int32) then p3 else (p3 ^^^ p6)) (if (p5 &&& (128 : Int32)) = (0 : Int32) then p4 else (p4 ^^^ p6)) (own_F1 ((p5 &&& (3 : Int32)) % (3 : Int32)) wI wA wV) p1 p2 p3 p4 T121.heap n0 z132 f127 f128 f129 f130 f131 f122 f123 f124 f125 f126 (f120.keep K121q)) hZ (hw _ (List.mem_of_getElem? (i := 41) rfl)) (hw _ (List.mem_of_getElem? (i := 9) rfl)) (by decide) (by decide)) q152a q152c (g := (mkF m 262 #[.val (.int p1), .val (.int p2), .val (.int p3), .val (.int p4), .val (.int p5), .val (.int p6), .val (.ref (own_F1 ((p5 &&& (3 : Int32)) % (3 : Int32)) wI wA wV)), .val (.ref (own_F1 ((((p5.toUInt32 >>> ((2 : Int32) &&& 31).toUInt32).toInt32) &&& (3 : Int32)) % (3 : Int32)) wI wA wV)), .val (.int (if (p5 &&& (16 : Int32)) = (0 : Int32) then p1 else (p1 ^^^ p6))), .val (.int (if (p5 &&& (32 : Int32)) = (0 : Int32) then p2 else (p2 ^^^ p6))), .val (.int (if (p5 &&& (64 : Int32)) = (0 : Int32) then p3 else (p3 ^^^ p6))), .val (.int (if (p5 &&& (128 : Int32)) = (0 : Int32) then p4 else (p4 ^^^ p6))), .val (.int (((p5.toUInt32 >>> ((8 : Int32) &&& 31).toUInt32).toInt32) &&& (3 : Int32))), .val (.ref b93), .val (.ref b101), .val (.ref b115), .val (.int (if (own_F1 ((p5 &&& (3 : Int32)) % (3 : Int32)) wI wA wV) = (own_F1 ((((p5.toUInt32 >>> ((2 : Int32) &&& 31).toUInt32).toInt32) &&& (3 : Int32)) % (3 : Int32)) wI wA wV) then (if p1 = (if (p5 &&& (16 : Int32)) = (0 : Int32) then p1 else (p1 ^^^ p6)) then (if p2 = (if (p5 &&& (32 : Int32)) = (0 : Int32) then p2 else (p2 ^^^ p6)) then (if p3 = (if (p5 &&& (64 : Int32)) = (0 : Int32) then p3 else (p3 ^^^ p6)) then (if p4 = (if (p5 &&& (128 : Int32)) = (0 : Int32) then p4 else (p4 ^^^ p6)) then (1 : Int32) else (0 : Int32)) else (0 : Int32)) else (0 : Int32)) else (0 : Int32)) else (0 : Int32)))] [(.ref b93), (.ref b101)])) rfl (by rw [hml]; rfl) (Steps.refl _) (argsL := [(.ref b93)]) (rest := []) (lenOf pd_3 rfl) rfl (by show 2 * 0 + _ ≤ _; exact Nat.le_of_eq rfl) (hb hby at_262) (fun _ _ => ⟨rfl, e151, (by decide : 3 + 0 ≤ _), (by decide : 12 + 0 ≤ _)⟩)
        dsimp only [Pt.U, Pt.locs, Pt.cells, Pt.slots] at X152 l152 y152 z152 st152 hQ152
        subst l152 y152 z152
        obtain ⟨rfl, N152q, e152⟩ := hQ152
        have N152 := Fr.app N151 N152q
        have pre153 : ∀ t, Steps p.tables e below (T152.setTop (mkF m 275 #[.val (.int p1), .val (.int p2), .val (.int p3), .val (.int p4), .val (.int p5), .val (.int p6), .val (.ref (own_F1 ((p5 &&& (3 : Int32)) % (3 : Int32)) wI wA wV)), .val (.ref (own_F1 ((((p5.toUInt32 >>> ((2 : Int32) &&& 31).toUInt32).toInt32) &&& (3 : Int32)) % (3 : Int32)) wI wA wV)), .val (.int (if (p5 &&& (16 : Int32)) = (0 : Int32) then p1 else (p1 ^^^ p6))), .val (.int (if (p5 &&& (32 : Int32)) = (0 : Int32) then p2 else (p2 ^^^ p6))), .val (.int (if (p5 &&& (64 : Int32)) = (0 : Int32) then p3 else (p3 ^^^ p6))), .val (.int (if (p5 &&& (128 : Int32)) = (0 : Int32) then p4 else (p4 ^^^ p6))), .val (.int (((p5.toUInt32 >>> ((8 : Int32) &&& 31).toUInt32).toInt32) &&& (3 : Int32))), .val (.ref b93), .val (.ref b101), .val (.ref b115), .val (.int (if (own_F1 ((p5 &&& (3 : Int32)) % (3 : Int32)) wI wA wV) = (own_F1 ((((p5.toUInt32 >>> ((2 : Int32) &&& 31).toUInt32).toInt32) &&& (3 : Int32)) % (3 : Int32)) wI wA wV) then (if p1 = (if (p5 &&& (16 : Int32)) = (0 : Int32) then p1 else (p1 ^^^ p6)) then (if p2 = (if (p5 &&& (32 : Int32)) = (0 : Int32) then p2 else (p2 ^^^ p6)) then (if p3 = (if (p5 &&& (64 : Int32)) = (0 : Int32) then p3 else (p3 ^^^ p6)) then (if p4 = (if (p5 &&& (128 : Int32)) = (0 : Int32) then p4 else (p4 ^^^ p6)) then (1 : Int32) else (0 : Int32)) else (0 : Int32)) else (0 : Int32)) else (0 : Int32)) else (0 : Int32)))] [(.int (1 : Int32))])) t → Steps p.tables e below (s₁.setTop (entryFrame m #[(.int p1), (.int p2), (.int p3), (.int p4), (.int p5), (.int p6)] maxLocals)) t := by
          intro t kt
          refine pre150 _ ?_
          show Steps p.tables e below (T121.setTop (mkF m 244 #[.val (.int p1), .val (.int p2), .val (.int p3), .val (.int p4), .val (.int p5), .val (.int p6), .val (.ref (own_F1 ((p5 &&& (3 : Int32)) % (3 : Int32)) wI wA wV)), .val (.ref (own_F1 ((((p5.toUInt32 >>> ((2 : Int32) &&& 31).toUInt32).toInt32) &&& (3 : Int32)) % (3 : Int32)) wI wA wV)), .val (.int (if (p5 &&& (16 : Int32)) = (0 : Int32) then p1 else (p1 ^^^ p6))), .val (.int (if (p5 &&& (32 : Int32)) = (0 : Int32) then p2 else (p2 ^^^ p6))), .val (.int (if (p5 &&& (64 : Int32)) = (0 : Int32) then p3 else (p3 ^^^ p6))), .val (.int (if (p5 &&& (128 : Int32)) = (0 : Int32) then p4 else (p4 ^^^ p6))), .val (.int (((p5.toUInt32 >>> ((8 : Int32) &&& 31).toUInt32).toInt32) &&& (3 : Int32))), .val (.ref b93), .val (.ref b101), .val (.ref b115), .unset] [(.int (if (own_F1 ((p5 &&& (3 : Int32)) % (3 : Int32)) wI wA wV) = (own_F1 ((((p5.toUInt32 >>> ((2 : Int32) &&& 31).toUInt32).toInt32) &&& (3 : Int32)) % (3 : Int32)) wI wA wV) then (if p1 = (if (p5 &&& (16 : Int32)) = (0 : Int32) then p1 else (p1 ^^^ p6)) then (if p2 = (if (p5 &&& (32 : Int32)) = (0 : Int32) then p2 else (p2 ^^^ p6)) then (if p3 = (if (p5 &&& (64 : Int32)) = (0 : Int32) then p3 else (p3 ^^^ p6)) then (if p4 = (if (p5 &&& (128 : Int32)) = (0 : Int32) then p4 else (p4 ^^^ p6)) then (1 : Int32) else (0 : Int32)) else (0 : Int32)) else (0 : Int32)) else (0 : Int32)) else (0 : Int32)))])) _
          refine XS.istore X121.here hx rfl (hb hby at_244) rfl (l' := #[.val (.int p1), .val (.int p2), .val (.int p3), .val (.int p4), .val (.int p5), .val (.int p6), .val (.ref (own_F1 ((p5 &&& (3 : Int32)) % (3 : Int32)) wI wA wV)), .val (.ref (own_F1 ((((p5.toUInt32 >>> ((2 : Int32) &&& 31).toUInt32).toInt32) &&& (3 : Int32)) % (3 : Int32)) wI wA wV)), .val (.int (if (p5 &&& (16 : Int32)) = (0 : Int32) then p1 else (p1 ^^^ p6))), .val (.int (if (p5 &&& (32 : Int32)) = (0 : Int32) then p2 else (p2 ^^^ p6))), .val (.int (if (p5 &&& (64 : Int32)) = (0 : Int32) then p3 else (p3 ^^^ p6))), .val (.int (if (p5 &&& (128 : Int32)) = (0 : Int32) then p4 else (p4 ^^^ p6))), .val (.int (((p5.toUInt32 >>> ((8 : Int32) &&& 31).toUInt32).toInt32) &&& (3 : Int32))), .val (.ref b93), .val (.ref b101), .val (.ref b115), .val (.int (if (own_F1 ((p5 &&& (3 : Int32)) % (3 : Int32)) wI wA wV) = (own_F1 ((((p5.toUInt32 >>> ((2 : Int32) &&& 31).toUInt32).toInt32) &&& (3 : Int32)) % (3 : Int32)) wI wA wV) then (if p1 = (if (p5 &&& (16 : Int32)) = (0 : Int32) then p1 else (p1 ^^^ p6)) then (if p2 = (if (p5 &&& (32 : Int32)) = (0 : Int32) then p2 else (p2 ^^^ p6)) then (if p3 = (if (p5 &&& (64 : Int32)) = (0 : Int32) then p3 else (p3 ^^^ p6)) then (if p4 = (if (p5 &&& (128 : Int32)) = (0 : Int32) then p4 else (p4 ^^^ p6)) then (1 : Int32) else (0 : Int32)) else (0 : Int32)) else (0 : Int32)) else (0 : Int32)) else (0 : Int32)))]) rfl ?_
          show Steps p.tables e below (T121.setTop (mkF m 246 #[.val (.int p1), .val (.int p2), .val (.int p3), .val (.int p4), .val (.int p5), .val (.int p6), .val (.ref (own_F1 ((p5 &&& (3 : Int32)) % (3 : Int32)) wI wA wV)), .val (.ref (own_F1 ((((p5.toUInt32 >>> ((2 : Int32) &&& 31).toUInt32).toInt32) &&& (3 : Int32)) % (3 : Int32)) wI wA wV)), .val (.int (if (p5 &&& (16 : Int32)) = (0 : Int32) then p1 else (p1 ^^^ p6))), .val (.int (if (p5 &&& (32 : Int32)) = (0 : Int32) then p2 else (p2 ^^^ p6))), .val (.int (if (p5 &&& (64 : Int32)) = (0 : Int32) then p3 else (p3 ^^^ p6))), .val (.int (if (p5 &&& (128 : Int32)) = (0 : Int32) then p4 else (p4 ^^^ p6))), .val (.int (((p5.toUInt32 >>> ((8 : Int32) &&& 31).toUInt32).toInt32) &&& (3 : Int32))), .val (.ref b93), .val (.ref b101), .val (.ref b115), .val (.int (if (own_F1 ((p5 &&& (3 : Int32)) % (3 : Int32)) wI wA wV) = (own_F1 ((((p5.toUInt32 >>> ((2 : Int32) &&& 31).toUInt32).toInt32) &&& (3 : Int32)) % (3 : Int32)) wI wA wV) then (if p1 = (if (p5 &&& (16 : Int32)) = (0 : Int32) then p1 else (p1 ^^^ p6)) then (if p2 = (if (p5 &&& (32 : Int32)) = (0 : Int32) then p2 else (p2 ^^^ p6)) then (if p3 = (if (p5 &&& (64 : Int32)) = (0 : Int32) then p3 else (p3 ^^^ p6)) then (if p4 = (if (p5 &&& (128 : Int32)) = (0 : Int32) then p4 else (p4 ^^^ p6)) then (1 : Int32) else (0 : Int32)) else (0 : Int32)) else (0 : Int32)) else (0 : Int32)) else (0 : Int32)))] [])) _
          refine XS.aload X121.here hx rfl (hb hby at_246) rfl rfl ?_
          show Steps p.tables e below (T121.setTop (mkF m 248 #[.val (.int p1), .val (.int p2), .val (.int p3), .val (.int p4), .val (.int p5), .val (.int p6), .val (.ref (own_F1 ((p5 &&& (3 : Int32)) % (3 : Int32)) wI wA wV)), .val (.ref (own_F1 ((((p5.toUInt32 >>> ((2 : Int32) &&& 31).toUInt32).toInt32) &&& (3 : Int32)) % (3 : Int32)) wI wA wV)), .val (.int (if (p5 &&& (16 : Int32)) = (0 : Int32) then p1 else (p1 ^^^ p6))), .val (.int (if (p5 &&& (32 : Int32)) = (0 : Int32) then p2 else (p2 ^^^ p6))), .val (.int (if (p5 &&& (64 : Int32)) = (0 : Int32) then p3 else (p3 ^^^ p6))), .val (.int (if (p5 &&& (128 : Int32)) = (0 : Int32) then p4 else (p4 ^^^ p6))), .val (.int (((p5.toUInt32 >>> ((8 : Int32) &&& 31).toUInt32).toInt32) &&& (3 : Int32))), .val (.ref b93), .val (.ref b101), .val (.ref b115), .val (.int (if (own_F1 ((p5 &&& (3 : Int32)) % (3 : Int32)) wI wA wV) = (own_F1 ((((p5.toUInt32 >>> ((2 : Int32) &&& 31).toUInt32).toInt32) &&& (3 : Int32)) % (3 : Int32)) wI wA wV) then (if p1 = (if (p5 &&& (16 : Int32)) = (0 : Int32) then p1 else (p1 ^^^ p6)) then (if p2 = (if (p5 &&& (32 : Int32)) = (0 : Int32) then p2 else (p2 ^^^ p6)) then (if p3 = (if (p5 &&& (64 : Int32)) = (0 : Int32) then p3 else (p3 ^^^ p6)) then (if p4 = (if (p5 &&& (128 : Int32)) = (0 : Int32) then p4 else (p4 ^^^ p6)) then (1 : Int32) else (0 : Int32)) else (0 : Int32)) else (0 : Int32)) else (0 : Int32)) else (0 : Int32)))] [(.ref b93)])) _
          refine XS.aload X121.here hx rfl (hb hby at_248) rfl rfl ?_
          show Steps p.tables e below (T121.setTop (mkF m 250 #[.val (.int p1), .val (.int p2), .val (.int p3), .val (.int p4), .val (.int p5), .val (.int p6), .val (.ref (own_F1 ((p5 &&& (3 : Int32)) % (3 : Int32)) wI wA wV)), .val (.ref (own_F1 ((((p5.toUInt32 >>> ((2 : Int32) &&& 31).toUInt32).toInt32) &&& (3 : Int32)) % (3 : Int32)) wI wA wV)), .val (.int (if (p5 &&& (16 : Int32)) = (0 : Int32) then p1 else (p1 ^^^ p6))), .val (.int (if (p5 &&& (32 : Int32)) = (0 : Int32) then p2 else (p2 ^^^ p6))), .val (.int (if (p5 &&& (64 : Int32)) = (0 : Int32) then p3 else (p3 ^^^ p6))), .val (.int (if (p5 &&& (128 : Int32)) = (0 : Int32) then p4 else (p4 ^^^ p6))), .val (.int (((p5.toUInt32 >>> ((8 : Int32) &&& 31).toUInt32).toInt32) &&& (3 : Int32))), .val (.ref b93), .val (.ref b101), .val (.ref b115), .val (.int (if (own_F1 ((p5 &&& (3 : Int32)) % (3 : Int32)) wI wA wV) = (own_F1 ((((p5.toUInt32 >>> ((2 : Int32) &&& 31).toUInt32).toInt32) &&& (3 : Int32)) % (3 : Int32)) wI wA wV) then (if p1 = (if (p5 &&& (16 : Int32)) = (0 : Int32) then p1 else (p1 ^^^ p6)) then (if p2 = (if (p5 &&& (32 : Int32)) = (0 : Int32) then p2 else (p2 ^^^ p6)) then (if p3 = (if (p5 &&& (64 : Int32)) = (0 : Int32) then p3 else (p3 ^^^ p6)) then (if p4 = (if (p5 &&& (128 : Int32)) = (0 : Int32) then p4 else (p4 ^^^ p6)) then (1 : Int32) else (0 : Int32)) else (0 : Int32)) else (0 : Int32)) else (0 : Int32)) else (0 : Int32)))] [(.ref b101), (.ref b93)])) _
          refine st151.trans ?_
          show Steps p.tables e below (T151.setTop (mkF m 253 #[.val (.int p1), .val (.int p2), .val (.int p3), .val (.int p4), .val (.int p5), .val (.int p6), .val (.ref (own_F1 ((p5 &&& (3 : Int32)) % (3 : Int32)) wI wA wV)), .val (.ref (own_F1 ((((p5.toUInt32 >>> ((2 : Int32) &&& 31).toUInt32).toInt32) &&& (3 : Int32)) % (3 : Int32)) wI wA wV)), .val (.int (if (p5 &&& (16 : Int32)) = (0 : Int32) then p1 else (p1 ^^^ p6))), .val (.int (if (p5 &&& (32 : Int32)) = (0 : Int32) then p2 else (p2 ^^^ p6))), .val (.int (if (p5 &&& (64 : Int32)) = (0 : Int32) then p3 else (p3 ^^^ p6))), .val (.int (if (p5 &&& (128 : Int32)) = (0 : Int32) then p4 else (p4 ^^^ p6))), .val (.int (((p5.toUInt32 >>> ((8 : Int32) &&& 31).toUInt32).toInt32) &&& (3 : Int32))), .val (.ref b93), .val (.ref b101), .val (.ref b115), .val (.int (if (own_F1 ((p5 &&& (3 : Int32)) % (3 : Int32)) wI wA wV) = (own_F1 ((((p5.toUInt32 >>> ((2 : Int32) &&& 31).toUInt32).toInt32) &&& (3 : Int32)) % (3 : Int32)) wI wA wV) then (if p1 = (if (p5 &&& (16 : Int32)) = (0 : Int32) then p1 else (p1 ^^^ p6)) then (if p2 = (if (p5 &&& (32 : Int32)) = (0 : Int32) then p2 else (p2 ^^^ p6)) then (if p3 = (if (p5 &&& (64 : Int32)) = (0 : Int32) then p3 else (p3 ^^^ p6)) then (if p4 = (if (p5 &&& (128 : Int32)) = (0 : Int32) then p4 else (p4 ^^^ p6)) then (1 : Int32) else (0 : Int32)) else (0 : Int32)) else (0 : Int32)) else (0 : Int32)) else (0 : Int32)))] [(.int (own_eq (own_F1 ((p5 &&& (3 : Int32)) % (3 : Int32)) wI wA wV) p1 p2 p3 p4 (own_F1 ((((p5.toUInt32 >>> ((2 : Int32) &&& 31).toUInt32).toInt32) &&& (3 : Int32)) % (3 : Int32)) wI wA wV) (if (p5 &&& (16 : Int32)) = (0 : Int32) then p1 else (p1 ^^^ p6)) (if (p5 &&& (32 : Int32)) = (0 : Int32) then p2 else (p2 ^^^ p6)) (if (p5 &&& (64 : Int32)) = (0 : Int32) then p3 else (p3 ^^^ p6)) (if (p5 &&& (128 : Int32)) = (0 : Int32) then p4 else (p4 ^^^ p6))))])) _
          refine XS.iload X151.here hx rfl (hb hby at_253) rfl ?_
          show Steps p.tables e below (T151.setTop (mkF m 255 #[.val (.int p1), .val (.int p2), .val (.int p3), .val (.int p4), .val (.int p5), .val (.int p6), .val (.ref (own_F1 ((p5 &&& (3 : Int32)) % (3 : Int32)) wI wA wV)), .val (.ref (own_F1 ((((p5.toUInt32 >>> ((2 : Int32) &&& 31).toUInt32).toInt32) &&& (3 : Int32)) % (3 : Int32)) wI wA wV)), .val (.int (if (p5 &&& (16 : Int32)) = (0 : Int32) then p1 else (p1 ^^^ p6))), .val (.int (if (p5 &&& (32 : Int32)) = (0 : Int32) then p2 else (p2 ^^^ p6))), .val (.int (if (p5 &&& (64 : Int32)) = (0 : Int32) then p3 else (p3 ^^^ p6))), .val (.int (if (p5 &&& (128 : Int32)) = (0 : Int32) then p4 else (p4 ^^^ p6))), .val (.int (((p5.toUInt32 >>> ((8 : Int32) &&& 31).toUInt32).toInt32) &&& (3 : Int32))), .val (.ref b93), .val (.ref b101), .val (.ref b115), .val (.int (if (own_F1 ((p5 &&& (3 : Int32)) % (3 : Int32)) wI wA wV) = (own_F1 ((((p5.toUInt32 >>> ((2 : Int32) &&& 31).toUInt32).toInt32) &&& (3 : Int32)) % (3 : Int32)) wI wA wV) then (if p1 = (if (p5 &&& (16 : Int32)) = (0 : Int32) then p1 else (p1 ^^^ p6)) then (if p2 = (if (p5 &&& (32 : Int32)) = (0 : Int32) then p2 else (p2 ^^^ p6)) then (if p3 = (if (p5 &&& (64 : Int32)) = (0 : Int32) then p3 else (p3 ^^^ p6)) then (if p4 = (if (p5 &&& (128 : Int32)) = (0 : Int32) then p4 else (p4 ^^^ p6)) then (1 : Int32) else (0 : Int32)) else (0 : Int32)) else (0 : Int32)) else (0 : Int32)) else (0 : Int32)))] [(.int (if (own_F1 ((p5 &&& (3 : Int32)) % (3 : Int32)) wI wA wV) = (own_F1 ((((p5.toUInt32 >>> ((2 : Int32) &&& 31).toUInt32).toInt32) &&& (3 : Int32)) % (3 : Int32)) wI wA wV) then (if p1 = (if (p5 &&& (16 : Int32)) = (0 : Int32) then p1 else (p1 ^^^ p6)) then (if p2 = (if (p5 &&& (32 : Int32)) = (0 : Int32) then p2 else (p2 ^^^ p6)) then (if p3 = (if (p5 &&& (64 : Int32)) = (0 : Int32) then p3 else (p3 ^^^ p6)) then (if p4 = (if (p5 &&& (128 : Int32)) = (0 : Int32) then p4 else (p4 ^^^ p6)) then (1 : Int32) else (0 : Int32)) else (0 : Int32)) else (0 : Int32)) else (0 : Int32)) else (0 : Int32))), (.int (own_eq (own_F1 ((p5 &&& (3 : Int32)) % (3 : Int32)) wI wA wV) p1 p2 p3 p4 (own_F1 ((((p5.toUInt32 >>> ((2 : Int32) &&& 31).toUInt32).toInt32) &&& (3 : Int32)) % (3 : Int32)) wI wA wV) (if (p5 &&& (16 : Int32)) = (0 : Int32) then p1 else (p1 ^^^ p6)) (if (p5 &&& (32 : Int32)) = (0 : Int32) then p2 else (p2 ^^^ p6)) (if (p5 &&& (64 : Int32)) = (0 : Int32) then p3 else (p3 ^^^ p6)) (if (p5 &&& (128 : Int32)) = (0 : Int32) then p4 else (p4 ^^^ p6))))])) _
          refine XS.icmpNo X151.here hx rfl (hb hby at_255) rfl (teq (rfl : (own_eq (own_F1 ((p5 &&& (3 : Int32)) % (3 : Int32)) wI wA wV) p1 p2 p3 p4 (own_F1 ((((p5.toUInt32 >>> ((2 : Int32) &&& 31).toUInt32).toInt32) &&& (3 : Int32)) % (3 : Int32)) wI wA wV) (if (p5 &&& (16 : Int32)) = (0 : Int32) then p1 else (p1 ^^^ p6)) (if (p5 &&& (32 : Int32)) = (0 : Int32) then p2 else (p2 ^^^ p6)) (if (p5 &&& (64 : Int32)) = (0 : Int32) then p3 else (p3 ^^^ p6)) (if (p5 &&& (128 : Int32)) = (0 : Int32) then p4 else (p4 ^^^ p6))) = (if (own_F1 ((p5 &&& (3 : Int32)) % (3 : Int32)) wI wA wV) = (own_F1 ((((p5.toUInt32 >>> ((2 : Int32) &&& 31).toUInt32).toInt32) &&& (3 : Int32)) % (3 : Int32)) wI wA wV) then (if p1 = (if (p5 &&& (16 : Int32)) = (0 : Int32) then p1 else (p1 ^^^ p6)) then (if p2 = (if (p5 &&& (32 : Int32)) = (0 : Int32) then p2 else (p2 ^^^ p6)) then (if p3 = (if (p5 &&& (64 : Int32)) = (0 : Int32) then p3 else (p3 ^^^ p6)) then (if p4 = (if (p5 &&& (128 : Int32)) = (0 : Int32) then p4 else (p4 ^^^ p6)) then (1 : Int32) else (0 : Int32)) else (0 : Int32)) else (0 : Int32)) else (0 : Int32)) else (0 : Int32)))).2 ?_
          show Steps p.tables e below (T151.setTop (mkF m 258 #[.val (.int p1), .val (.int p2), .val (.int p3), .val (.int p4), .val (.int p5), .val (.int p6), .val (.ref (own_F1 ((p5 &&& (3 : Int32)) % (3 : Int32)) wI wA wV)), .val (.ref (own_F1 ((((p5.toUInt32 >>> ((2 : Int32) &&& 31).toUInt32).toInt32) &&& (3 : Int32)) % (3 : Int32)) wI wA wV)), .val (.int (if (p5 &&& (16 : Int32)) = (0 : Int32) then p1 else (p1 ^^^ p6))), .val (.int (if (p5 &&& (32 : Int32)) = (0 : Int32) then p2 else (p2 ^^^ p6))), .val (.int (if (p5 &&& (64 : Int32)) = (0 : Int32) then p3 else (p3 ^^^ p6))), .val (.int (if (p5 &&& (128 : Int32)) = (0 : Int32) then p4 else (p4 ^^^ p6))), .val (.int (((p5.toUInt32 >>> ((8 : Int32) &&& 31).toUInt32).toInt32) &&& (3 : Int32))), .val (.ref b93), .val (.ref b101), .val (.ref b115), .val (.int (if (own_F1 ((p5 &&& (3 : Int32)) % (3 : Int32)) wI wA wV) = (own_F1 ((((p5.toUInt32 >>> ((2 : Int32) &&& 31).toUInt32).toInt32) &&& (3 : Int32)) % (3 : Int32)) wI wA wV) then (if p1 = (if (p5 &&& (16 : Int32)) = (0 : Int32) then p1 else (p1 ^^^ p6)) then (if p2 = (if (p5 &&& (32 : Int32)) = (0 : Int32) then p2 else (p2 ^^^ p6)) then (if p3 = (if (p5 &&& (64 : Int32)) = (0 : Int32) then p3 else (p3 ^^^ p6)) then (if p4 = (if (p5 &&& (128 : Int32)) = (0 : Int32) then p4 else (p4 ^^^ p6)) then (1 : Int32) else (0 : Int32)) else (0 : Int32)) else (0 : Int32)) else (0 : Int32)) else (0 : Int32)))] [])) _
          refine XS.aload X151.here hx rfl (hb hby at_258) rfl rfl ?_
          show Steps p.tables e below (T151.setTop (mkF m 260 #[.val (.int p1), .val (.int p2), .val (.int p3), .val (.int p4), .val (.int p5), .val (.int p6), .val (.ref (own_F1 ((p5 &&& (3 : Int32)) % (3 : Int32)) wI wA wV)), .val (.ref (own_F1 ((((p5.toUInt32 >>> ((2 : Int32) &&& 31).toUInt32).toInt32) &&& (3 : Int32)) % (3 : Int32)) wI wA wV)), .val (.int (if (p5 &&& (16 : Int32)) = (0 : Int32) then p1 else (p1 ^^^ p6))), .val (.int (if (p5 &&& (32 : Int32)) = (0 : Int32) then p2 else (p2 ^^^ p6))), .val (.int (if (p5 &&& (64 : Int32)) = (0 : Int32) then p3 else (p3 ^^^ p6))), .val (.int (if (p5 &&& (128 : Int32)) = (0 : Int32) then p4 else (p4 ^^^ p6))), .val (.int (((p5.toUInt32 >>> ((8 : Int32) &&& 31).toUInt32).toInt32) &&& (3 : Int32))), .val (.ref b93), .val (.ref b101), .val (.ref b115), .val (.int (if (own_F1 ((p5 &&& (3 : Int32)) % (3 : Int32)) wI wA wV) = (own_F1 ((((p5.toUInt32 >>> ((2 : Int32) &&& 31).toUInt32).toInt32) &&& (3 : Int32)) % (3 : Int32)) wI wA wV) then (if p1 = (if (p5 &&& (16 : Int32)) = (0 : Int32) then p1 else (p1 ^^^ p6)) then (if p2 = (if (p5 &&& (32 : Int32)) = (0 : Int32) then p2 else (p2 ^^^ p6)) then (if p3 = (if (p5 &&& (64 : Int32)) = (0 : Int32) then p3 else (p3 ^^^ p6)) then (if p4 = (if (p5 &&& (128 : Int32)) = (0 : Int32) then p4 else (p4 ^^^ p6)) then (1 : Int32) else (0 : Int32)) else (0 : Int32)) else (0 : Int32)) else (0 : Int32)) else (0 : Int32)))] [(.ref b101)])) _
          refine XS.aload X151.here hx rfl (hb hby at_260) rfl rfl ?_
          show Steps p.tables e below (T151.setTop (mkF m 262 #[.val (.int p1), .val (.int p2), .val (.int p3), .val (.int p4), .val (.int p5), .val (.int p6), .val (.ref (own_F1 ((p5 &&& (3 : Int32)) % (3 : Int32)) wI wA wV)), .val (.ref (own_F1 ((((p5.toUInt32 >>> ((2 : Int32) &&& 31).toUInt32).toInt32) &&& (3 : Int32)) % (3 : Int32)) wI wA wV)), .val (.int (if (p5 &&& (16 : Int32)) = (0 : Int32) then p1 else (p1 ^^^ p6))), .val (.int (if (p5 &&& (32 : Int32)) = (0 : Int32) then p2 else (p2 ^^^ p6))), .val (.int (if (p5 &&& (64 : Int32)) = (0 : Int32) then p3 else (p3 ^^^ p6))), .val (.int (if (p5 &&& (128 : Int32)) = (0 : Int32) then p4 else (p4 ^^^ p6))), .val (.int (((p5.toUInt32 >>> ((8 : Int32) &&& 31).toUInt32).toInt32) &&& (3 : Int32))), .val (.ref b93), .val (.ref b101), .val (.ref b115), .val (.int (if (own_F1 ((p5 &&& (3 : Int32)) % (3 : Int32)) wI wA wV) = (own_F1 ((((p5.toUInt32 >>> ((2 : Int32) &&& 31).toUInt32).toInt32) &&& (3 : Int32)) % (3 : Int32)) wI wA wV) then (if p1 = (if (p5 &&& (16 : Int32)) = (0 : Int32) then p1 else (p1 ^^^ p6)) then (if p2 = (if (p5 &&& (32 : Int32)) = (0 : Int32) then p2 else (p2 ^^^ p6)) then (if p3 = (if (p5 &&& (64 : Int32)) = (0 : Int32) then p3 else (p3 ^^^ p6)) then (if p4 = (if (p5 &&& (128 : Int32)) = (0 : Int32) then p4 else (p4 ^^^ p6)) then (1 : Int32) else (0 : Int32)) else (0 : Int32)) else (0 : Int32)) else (0 : Int32)) else (0 : Int32)))] [(.ref b93), (.ref b101)])) _
          refine st152.trans ?_
          show Steps p.tables e below (T152.setTop (mkF m 265 #[.val (.int p1), .val (.int p2), .val (.int p3), .val (.int p4), .val (.int p5), .val (.int p6), .val (.ref (own_F1 ((p5 &&& (3 : Int32)) % (3 : Int32)) wI wA wV)), .val (.ref (own_F1 ((((p5.toUInt32 >>> ((2 : Int32) &&& 31).toUInt32).toInt32) &&& (3 : Int32)) % (3 : Int32)) wI wA wV)), .val (.int (if (p5 &&& (16 : Int32)) = (0 : Int32) then p1 else (p1 ^^^ p6))), .val (.int (if (p5 &&& (32 : Int32)) = (0 : Int32) then p2 else (p2 ^^^ p6))), .val (.int (if (p5 &&& (64 : Int32)) = (0 : Int32) then p3 else (p3 ^^^ p6))), .val (.int (if (p5 &&& (128 : Int32)) = (0 : Int32) then p4 else (p4 ^^^ p6))), .val (.int (((p5.toUInt32 >>> ((8 : Int32) &&& 31).toUInt32).toInt32) &&& (3 : Int32))), .val (.ref b93), .val (.ref b101), .val (.ref b115), .val (.int (if (own_F1 ((p5 &&& (3 : Int32)) % (3 : Int32)) wI wA wV) = (own_F1 ((((p5.toUInt32 >>> ((2 : Int32) &&& 31).toUInt32).toInt32) &&& (3 : Int32)) % (3 : Int32)) wI wA wV) then (if p1 = (if (p5 &&& (16 : Int32)) = (0 : Int32) then p1 else (p1 ^^^ p6)) then (if p2 = (if (p5 &&& (32 : Int32)) = (0 : Int32) then p2 else (p2 ^^^ p6)) then (if p3 = (if (p5 &&& (64 : Int32)) = (0 : Int32) then p3 else (p3 ^^^ p6)) then (if p4 = (if (p5 &&& (128 : Int32)) = (0 : Int32) then p4 else (p4 ^^^ p6)) then (1 : Int32) else (0 : Int32)) else (0 : Int32)) else (0 : Int32)) else (0 : Int32)) else (0 : Int32)))] [(.int (own_eq (own_F1 ((((p5.toUInt32 >>> ((2 : Int32) &&& 31).toUInt32).toInt32) &&& (3 : Int32)) % (3 : Int32)) wI wA wV) (if (p5 &&& (16 : Int32)) = (0 : Int32) then p1 else (p1 ^^^ p6)) (if (p5 &&& (32 : Int32)) = (0 : Int32) then p2 else (p2 ^^^ p6)) (if (p5 &&& (64 : Int32)) = (0 : Int32) then p3 else (p3 ^^^ p6)) (if (p5 &&& (128 : Int32)) = (0 : Int32) then p4 else (p4 ^^^ p6)) (own_F1 ((p5 &&& (3 : Int32)) % (3 : Int32)) wI wA wV) p1 p2 p3 p4))])) _
          refine XS.iload X152.here hx rfl (hb hby at_265) rfl ?_
          show Steps p.tables e below (T152.setTop (mkF m 267 #[.val (.int p1), .val (.int p2), .val (.int p3), .val (.int p4), .val (.int p5), .val (.int p6), .val (.ref (own_F1 ((p5 &&& (3 : Int32)) % (3 : Int32)) wI wA wV)), .val (.ref (own_F1 ((((p5.toUInt32 >>> ((2 : Int32) &&& 31).toUInt32).toInt32) &&& (3 : Int32)) % (3 : Int32)) wI wA wV)), .val (.int (if (p5 &&& (16 : Int32)) = (0 : Int32) then p1 else (p1 ^^^ p6))), .val (.int (if (p5 &&& (32 : Int32)) = (0 : Int32) then p2 else (p2 ^^^ p6))), .val (.int (if (p5 &&& (64 : Int32)) = (0 : Int32) then p3 else (p3 ^^^ p6))), .val (.int (if (p5 &&& (128 : Int32)) = (0 : Int32) then p4 else (p4 ^^^ p6))), .val (.int (((p5.toUInt32 >>> ((8 : Int32) &&& 31).toUInt32).toInt32) &&& (3 : Int32))), .val (.ref b93), .val (.ref b101), .val (.ref b115), .val (.int (if (own_F1 ((p5 &&& (3 : Int32)) % (3 : Int32)) wI wA wV) = (own_F1 ((((p5.toUInt32 >>> ((2 : Int32) &&& 31).toUInt32).toInt32) &&& (3 : Int32)) % (3 : Int32)) wI wA wV) then (if p1 = (if (p5 &&& (16 : Int32)) = (0 : Int32) then p1 else (p1 ^^^ p6)) then (if p2 = (if (p5 &&& (32 : Int32)) = (0 : Int32) then p2 else (p2 ^^^ p6)) then (if p3 = (if (p5 &&& (64 : Int32)) = (0 : Int32) then p3 else (p3 ^^^ p6)) then (if p4 = (if (p5 &&& (128 : Int32)) = (0 : Int32) then p4 else (p4 ^^^ p6)) then (1 : Int32) else (0 : Int32)) else (0 : Int32)) else (0 : Int32)) else (0 : Int32)) else (0 : Int32)))] [(.int (if (own_F1 ((p5 &&& (3 : Int32)) % (3 : Int32)) wI wA wV) = (own_F1 ((((p5.toUInt32 >>> ((2 : Int32) &&& 31).toUInt32).toInt32) &&& (3 : Int32)) % (3 : Int32)) wI wA wV) then (if p1 = (if (p5 &&& (16 : Int32)) = (0 : Int32) then p1 else (p1 ^^^ p6)) then (if p2 = (if (p5 &&& (32 : Int32)) = (0 : Int32) then p2 else (p2 ^^^ p6)) then (if p3 = (if (p5 &&& (64 : Int32)) = (0 : Int32) then p3 else (p3 ^^^ p6)) then (if p4 = (if (p5 &&& (128 : Int32)) = (0 : Int32) then p4 else (p4 ^^^ p6)) then (1 : Int32) else (0 : Int32)) else (0 : Int32)) else (0 : Int32)) else (0 : Int32)) else (0 : Int32))), (.int (own_eq (own_F1 ((((p5.toUInt32 >>> ((2 : Int32) &&& 31).toUInt32).toInt32) &&& (3 : Int32)) % (3 : Int32)) wI wA wV) (if (p5 &&& (16 : Int32)) = (0 : Int32) then p1 else (p1 ^^^ p6)) (if (p5 &&& (32 : Int32)) = (0 : Int32) then p2 else (p2 ^^^ p6)) (if (p5 &&& (64 : Int32)) = (0 : Int32) then p3 else (p3 ^^^ p6)) (if (p5 &&& (128 : Int32)) = (0 : Int32) then p4 else (p4 ^^^ p6)) (own_F1 ((p5 &&& (3 : Int32)) % (3 : Int32)) wI wA wV) p1 p2 p3 p4))])) _
          refine XS.icmpNo X152.here hx rfl (hb hby at_267) rfl (teq ((own_eqsymm _ _ _ _ _ _ _ _ _ _) : (own_eq (own_F1 ((((p5.toUInt32 >>> ((2 : Int32) &&& 31).toUInt32).toInt32) &&& (3 : Int32)) % (3 : Int32)) wI wA wV) (if (p5 &&& (16 : Int32)) = (0 : Int32) then p1 else (p1 ^^^ p6)) (if (p5 &&& (32 : Int32)) = (0 : Int32) then p2 else (p2 ^^^ p6)) (if (p5 &&& (64 : Int32)) = (0 : Int32) then p3 else (p3 ^^^ p6)) (if (p5 &&& (128 : Int32)) = (0 : Int32) then p4 else (p4 ^^^ p6)) (own_F1 ((p5 &&& (3 : Int32)) % (3 : Int32)) wI wA wV) p1 p2 p3 p4) = (if (own_F1 ((p5 &&& (3 : Int32)) % (3 : Int32)) wI wA wV) = (own_F1 ((((p5.toUInt32 >>> ((2 : Int32) &&& 31).toUInt32).toInt32) &&& (3 : Int32)) % (3 : Int32)) wI wA wV) then (if p1 = (if (p5 &&& (16 : Int32)) = (0 : Int32) then p1 else (p1 ^^^ p6)) then (if p2 = (if (p5 &&& (32 : Int32)) = (0 : Int32) then p2 else (p2 ^^^ p6)) then (if p3 = (if (p5 &&& (64 : Int32)) = (0 : Int32) then p3 else (p3 ^^^ p6)) then (if p4 = (if (p5 &&& (128 : Int32)) = (0 : Int32) then p4 else (p4 ^^^ p6)) then (1 : Int32) else (0 : Int32)) else (0 : Int32)) else (0 : Int32)) else (0 : Int32)) else (0 : Int32)))).2 ?_
          show Steps p.tables e below (T152.setTop (mkF m 270 #[.val (.int p1), .val (.int p2), .val (.int p3), .val (.int p4), .val (.int p5), .val (.int p6), .val (.ref (own_F1 ((p5 &&& (3 : Int32)) % (3 : Int32)) wI wA wV)), .val (.ref (own_F1 ((((p5.toUInt32 >>> ((2 : Int32) &&& 31).toUInt32).toInt32) &&& (3 : Int32)) % (3 : Int32)) wI wA wV)), .val (.int (if (p5 &&& (16 : Int32)) = (0 : Int32) then p1 else (p1 ^^^ p6))), .val (.int (if (p5 &&& (32 : Int32)) = (0 : Int32) then p2 else (p2 ^^^ p6))), .val (.int (if (p5 &&& (64 : Int32)) = (0 : Int32) then p3 else (p3 ^^^ p6))), .val (.int (if (p5 &&& (128 : Int32)) = (0 : Int32) then p4 else (p4 ^^^ p6))), .val (.int (((p5.toUInt32 >>> ((8 : Int32) &&& 31).toUInt32).toInt32) &&& (3 : Int32))), .val (.ref b93), .val (.ref b101), .val (.ref b115), .val (.int (if (own_F1 ((p5 &&& (3 : Int32)) % (3 : Int32)) wI wA wV) = (own_F1 ((((p5.toUInt32 >>> ((2 : Int32) &&& 31).toUInt32).toInt32) &&& (3 : Int32)) % (3 : Int32)) wI wA wV) then (if p1 = (if (p5 &&& (16 : Int32)) = (0 : Int32) then p1 else (p1 ^^^ p6)) then (if p2 = (if (p5 &&& (32 : Int32)) = (0 : Int32) then p2 else (p2 ^^^ p6)) then (if p3 = (if (p5 &&& (64 : Int32)) = (0 : Int32) then p3 else (p3 ^^^ p6)) then (if p4 = (if (p5 &&& (128 : Int32)) = (0 : Int32) then p4 else (p4 ^^^ p6)) then (1 : Int32) else (0 : Int32)) else (0 : Int32)) else (0 : Int32)) else (0 : Int32)) else (0 : Int32)))] [])) _
          refine XS.iconst X152.here hx rfl (hb hby at_270) ?_
          show Steps p.tables e below (T152.setTop (mkF m 271 #[.val (.int p1), .val (.int p2), .val (.int p3), .val (.int p4), .val (.int p5), .val (.int p6), .val (.ref (own_F1 ((p5 &&& (3 : Int32)) % (3 : Int32)) wI wA wV)), .val (.ref (own_F1 ((((p5.toUInt32 >>> ((2 : Int32) &&& 31).toUInt32).toInt32) &&& (3 : Int32)) % (3 : Int32)) wI wA wV)), .val (.int (if (p5 &&& (16 : Int32)) = (0 : Int32) then p1 else (p1 ^^^ p6))), .val (.int (if (p5 &&& (32 : Int32)) = (0 : Int32) then p2 else (p2 ^^^ p6))), .val (.int (if (p5 &&& (64 : Int32)) = (0 : Int32) then p3 else (p3 ^^^ p6))), .val (.int (if (p5 &&& (128 : Int32)) = (0 : Int32) then p4 else (p4 ^^^ p6))), .val (.int (((p5.toUInt32 >>> ((8 : Int32) &&& 31).toUInt32).toInt32) &&& (3 : Int32))), .val (.ref b93), .val (.ref b101), .val (.ref b115), .val (.int (if (own_F1 ((p5 &&& (3 : Int32)) % (3 : Int32)) wI wA wV) = (own_F1 ((((p5.toUInt32 >>> ((2 : Int32) &&& 31).toUInt32).toInt32) &&& (3 : Int32)) % (3 : Int32)) wI wA wV) then (if p1 = (if (p5 &&& (16 : Int32)) = (0 : Int32) then p1 else (p1 ^^^ p6)) then (if p2 = (if (p5 &&& (32 : Int32)) = (0 : Int32) then p2 else (p2 ^^^ p6)) then (if p3 = (if (p5 &&& (64 : Int32)) = (0 : Int32) then p3 else (p3 ^^^ p6)) then (if p4 = (if (p5 &&& (128 : Int32)) = (0 : Int32) then p4 else (p4 ^^^ p6)) then (1 : Int32) else (0 : Int32)) else (0 : Int32)) else (0 : Int32)) else (0 : Int32)) else (0 : Int32)))] [(.int (1 : Int32))])) _
          refine XS.goto X152.here hx rfl (pc0 := 271) (pc' := 275) rfl (hb hby at_271) (by decide) (by decide) ?_
          exact kt
        obtain ⟨fs, hr, hrun, hended, hW, hsame⟩ := X152.leave (v := some (.int (1 : Int32))) (fun h => by rw [Bd.returns] at h; cases h)
        refine ⟨_, _, pre153 _ ?_, hrun, hended, _, _, rfl, ?_, ⟨_, rfl⟩, hW, hsame.mono (by decide) (by decide)⟩
        · show Steps p.tables e below (T152.setTop (mkF m 275 #[.val (.int p1), .val (.int p2), .val (.int p3), .val (.int p4), .val (.int p5), .val (.int p6), .val (.ref (own_F1 ((p5 &&& (3 : Int32)) % (3 : Int32)) wI wA wV)), .val (.ref (own_F1 ((((p5.toUInt32 >>> ((2 : Int32) &&& 31).toUInt32).toInt32) &&& (3 : Int32)) % (3 : Int32)) wI wA wV)), .val (.int (if (p5 &&& (16 : Int32)) = (0 : Int32) then p1 else (p1 ^^^ p6))), .val (.int (if (p5 &&& (32 : Int32)) = (0 : Int32) then p2 else (p2 ^^^ p6))), .val (.int (if (p5 &&& (64 : Int32)) = (0 : Int32) then p3 else (p3 ^^^ p6))), .val (.int (if (p5 &&& (128 : Int32)) = (0 : Int32) then p4 else (p4 ^^^ p6))), .val (.int (((p5.toUInt32 >>> ((8 : Int32) &&& 31).toUInt32).toInt32) &&& (3 : Int32))), .val (.ref b93), .val (.ref b101), .val (.ref b115), .val (.int (if (own_F1 ((p5 &&& (3 : Int32)) % (3 : Int32)) wI wA wV) = (own_F1 ((((p5.toUInt32 >>> ((2 : Int32) &&& 31).toUInt32).toInt32) &&& (3 : Int32)) % (3 : Int32)) wI wA wV) then (if p1 = (if (p5 &&& (16 : Int32)) = (0 : Int32) then p1 else (p1 ^^^ p6)) then (if p2 = (if (p5 &&& (32 : Int32)) = (0 : Int32) then p2 else (p2 ^^^ p6)) then (if p3 = (if (p5 &&& (64 : Int32)) = (0 : Int32) then p3 else (p3 ^^^ p6)) then (if p4 = (if (p5 &&& (128 : Int32)) = (0 : Int32) then p4 else (p4 ^^^ p6)) then (1 : Int32) else (0 : Int32)) else (0 : Int32)) else (0 : Int32)) else (0 : Int32)) else (0 : Int32)))] [(.int (1 : Int32))])) _
          exact retN X152 hx (t := .boolean) Bd.returns (by simp) (hb hby at_275) hr
        · show Q0 Z p1 p2 p3 p4 p5 p6 wI wA wV h0 n0 _ T152.heap _
          rw [e152]
          exact ⟨rfl, N152⟩
set_option maxRecDepth 65536 in
set_option maxHeartbeats 40000000 in
theorem comes_1 {Post : Tables → Env → Array Value → State → Outcome → State → Prop} (hpost : ∀ tb e args s v u, (limb_1_1.after args s (.returned v) u = true ∧ limb_1_2.after args s (.returned v) u = true ∧ True) → FrameEnd s (.returned v) u (Jvm.fieldLocs frame_1_writes args s ++ Jvm.arrayLocs frame_1_arrays args s ++ Jvm.staticLocs frame_1_statics s) 16 128 → Post tb e args s (.returned v) u) :
    ArmFor flags0 classFile x code maxLocals ret World_1 tables_1 room_1 Calls_1 rest_1 Pre_1 Post := by
  intro l hfl _ _ p e ha hc hk s m args below hf hA hF happ hP
  obtain ⟨hcalls, hrest, hpre⟩ := hP
  obtain ⟨-, -, -, hnamed, -, -, -, hat⟩ := (Spec.applies_iff hf).mp happ
  obtain ⟨hg, hn⟩ := and_e (Cond.before_iff.mp (show (Jvm.Cond.and given_1 narrow_1).before args s = true from hpre))
  obtain ⟨gc, gr0⟩ := and_e hg
  obtain ⟨ga0, gr1⟩ := and_e gr0
  obtain ⟨ga1, gr2⟩ := and_e gr1
  obtain ⟨ga2, gr3⟩ := and_e gr2
  obtain ⟨ga3, gr4⟩ := and_e gr3
  obtain ⟨ga4, gr5⟩ := and_e gr4
  obtain ⟨w0, w1, w2, w3, w4, w5, rfl⟩ : ∃ w0 w1 w2 w3 w4 w5 : Value, args = #[w0, w1, w2, w3, w4, w5] := by
    have hs : args.size = 6 := by simpa [Cond.value, given_1] using gc
    obtain ⟨L⟩ := args
    match L, hs with
    | [w0, w1, w2, w3, w4, w5], _ => exact ⟨w0, w1, w2, w3, w4, w5, rfl⟩
  have hw := fun d (hd : d ∈ tables_1) => atoms_spec (ws := Jvm.Cond.code x code maxLocals ret :: tables_1) hat d (List.mem_cons_of_mem _ hd)
  have hfit : Fit s := fun {y c} hc i hi => by
    obtain ⟨ha, rfl⟩ := Array.getElem?_eq_some_iff.mp hc
    have q := List.all_eq_true.mp ((Array.all_eq_true_iff_forall_mem.mp hF) _ (Array.getElem_mem ha)) i (List.mem_range.mpr hi)
    simpa [Array.getElem?_eq_getElem hi] using q
  obtain ⟨i0, ei0⟩ := is_v ga0
  obtain rfl : w0 = (.int i0) := Option.some.inj ei0
  obtain ⟨i1, ei1⟩ := is_v ga1
  obtain rfl : w1 = (.int i1) := Option.some.inj ei1
  obtain ⟨i2, ei2⟩ := is_v ga2
  obtain rfl : w2 = (.int i2) := Option.some.inj ei2
  obtain ⟨i3, ei3⟩ := is_v ga3
  obtain rfl : w3 = (.int i3) := Option.some.inj ei3
  obtain ⟨i4, ei4⟩ := is_v ga4
  obtain rfl : w4 = (.int i4) := Option.some.inj ei4
  obtain ⟨i5, ei5⟩ := is_v gr5
  obtain rfl : w5 = (.int i5) := Option.some.inj ei5
  obtain ⟨nn0, nnr0⟩ := and_e hn
  obtain ⟨nn1, nnr1⟩ := and_e nnr0
  obtain ⟨nn2, nnr2⟩ := and_e nnr1
  obtain ⟨nn3, nnr3⟩ := and_e nnr2
  obtain ⟨nn4, nnr4⟩ := and_e nnr3
  have nn5 := nnr4
  obtain ⟨wI, evI⟩ := exa_v nn0
  obtain ⟨wV, evV⟩ := exa_v nn1
  obtain ⟨wA, evA⟩ := exa_v nn4
  have SI := Sta.start evI (Or.inr ⟨(hw _ (List.mem_of_getElem? (i := 5) rfl)), (hw _ (List.mem_of_getElem? (i := 6) rfl))⟩)
  have SA := Sta.start evA (Or.inr ⟨(hw _ (List.mem_of_getElem? (i := 5) rfl)), (hw _ (List.mem_of_getElem? (i := 47) rfl))⟩)
  have SV := Sta.start evV (Or.inr ⟨(hw _ (List.mem_of_getElem? (i := 5) rfl)), (hw _ (List.mem_of_getElem? (i := 45) rfl))⟩)
  obtain ⟨n, o, h1, h2, h3, _, L, rfl, ⟨rfl, N⟩, hq⟩ := rm0 l s _ hw tables_1 i0 i1 i2 i3 i4 i5 wI wA wV s.heap s.heap.size (Nat.le_refl _) SI SA SV p e ha hc hk s m _ below hf ((Spec.applies_iff_loose hf).mp happ).1 ⟨rfl, State.Warmed39.refl s, rfl⟩ trivial
  refine ⟨n, _, h1, h2, h3, hpost _ _ _ _ _ _ ⟨Cond.after_iff.mpr rfl, Cond.after_iff.mpr (eq_i res_at (Term.int_eval (1)) rfl), trivial⟩ ⟨hq.1, hq.2.1, (hq.2.2.sift fun y hy => Or.inr (N y hy)).mono (by decide) (by decide)⟩⟩
theorem main_1_1 : Claimed_1_1 := comes_1 fun _ _ _ _ _ _ h hF => ⟨h.1, hF⟩
theorem main_1_2 : Claimed_1_2 := comes_1 fun _ _ _ _ _ _ h hF => ⟨h.2.1, hF⟩
end Jvm.Pilot.@@N@@
namespace Jvm.Pilot.@@N@@
open Jvm Jvm.ClassFile Sem Op Lib Jvm.Free Jvm.Stand Jvm.Pilot.@@N@@.Jvm.D
/-! MADE BY PROGRAM (witnessworld.py) out of the Statement's table words and the real class files: 14 classes; the members and pool entries that the words name. The judged class is class 1, her method 2. -/
namespace start1
open Jvm.ClassFile
def u (s : String) : CpInfo := .utf8 (stringToUtf16 s)
/-- a pool by its gaps: so many unusable entries, then the entry; so many at the end -/
def gap : Nat → List CpInfo → List CpInfo
  | 0, r => r
  | n + 1, r => .unusable :: gap n r
def poolList (es : List (Nat × CpInfo)) (last : Nat) : List CpInfo := es.foldr (fun e r => gap e.1 (e.2 :: r)) (gap last [])
def pool (es : List (Nat × CpInfo)) (last : Nat) : Array CpInfo := ⟨poolList es last⟩
def fileOf (pool : Array CpInfo) (this : Nat) (attrs : Array Attribute := #[]) (ms : Array MethodInfo := #[]) (fl : Nat := 33) (sup : Nat := 0) (ifs : Array Nat := #[]) (fds : Array FieldInfo := #[]) : ClassFile where
  minorVersion := 0
  majorVersion := 65
  constantPool := pool
  accessFlags := fl
  thisClass := this
  superClass := sup
  interfaces := ifs
  fields := fds
  methods := ms
  attributes := attrs
def plain (name : String) (sup : Option ClassId) : Class where
  name := name
  kind := .ordinary
  loader := none
  accessFlags := 33
  super := sup
  interfaces := #[]
  cf := none
  fields := #[]
  methods := #[]
  instanceTypes := #[]
  staticTypes := #[]
  resolved := #[]
  callSites := []
  init := .initialized
  statics := none
  mirror := none

def pool0 : Array CpInfo := pool [(5, u "<init>"), (0, u "()V"), (1, .class_ 10), (1, u "java/lang/Object")] 113

def k0c0 : Code := { maxStack := 0, maxLocals := 1, code := object_method_1_code, exceptionTable := #[], attributes := #[] }
def k0m0 : Method := { name := "<init>", desc := "()V", sig := { parameters := [], returnType := none }, accessFlags := 1, code := some k0c0 }
/-- java/lang/Object -/
def k0 : Class := { plain "java/lang/Object" none with
  accessFlags := 33
  interfaces := #[]
  cf := some (fileOf pool0 8 #[] #[{ accessFlags := 1, nameIndex := 5, descriptorIndex := 6, attributes := #[] }] 33 0 #[] #[])
  fields := #[]
  methods := #[k0m0]
  instanceTypes := #[]
  staticTypes := #[]
  resolved := Array.replicate 124 none
  statics := none }

def pool1 : Array CpInfo := pool [(2, .class_ 4), (1, u "java/lang/Object"), (0, u "<init>"), (0, u "()V"), (0, .fieldref 8 9), (0, .class_ 10), (0, .nameAndType 11 12), (0, u "com/example/cluster_protocol_models/clusterprotocolmodels/hermes/Message$Kind"), (0, u "INV"), (0, u "Lcom/example/cluster_protocol_models/clusterprotocolmodels/hermes/Message$Kind;"), (0, .fieldref 8 14), (0, .nameAndType 15 12), (0, u "ACK"), (0, .fieldref 8 17), (0, .nameAndType 18 12), (0, u "VAL"), (0, .methodref 20 21), (0, .class_ 22), (0, .nameAndType 23 24), (0, u "com/example/cluster_protocol_models/clusterprotocolmodels/hermes/MessageEqualsPinLaw"), (0, u "kindOf"), (0, u "(I)Lcom/example/cluster_protocol_models/clusterprotocolmodels/hermes/Message$Kind;"), (0, .class_ 26), (0, u "com/example/cluster_protocol_models/clusterprotocolmodels/hermes/Message"), (0, .methodref 25 28), (0, .nameAndType 5 29), (0, u "(Lcom/example/cluster_protocol_models/clusterprotocolmodels/hermes/Message$Kind;IIII)V"), (0, .class_ 31), (0, u "com/example/cluster_protocol_models/clusterprotocolmodels/hermes/Timestamp"), (0, .methodref 30 33), (0, .nameAndType 5 34), (0, u "(II)V"), (0, .methodref 25 36), (0, .nameAndType 37 38), (0, u "equals"), (0, u "(Ljava/lang/Object;)Z"), (3, u "law"), (0, u "(IIIIII)Z")] 4

def k1m0 : Method := { name := "<init>", desc := "()V", sig := { parameters := [], returnType := none }, accessFlags := 1, code := none }
def k1c1 : Code := { maxStack := 2, maxLocals := 1, code := method_2_code, exceptionTable := #[], attributes := #[] }
def k1m1 : Method := { name := "kindOf", desc := "(I)Lcom/example/cluster_protocol_models/clusterprotocolmodels/hermes/Message$Kind;", sig := { parameters := [.int], returnType := some (.object "com/example/cluster_protocol_models/clusterprotocolmodels/hermes/Message$Kind") }, accessFlags := 10, code := some k1c1 }
def k1c2 : Code := { maxStack := 7, maxLocals := 17, code := code, exceptionTable := #[], attributes := #[] }
def k1m2 : Method := { name := "law", desc := "(IIIIII)Z", sig := { parameters := [.int, .int, .int, .int, .int, .int], returnType := some .boolean }, accessFlags := 9, code := some k1c2 }
/-- com/example/cluster_protocol_models/clusterprotocolmodels/hermes/MessageEqualsPinLaw -/
def k1 : Class := { plain "com/example/cluster_protocol_models/clusterprotocolmodels/hermes/MessageEqualsPinLaw" (some 0) with
  accessFlags := 49
  interfaces := #[]
  cf := some (fileOf pool1 20 #[] #[{ accessFlags := 1, nameIndex := 5, descriptorIndex := 6, attributes := #[] }, { accessFlags := 10, nameIndex := 23, descriptorIndex := 24, attributes := #[] }, { accessFlags := 9, nameIndex := 42, descriptorIndex := 43, attributes := #[] }] 49 2 #[] #[])
  fields := #[]
  methods := #[k1m0, k1m1, k1m2]
  instanceTypes := #[]
  staticTypes := #[]
  resolved := Array.replicate 48 none
  statics := none }

def pool2 : Array CpInfo := pool [(1, .class_ 2), (0, u "java/lang/constant/Constable"), (0, .class_ 4), (0, u "java/lang/Object")] 6

/-- java/lang/constant/Constable -/
def k2 : Class := { plain "java/lang/constant/Constable" (some 0) with
  accessFlags := 1537
  interfaces := #[]
  cf := some (fileOf pool2 1 #[] #[] 1537 3 #[] #[])
  fields := #[]
  methods := #[]
  instanceTypes := #[]
  staticTypes := #[]
  resolved := Array.replicate 11 none
  statics := none }

def pool3 : Array CpInfo := pool [(1, .class_ 2), (0, u "java/lang/Comparable"), (0, .class_ 4), (0, u "java/lang/Object")] 7

/-- java/lang/Comparable -/
def k3 : Class := { plain "java/lang/Comparable" (some 0) with
  accessFlags := 1537
  interfaces := #[]
  cf := some (fileOf pool3 1 #[] #[] 1537 3 #[] #[])
  fields := #[]
  methods := #[]
  instanceTypes := #[]
  staticTypes := #[]
  resolved := Array.replicate 12 none
  statics := none }

def pool4 : Array CpInfo := pool [(1, .class_ 2), (0, u "java/io/Serializable"), (0, .class_ 4), (0, u "java/lang/Object")] 2

/-- java/io/Serializable -/
def k4 : Class := { plain "java/io/Serializable" (some 0) with
  accessFlags := 1537
  interfaces := #[]
  cf := some (fileOf pool4 1 #[] #[] 1537 3 #[] #[])
  fields := #[]
  methods := #[]
  instanceTypes := #[]
  staticTypes := #[]
  resolved := Array.replicate 7 none
  statics := none }

def pool5 : Array CpInfo := pool [(2, .class_ 4), (1, u "java/lang/Enum"), (0, u "name"), (0, u "Ljava/lang/String;"), (2, u "ordinal"), (0, u "I"), (1, .class_ 14), (1, u "java/lang/Object"), (4, u "hash"), (86, .class_ 108), (1, u "java/lang/Enum$EnumDesc"), (2, .class_ 112), (0, u "java/lang/constant/Constable"), (0, .class_ 114), (0, u "java/lang/Comparable"), (0, .class_ 116), (0, u "java/io/Serializable")] 87

/-- java/lang/Enum -/
def k5 : Class := { plain "java/lang/Enum" (some 0) with
  accessFlags := 1057
  interfaces := #[2, 3, 4]
  cf := some (fileOf pool5 2 #[.nestMembers #[106]] #[] 1057 12 #[111, 113, 115] #[{ accessFlags := 18, nameIndex := 5, descriptorIndex := 6, attributes := #[] }, { accessFlags := 18, nameIndex := 9, descriptorIndex := 10, attributes := #[] }, { accessFlags := 2, nameIndex := 19, descriptorIndex := 10, attributes := #[] }])
  fields := #[{ name := "name", type := (.object "java/lang/String"), accessFlags := 18, slot := 0, constantValue := 0 }, { name := "ordinal", type := .int, accessFlags := 18, slot := 1, constantValue := 0 }, { name := "hash", type := .int, accessFlags := 2, slot := 2, constantValue := 0 }]
  methods := #[]
  instanceTypes := #[(.object "java/lang/String"), .int, .int]
  staticTypes := #[]
  resolved := Array.replicate 204 none
  statics := none }

def pool6 : Array CpInfo := pool [(1, .class_ 2), (0, u "com/example/cluster_protocol_models/clusterprotocolmodels/hermes/Message$Kind"), (2, u "INV"), (0, u "Lcom/example/cluster_protocol_models/clusterprotocolmodels/hermes/Message$Kind;"), (2, u "ACK"), (2, u "VAL"), (2, u "$VALUES"), (0, u "[Lcom/example/cluster_protocol_models/clusterprotocolmodels/hermes/Message$Kind;"), (6, .class_ 25), (1, u "java/lang/Enum"), (26, .class_ 53), (0, u "com/example/cluster_protocol_models/clusterprotocolmodels/hermes/Message")] 2

/-- com/example/cluster_protocol_models/clusterprotocolmodels/hermes/Message$Kind -/
def k6 : Class := { plain "com/example/cluster_protocol_models/clusterprotocolmodels/hermes/Message$Kind" (some 5) with
  accessFlags := 16432
  interfaces := #[]
  cf := some (fileOf pool6 1 #[.nestHost 52] #[] 16432 23 #[] #[{ accessFlags := 16409, nameIndex := 5, descriptorIndex := 6, attributes := #[] }, { accessFlags := 16409, nameIndex := 9, descriptorIndex := 6, attributes := #[] }, { accessFlags := 16409, nameIndex := 12, descriptorIndex := 6, attributes := #[] }, { accessFlags := 4122, nameIndex := 15, descriptorIndex := 16, attributes := #[] }])
  fields := #[{ name := "INV", type := (.object "com/example/cluster_protocol_models/clusterprotocolmodels/hermes/Message$Kind"), accessFlags := 16409, slot := 0, constantValue := 0 }, { name := "ACK", type := (.object "com/example/cluster_protocol_models/clusterprotocolmodels/hermes/Message$Kind"), accessFlags := 16409, slot := 1, constantValue := 0 }, { name := "VAL", type := (.object "com/example/cluster_protocol_models/clusterprotocolmodels/hermes/Message$Kind"), accessFlags := 16409, slot := 2, constantValue := 0 }, { name := "$VALUES", type := (.array (.object "com/example/cluster_protocol_models/clusterprotocolmodels/hermes/Message$Kind")), accessFlags := 4122, slot := 3, constantValue := 0 }]
  methods := #[]
  instanceTypes := #[(.object "java/lang/String"), .int, .int]
  staticTypes := #[(.object "com/example/cluster_protocol_models/clusterprotocolmodels/hermes/Message$Kind"), (.object "com/example/cluster_protocol_models/clusterprotocolmodels/hermes/Message$Kind"), (.object "com/example/cluster_protocol_models/clusterprotocolmodels/hermes/Message$Kind"), (.array (.object "com/example/cluster_protocol_models/clusterprotocolmodels/hermes/Message$Kind"))]
  resolved := Array.replicate 56 none
  statics := some 0 }

def pool7 : Array CpInfo := pool [(1, .methodref 2 3), (0, .class_ 4), (0, .nameAndType 5 6), (0, u "java/lang/Object"), (0, u "<init>"), (0, u "()V"), (0, .fieldref 8 9), (0, .class_ 10), (0, .nameAndType 11 12), (0, u "com/example/cluster_protocol_models/clusterprotocolmodels/hermes/Message"), (0, u "kind"), (0, u "Lcom/example/cluster_protocol_models/clusterprotocolmodels/hermes/Message$Kind;"), (0, .fieldref 8 14), (0, .nameAndType 15 16), (0, u "sender"), (0, u "I"), (0, .fieldref 8 18), (0, .nameAndType 19 16), (0, u "epoch"), (0, .fieldref 8 21), (0, .nameAndType 22 16), (0, u "version"), (0, .fieldref 8 24), (0, .nameAndType 25 16), (0, u "tieBreaker"), (1, .class_ 29), (1, u "com/example/cluster_protocol_models/clusterprotocolmodels/hermes/Message$Kind"), (10, u "(Lcom/example/cluster_protocol_models/clusterprotocolmodels/hermes/Message$Kind;IIII)V"), (40, .class_ 82), (0, u "java/lang/Comparable"), (0, u "NO_SENDER"), (13, u "equals"), (0, u "(Ljava/lang/Object;)Z")] 28

def k7c0 : Code := { maxStack := 2, maxLocals := 6, code := prog_92_method_1_code, exceptionTable := #[], attributes := #[] }
def k7m0 : Method := { name := "<init>", desc := "(Lcom/example/cluster_protocol_models/clusterprotocolmodels/hermes/Message$Kind;IIII)V", sig := { parameters := [(.object "com/example/cluster_protocol_models/clusterprotocolmodels/hermes/Message$Kind"), .int, .int, .int, .int], returnType := none }, accessFlags := 0, code := some k7c0 }
def k7c1 : Code := { maxStack := 2, maxLocals := 3, code := prog_92_method_10_code, exceptionTable := #[], attributes := #[] }
def k7m1 : Method := { name := "equals", desc := "(Ljava/lang/Object;)Z", sig := { parameters := [(.object "java/lang/Object")], returnType := some .boolean }, accessFlags := 1, code := some k7c1 }
/-- com/example/cluster_protocol_models/clusterprotocolmodels/hermes/Message -/
def k7 : Class := { plain "com/example/cluster_protocol_models/clusterprotocolmodels/hermes/Message" (some 0) with
  accessFlags := 48
  interfaces := #[3]
  cf := some (fileOf pool7 8 #[.nestMembers #[27]] #[{ accessFlags := 0, nameIndex := 5, descriptorIndex := 40, attributes := #[] }, { accessFlags := 1, nameIndex := 97, descriptorIndex := 98, attributes := #[] }] 48 2 #[81] #[{ accessFlags := 26, nameIndex := 83, descriptorIndex := 16, attributes := #[] }, { accessFlags := 18, nameIndex := 11, descriptorIndex := 12, attributes := #[] }, { accessFlags := 18, nameIndex := 15, descriptorIndex := 16, attributes := #[] }, { accessFlags := 18, nameIndex := 19, descriptorIndex := 16, attributes := #[] }, { accessFlags := 18, nameIndex := 22, descriptorIndex := 16, attributes := #[] }, { accessFlags := 18, nameIndex := 25, descriptorIndex := 16, attributes := #[] }])
  fields := #[{ name := "NO_SENDER", type := .int, accessFlags := 26, slot := 0, constantValue := 0 }, { name := "kind", type := (.object "com/example/cluster_protocol_models/clusterprotocolmodels/hermes/Message$Kind"), accessFlags := 18, slot := 0, constantValue := 0 }, { name := "sender", type := .int, accessFlags := 18, slot := 1, constantValue := 0 }, { name := "epoch", type := .int, accessFlags := 18, slot := 2, constantValue := 0 }, { name := "version", type := .int, accessFlags := 18, slot := 3, constantValue := 0 }, { name := "tieBreaker", type := .int, accessFlags := 18, slot := 4, constantValue := 0 }]
  methods := #[k7m0, k7m1]
  instanceTypes := #[(.object "com/example/cluster_protocol_models/clusterprotocolmodels/hermes/Message$Kind"), .int, .int, .int, .int]
  staticTypes := #[.int]
  resolved := Array.replicate 127 none
  statics := none }

def pool8 : Array CpInfo := pool [(1, .methodref 2 3), (0, .class_ 4), (0, .nameAndType 5 6), (0, u "java/lang/Object"), (0, u "<init>"), (0, u "()V"), (0, .fieldref 8 9), (0, .class_ 10), (0, .nameAndType 11 12), (0, u "com/example/cluster_protocol_models/clusterprotocolmodels/hermes/Timestamp"), (0, u "version"), (0, u "I"), (0, .fieldref 8 14), (0, .nameAndType 15 12), (0, u "tieBreaker"), (4, u "(II)V")] 28

def k8c0 : Code := { maxStack := 2, maxLocals := 3, code := prog_97_method_1_code, exceptionTable := #[], attributes := #[] }
def k8m0 : Method := { name := "<init>", desc := "(II)V", sig := { parameters := [.int, .int], returnType := none }, accessFlags := 0, code := some k8c0 }
/-- com/example/cluster_protocol_models/clusterprotocolmodels/hermes/Timestamp -/
def k8 : Class := { plain "com/example/cluster_protocol_models/clusterprotocolmodels/hermes/Timestamp" (some 0) with
  accessFlags := 48
  interfaces := #[]
  cf := some (fileOf pool8 8 #[] #[{ accessFlags := 0, nameIndex := 5, descriptorIndex := 20, attributes := #[] }] 48 2 #[] #[{ accessFlags := 18, nameIndex := 11, descriptorIndex := 12, attributes := #[] }, { accessFlags := 18, nameIndex := 15, descriptorIndex := 12, attributes := #[] }])
  fields := #[{ name := "version", type := .int, accessFlags := 18, slot := 0, constantValue := 0 }, { name := "tieBreaker", type := .int, accessFlags := 18, slot := 1, constantValue := 0 }]
  methods := #[k8m0]
  instanceTypes := #[.int, .int]
  staticTypes := #[]
  resolved := Array.replicate 49 none
  statics := none }

def pool9 : Array CpInfo := pool [(1, u "java/lang/Cloneable"), (0, .class_ 1), (0, u "java/lang/Object"), (0, .class_ 3)] 3

/-- java/lang/Cloneable -/
def k9 : Class := { plain "java/lang/Cloneable" (some 0) with
  accessFlags := 1537
  interfaces := #[]
  cf := some (fileOf pool9 2 #[] #[] 1537 4 #[] #[])
  fields := #[]
  methods := #[]
  instanceTypes := #[]
  staticTypes := #[]
  resolved := Array.replicate 8 none
  statics := none }

/-- the primitive byte -/
def k10 : Class := { plain "byte" none with kind := .primitive 'B', accessFlags := 0x411 }
/-- [B -/
def k11 : Class := { plain "[B" (some 0) with kind := .array 10 .byte, interfaces := #[9, 4], accessFlags := 1041 }

/-- the primitive int -/
def k12 : Class := { plain "int" none with kind := .primitive 'I', accessFlags := 0x411 }
/-- [I -/
def k13 : Class := { plain "[I" (some 0) with kind := .array 12 .int, interfaces := #[9, 4], accessFlags := 1041 }

def heap : Heap := #[{ cls := 6, slots := #[.ref 1, .ref 2, .ref 3, .null], vm := .statics 6 },
  { cls := 6, slots := #[.null, .int 0, .int 0], vm := .none },
  { cls := 6, slots := #[.null, .int 1, .int 0], vm := .none },
  { cls := 6, slots := #[.null, .int 2, .int 0], vm := .none }]
def classes : Array Class := #[k0, k1, k2, k3, k4, k5, k6, k7, k8, k9, k10, k11, k12, k13]
def interned : List (Array UInt16 × Addr) := []
def slotsUsed : Nat := 13
def theMethod : MethodId := ⟨1, 2⟩
def args0 : Array Value := #[.int 7, .int 1, .int 2, .int 3, .int 4, .int 5]
def aboutOver (below : List Frame) : State where
  vm := { classes := classes, interned := interned.toArray }
  heap := heap
  slotsUsed := slotsUsed
  threads := #[{ frames := .invoking theMethod args0 :: below }]
def below0 : List Frame := [.native { method := ⟨0, 0⟩, args := #[] }]
def about1 : State := aboutOver below0
def p0 : Program := .bare "" "" ""
def e0 : Env := launch0.env 0 0 0
theorem w_frames : about1.frames = Frame.invoking theMethod args0 :: below0 := rfl
set_option maxRecDepth 65536 in
theorem w_args : argsFit about1.vm theMethod args0 = true := by decide +kernel
set_option maxRecDepth 65536 in
theorem w_heap : heapFits about1 = true := by decide +kernel
set_option maxRecDepth 65536 in
theorem w_runnable : about1.curStatus? = some .runnable := by decide +kernel
set_option maxRecDepth 65536 in
theorem w_alone : about1.alone = true := by decide +kernel
set_option maxRecDepth 65536 in
theorem w_named : about1.methodNamed? x = some theMethod := by decide +kernel
set_option maxRecDepth 65536 in
theorem w_hears : about1.hears theMethod below0 = true := by decide +kernel
set_option maxRecDepth 65536 in
theorem w_ripe : about1.ripe theMethod args0 below0 = true := by decide +kernel
theorem w_running : about1.status = .running := rfl
set_option maxRecDepth 65536 in
theorem w_room : about1.hasRoom e0.platform room_1 = true :=
  launch0.hasRoom_least _ room_1 (by decide +kernel) (by decide +kernel) (by decide +kernel) (by decide +kernel) (by decide +kernel) (by decide +kernel)
theorem allAtoms_all (ts : List Jvm.Cond) (a : Array Jvm.Value) (st : Jvm.State) : (allAtoms ts).before a st = ts.all (fun c => c.before a st) := by
  induction ts with
  | nil => rfl
  | cons c t ih =>
    show (Jvm.Cond.and c (allAtoms t)).before a st = _
    rw [Jvm.Cond.before_and, ih, List.all_cons]
def words1 : List Jvm.Cond := Jvm.Cond.code x code maxLocals ret :: tables_1
/-- a 'code' word, met by the world's own term for the bytes: nothing is compared byte by byte -/
theorem code_word {y : MethodName} {bytes : ByteArray} {mx : Nat} {rt : Option FieldType} {a : Array Value} {s : State} {m : MethodId} {meth : Method} {c : Code} (h1 : s.methodNamed? y = some m) (h2 : s.vm.method? m = some meth) (h3 : meth.code = some c) (h4 : c.code = bytes)
    (h5 : (c.maxLocals == mx && c.exceptionTable.isEmpty && decide (c.maxStack ≤ mostOperands) && decide (meth.sig.returnType = rt) && !meth.locks && decide (parseMethodDescriptor y.desc = some meth.sig)) = true) : (Jvm.Cond.code y bytes mx rt).before a s = true := by
  simp only [Bool.and_eq_true, beq_iff_eq, Bool.not_eq_true', decide_eq_true_eq] at h5
  obtain ⟨⟨⟨⟨⟨g1, g2⟩, g3⟩, g4⟩, g5⟩, g6⟩ := h5
  simp [Cond.before, Cond.holds, Cond.value, h1, h2, h3, h4, g1, g2, g3, g4, g5, g6]
def isCode : Jvm.Cond → Bool
  | .code _ _ _ _ => true
  | _ => false
theorem all_split {L : List Jvm.Cond} {P : Jvm.Cond → Bool} (h1 : L.all (fun c => isCode c || P c) = true) (h2 : ∀ c ∈ L.filter isCode, P c = true) : L.all P = true := by
  refine List.all_eq_true.mpr fun c hc => ?_
  have h := List.all_eq_true.mp h1 c hc
  rcases Bool.eq_false_or_eq_true (isCode c) with hi | hi
  · exact h2 c (List.mem_filter.mpr ⟨hc, hi⟩)
  · simpa [hi] using h
set_option maxRecDepth 65536 in
theorem w_c0 : (Jvm.Cond.code x code maxLocals ret).before args0 about1 = true := code_word (m := ⟨1, 2⟩) (meth := k1m2) (c := k1c2) (by decide +kernel) rfl rfl rfl (by decide +kernel)
set_option maxRecDepth 65536 in
theorem w_c1 : (Jvm.Cond.code ({ cls := "com/example/cluster_protocol_models/clusterprotocolmodels/hermes/MessageEqualsPinLaw", name := "kindOf", desc := "(I)Lcom/example/cluster_protocol_models/clusterprotocolmodels/hermes/Message$Kind;" } : Jvm.MethodName) method_2_code (1 : Nat) (Option.some (Jvm.ClassFile.FieldType.object "com/example/cluster_protocol_models/clusterprotocolmodels/hermes/Message$Kind"))).before args0 about1 = true := code_word (m := ⟨1, 1⟩) (meth := k1m1) (c := k1c1) (by decide +kernel) rfl rfl rfl (by decide +kernel)
set_option maxRecDepth 65536 in
theorem w_c2 : (Jvm.Cond.code ({ cls := "com/example/cluster_protocol_models/clusterprotocolmodels/hermes/Message", name := "<init>", desc := "(Lcom/example/cluster_protocol_models/clusterprotocolmodels/hermes/Message$Kind;IIII)V" } : Jvm.MethodName) prog_92_method_1_code (6 : Nat) (Option.none : Option Jvm.ClassFile.FieldType)).before args0 about1 = true := code_word (m := ⟨7, 0⟩) (meth := k7m0) (c := k7c0) (by decide +kernel) rfl rfl rfl (by decide +kernel)
set_option maxRecDepth 65536 in
theorem w_c3 : (Jvm.Cond.code ({ cls := "java/lang/Object", name := "<init>", desc := "()V" } : Jvm.MethodName) object_method_1_code (1 : Nat) (Option.none : Option Jvm.ClassFile.FieldType)).before args0 about1 = true := code_word (m := ⟨0, 0⟩) (meth := k0m0) (c := k0c0) (by decide +kernel) rfl rfl rfl (by decide +kernel)
set_option maxRecDepth 65536 in
theorem w_c4 : (Jvm.Cond.code ({ cls := "com/example/cluster_protocol_models/clusterprotocolmodels/hermes/Timestamp", name := "<init>", desc := "(II)V" } : Jvm.MethodName) prog_97_method_1_code (3 : Nat) (Option.none : Option Jvm.ClassFile.FieldType)).before args0 about1 = true := code_word (m := ⟨8, 0⟩) (meth := k8m0) (c := k8c0) (by decide +kernel) rfl rfl rfl (by decide +kernel)
set_option maxRecDepth 65536 in
theorem w_c5 : (Jvm.Cond.code ({ cls := "com/example/cluster_protocol_models/clusterprotocolmodels/hermes/Message", name := "equals", desc := "(Ljava/lang/Object;)Z" } : Jvm.MethodName) prog_92_method_10_code (3 : Nat) (Option.some Jvm.ClassFile.FieldType.boolean)).before args0 about1 = true := code_word (m := ⟨7, 1⟩) (meth := k7m1) (c := k7c1) (by decide +kernel) rfl rfl rfl (by decide +kernel)
def codes1 : List Jvm.Cond := [Jvm.Cond.code x code maxLocals ret, Jvm.Cond.code ({ cls := "com/example/cluster_protocol_models/clusterprotocolmodels/hermes/MessageEqualsPinLaw", name := "kindOf", desc := "(I)Lcom/example/cluster_protocol_models/clusterprotocolmodels/hermes/Message$Kind;" } : Jvm.MethodName) method_2_code (1 : Nat) (Option.some (Jvm.ClassFile.FieldType.object "com/example/cluster_protocol_models/clusterprotocolmodels/hermes/Message$Kind")), Jvm.Cond.code ({ cls := "com/example/cluster_protocol_models/clusterprotocolmodels/hermes/Message", name := "<init>", desc := "(Lcom/example/cluster_protocol_models/clusterprotocolmodels/hermes/Message$Kind;IIII)V" } : Jvm.MethodName) prog_92_method_1_code (6 : Nat) (Option.none : Option Jvm.ClassFile.FieldType), Jvm.Cond.code ({ cls := "java/lang/Object", name := "<init>", desc := "()V" } : Jvm.MethodName) object_method_1_code (1 : Nat) (Option.none : Option Jvm.ClassFile.FieldType), Jvm.Cond.code ({ cls := "com/example/cluster_protocol_models/clusterprotocolmodels/hermes/Timestamp", name := "<init>", desc := "(II)V" } : Jvm.MethodName) prog_97_method_1_code (3 : Nat) (Option.none : Option Jvm.ClassFile.FieldType), Jvm.Cond.code ({ cls := "com/example/cluster_protocol_models/clusterprotocolmodels/hermes/Message", name := "equals", desc := "(Ljava/lang/Object;)Z" } : Jvm.MethodName) prog_92_method_10_code (3 : Nat) (Option.some Jvm.ClassFile.FieldType.boolean)]
set_option maxRecDepth 65536 in
theorem codes_eq : words1.filter isCode = codes1 := rfl
theorem w_codes : ∀ c ∈ words1.filter isCode, c.before args0 about1 = true := by
  rw [codes_eq]
  intro c hc
  simp only [codes1, List.mem_cons, List.not_mem_nil, or_false] at hc
  rcases hc with rfl | rfl | rfl | rfl | rfl | rfl
  · exact w_c0
  · exact w_c1
  · exact w_c2
  · exact w_c3
  · exact w_c4
  · exact w_c5
set_option maxRecDepth 65536 in
theorem w_t1 : (words1.take 24).all (fun c => isCode c || c.before args0 about1) = true := by decide +kernel
set_option maxRecDepth 65536 in
theorem w_t2 : ((words1.drop 24).take 24).all (fun c => isCode c || c.before args0 about1) = true := by decide +kernel
set_option maxRecDepth 65536 in
theorem w_t3 : ((words1.drop 24).drop 24).all (fun c => isCode c || c.before args0 about1) = true := by decide +kernel
theorem w_tables : (allAtoms (Jvm.Cond.code x code maxLocals ret :: tables_1)).before args0 about1 = true := by
  rw [allAtoms_all]
  show words1.all (fun c => c.before args0 about1) = true
  refine all_split ?_ w_codes
  rw [← List.take_append_drop 24 words1, List.all_append, w_t1, ← List.take_append_drop 24 (words1.drop 24), List.all_append, w_t2, w_t3]
  rfl
set_option maxRecDepth 65536 in
theorem w_case : (Jvm.Cond.and given_1 narrow_1).before args0 about1 = true := by decide +kernel
theorem w_applies : (headSpec (Jvm.Cond.code x code maxLocals ret :: tables_1) room_1).applies x e0.platform about1 = true :=
  (Spec.applies_iff w_frames).mpr ⟨w_running, w_runnable, w_alone, w_named, w_hears, w_ripe, w_room, w_tables⟩
theorem atStart : AtStart classFile x code maxLocals ret World_1 tables_1 room_1 Calls_1 rest_1 Pre_1 launch0 p0 e0 about1 theMethod args0 below0 :=
  ⟨lists_1, trivial, launch0.admits_env _ _ _, launch0.least_env, fairChoices_fair.cas, fairChoices_fair.clock, w_frames, w_args, w_heap, w_applies, trivial, trivial, w_case⟩
end start1
theorem witness_1 : WitnessClaimed_1 := ⟨start1.p0, start1.e0, start1.about1, start1.theMethod, start1.args0, start1.below0, start1.atStart⟩
end Jvm.Pilot.@@N@@
