import JvmDerived
import JvmDerived.Pilot.@@N@@Statement
import JvmDerived.Pilot.@@N@@Code
set_option linter.unusedVariables false
set_option linter.unusedSimpArgs false
namespace Jvm.RoadKit
open Sem ClassFile Op Lib Jvm.Stand Jvm.Free Jvm.LawKit
section New
variable {p : Program} {l : Launch} {e : Env} {R : Room} {s : State} {m : MethodId} {args : Array Value} {below : List Frame} {meth : Method} {c : Code} {T : State} {locs : List Loc} {cells slots : Nat}
theorem retI (X : Stand p l e R s m args below meth c T locs cells slots) (hx : p.tables.exec = Jvm.exec) {pc : Nat} {Ls : Array Slot} {z : Int32} {rest : List Value} (hret : meth.sig.returnType = some .int) (hd : decode c.code pc = .ok (.ireturn, 1)) {fs : List Frame}
    (hl : ∀ (f : JFrame) (acts : List Action), f.method = m → f.locked = none → f.entered = [] → (doReturn e (T.setTop f) acts (some (.int z))).1 = T.setFrames fs) : Steps p.tables e below (T.setTop (mkF m pc Ls (.int z :: rest))) (T.setFrames fs) := by
  have hm' : T.vm.method? m = some meth := X.method'
  have hn : narrow .int (.int z) = .int z := rfl
  show Steps p.tables e below (T.setTop { method := m, pc := pc, locals := Ls, stack := _ :: rest, locked := none }) _
  jvm_step X.here [X.here.top, hx, hd, hm', hret, hn]
  first | (intro acts; rw [hl _ acts rfl rfl rfl]) | rw [hl _ _ rfl rfl rfl]
  exact Steps.refl _
end New
end Jvm.RoadKit
namespace Jvm.Pilot.@@N@@
open Jvm Jvm.ClassFile Sem Op Lib Jvm.Free Jvm.Stand Jvm.LawKit Jvm.RoadKit Bundle Jvm.Pilot.@@N@@.Jvm.D
theorem d1_0 : decode prog_106_method_2_code 0 = .ok (.iload_n 0, 1) := by decide +kernel
theorem d1_1 : decode prog_106_method_2_code 1 = .ok (.bipush 32, 2) := by decide +kernel
theorem d1_3 : decode prog_106_method_2_code 3 = .ok (.if_icmp .eq 21, 3) := by decide +kernel
theorem d1_6 : decode prog_106_method_2_code 6 = .ok (.iload_n 0, 1) := by decide +kernel
theorem d1_7 : decode prog_106_method_2_code 7 = .ok (.bipush 9, 2) := by decide +kernel
theorem d1_9 : decode prog_106_method_2_code 9 = .ok (.if_icmp .eq 15, 3) := by decide +kernel
theorem d1_12 : decode prog_106_method_2_code 12 = .ok (.iload_n 0, 1) := by decide +kernel
theorem d1_13 : decode prog_106_method_2_code 13 = .ok (.bipush 13, 2) := by decide +kernel
theorem d1_15 : decode prog_106_method_2_code 15 = .ok (.if_icmp .eq 9, 3) := by decide +kernel
theorem d1_18 : decode prog_106_method_2_code 18 = .ok (.iload_n 0, 1) := by decide +kernel
theorem d1_19 : decode prog_106_method_2_code 19 = .ok (.bipush 10, 2) := by decide +kernel
theorem d1_21 : decode prog_106_method_2_code 21 = .ok (.if_icmp .ne 7, 3) := by decide +kernel
theorem d1_24 : decode prog_106_method_2_code 24 = .ok (.iconst 1, 1) := by decide +kernel
theorem d1_25 : decode prog_106_method_2_code 25 = .ok (.goto 4, 3) := by decide +kernel
theorem d1_28 : decode prog_106_method_2_code 28 = .ok (.iconst 0, 1) := by decide +kernel
theorem d1_29 : decode prog_106_method_2_code 29 = .ok (.ireturn, 1) := by decide +kernel
theorem pn_1 : plainName "com/example/idem/idem/XmlWhiteSpace" = true := by first | (simp [plainName, overriddenIn]; done) | decide +kernel
theorem ef_1 (m : MethodId) (x0 : Int32) : entryFrame m #[(.int x0)] 1 = mkF m 0 #[.val (.int x0)] [] := by first | (simp [entryFrame, mkF, argsToLocals, Value.category]; done) | rfl
def own_F1 (p1 : Int32) : Int32 := if p1 = (32 : Int32) then (1 : Int32) else if p1 = (9 : Int32) then (1 : Int32) else if p1 = (13 : Int32) then (1 : Int32) else if p1 = (10 : Int32) then (1 : Int32) else (0 : Int32)
def Q1 (Z : State) (p1 : Int32) (h0 : Heap) (n0 : Nat) (v : Option Value) (h : Heap) (L : List Loc) : Prop := v = some (.int (own_F1 p1)) ∧ Fr n0 L ∧ h = h0
set_option maxRecDepth 65536 in
set_option maxHeartbeats 40000000 in
theorem rm1 (l : Launch) (Z : State) (a0 : Array Value) (hw : ∀ d ∈ tables_1, d.before a0 Z = true) (ws : List Jvm.Cond) (p1 : Int32) (h0 : Heap) (n0 : Nat) (Z0 : n0 ≤ h0.size) :
    MetFree l (⟨"com/example/idem/idem/XmlWhiteSpace", "is", "(I)Z"⟩ : MethodName) (head1 (Jvm.Cond.code (⟨"com/example/idem/idem/XmlWhiteSpace", "is", "(I)Z"⟩ : MethodName) prog_106_method_2_code 1 (some .boolean) :: ws) ({ frames := 0, cells := 0, slots := 0, locals := 0 } : Room)) (fun a U => a = #[(.int p1)] ∧ Z.Warmed39 U.vm ∧ U.heap = h0) (fun _ _ _ _ _ => True) (fun _ U o U' => ∃ v L, o = .returned v ∧ Q1 Z p1 h0 n0 v U'.heap L ∧ FrameEnd U o U' L ({ frames := 0, cells := 0, slots := 0, locals := 0 } : Room).cells ({ frames := 0, cells := 0, slots := 0, locals := 0 } : Room).slots) := by
  refine MetFree.of_bodySF (plainFor_of_name pn_1) hisR ?_
  intro p e s m args below meth c s₁ Bd hml0 hP hK
  obtain ⟨rfl, hZ, hh⟩ := hP
  have hx := Bd.exec
  have hby := Bd.bytes
  have hml : c.maxLocals = 1 := hml0
  have hown : s.vm.findClass "com/example/idem/idem/XmlWhiteSpace" = some m.cls := findClass_of_methodNamed Bd.named
  have hnm := (name_of_methodNamed Bd.named Bd.method).1
  have X0 : Stand p l e ({ frames := 0, cells := 0, slots := 0, locals := 0 } : Room) s m #[(.int p1)] below meth c s₁ [] 0 0 := Stand.of_body Bd
  have e0 : s₁.heap = h0 := by rw [← hh, Bd.state]; rfl
  have N0 := Fr.nil n0
  have pre0 : ∀ t, Steps p.tables e below (s₁.setTop (mkF m 0 #[.val (.int p1)] [])) t → Steps p.tables e below (s₁.setTop (entryFrame m #[(.int p1)] 1)) t := fun t k => castTop (ef_1 m p1) k
  have pre1 : ∀ t, Steps p.tables e below (s₁.setTop (mkF m 3 #[.val (.int p1)] [(.int (32 : Int32)), (.int p1)])) t → Steps p.tables e below (s₁.setTop (entryFrame m #[(.int p1)] 1)) t := by
    intro t kt
    refine pre0 _ ?_
    show Steps p.tables e below (s₁.setTop (mkF m 0 #[.val (.int p1)] [])) _
    refine XS.iloadN X0.here hx rfl (hb hby d1_0) rfl ?_
    show Steps p.tables e below (s₁.setTop (mkF m 1 #[.val (.int p1)] [(.int p1)])) _
    refine XS.bipush X0.here hx rfl (hb hby d1_1) ?_
    exact kt
  by_cases hc3_2 : p1 = (32 : Int32)
  · have pre3 : ∀ t, Steps p.tables e below (s₁.setTop (mkF m 29 #[.val (.int p1)] [(.int (1 : Int32))])) t → Steps p.tables e below (s₁.setTop (entryFrame m #[(.int p1)] 1)) t := by
      intro t kt
      refine pre1 _ ?_
      show Steps p.tables e below (s₁.setTop (mkF m 3 #[.val (.int p1)] [(.int (32 : Int32)), (.int p1)])) _
      refine XS.icmpYes X0.here hx rfl (pc0 := 3) (pc' := 24) rfl (hb hby d1_3) rfl (teq hc3_2).1 (by decide) (by decide) ?_
      show Steps p.tables e below (s₁.setTop (mkF m 24 #[.val (.int p1)] [])) _
      refine XS.iconst X0.here hx rfl (hb hby d1_24) ?_
      show Steps p.tables e below (s₁.setTop (mkF m 25 #[.val (.int p1)] [(.int (1 : Int32))])) _
      refine XS.goto X0.here hx rfl (pc0 := 25) (pc' := 29) rfl (hb hby d1_25) (by decide) (by decide) ?_
      exact kt
    obtain ⟨fs, hr, hrun, hended, hW, hsame⟩ := X0.leave (v := some (.int (1 : Int32))) (fun h => by rw [Bd.returns] at h; cases h)
    refine ⟨_, _, pre3 _ ?_, hrun, hended, _, _, rfl, ?_, ⟨_, rfl⟩, hW, hsame.mono (by decide) (by decide)⟩
    · show Steps p.tables e below (s₁.setTop (mkF m 29 #[.val (.int p1)] [(.int (1 : Int32))])) _
      exact retN X0 hx (t := .boolean) Bd.returns (by simp) (hb hby d1_29) hr
    · show Q1 Z p1 h0 n0 _ s₁.heap _
      rw [e0]
      exact ⟨(by rw [own_F1, if_pos hc3_2]), N0, rfl⟩
  · have pre4 : ∀ t, Steps p.tables e below (s₁.setTop (mkF m 9 #[.val (.int p1)] [(.int (9 : Int32)), (.int p1)])) t → Steps p.tables e below (s₁.setTop (entryFrame m #[(.int p1)] 1)) t := by
      intro t kt
      refine pre1 _ ?_
      show Steps p.tables e below (s₁.setTop (mkF m 3 #[.val (.int p1)] [(.int (32 : Int32)), (.int p1)])) _
      refine XS.icmpNo X0.here hx rfl (hb hby d1_3) rfl (feq hc3_2).1 ?_
      show Steps p.tables e below (s₁.setTop (mkF m 6 #[.val (.int p1)] [])) _
      refine XS.iloadN X0.here hx rfl (hb hby d1_6) rfl ?_
      show Steps p.tables e below (s₁.setTop (mkF m 7 #[.val (.int p1)] [(.int p1)])) _
      refine XS.bipush X0.here hx rfl (hb hby d1_7) ?_
      exact kt
    by_cases hc9_5 : p1 = (9 : Int32)
    · have pre6 : ∀ t, Steps p.tables e below (s₁.setTop (mkF m 29 #[.val (.int p1)] [(.int (1 : Int32))])) t → Steps p.tables e below (s₁.setTop (entryFrame m #[(.int p1)] 1)) t := by
        intro t kt
        refine pre4 _ ?_
        show Steps p.tables e below (s₁.setTop (mkF m 9 #[.val (.int p1)] [(.int (9 : Int32)), (.int p1)])) _
        refine XS.icmpYes X0.here hx rfl (pc0 := 9) (pc' := 24) rfl (hb hby d1_9) rfl (teq hc9_5).1 (by decide) (by decide) ?_
        show Steps p.tables e below (s₁.setTop (mkF m 24 #[.val (.int p1)] [])) _
        refine XS.iconst X0.here hx rfl (hb hby d1_24) ?_
        show Steps p.tables e below (s₁.setTop (mkF m 25 #[.val (.int p1)] [(.int (1 : Int32))])) _
        refine XS.goto X0.here hx rfl (pc0 := 25) (pc' := 29) rfl (hb hby d1_25) (by decide) (by decide) ?_
        exact kt
      obtain ⟨fs, hr, hrun, hended, hW, hsame⟩ := X0.leave (v := some (.int (1 : Int32))) (fun h => by rw [Bd.returns] at h; cases h)
      refine ⟨_, _, pre6 _ ?_, hrun, hended, _, _, rfl, ?_, ⟨_, rfl⟩, hW, hsame.mono (by decide) (by decide)⟩
      · show Steps p.tables e below (s₁.setTop (mkF m 29 #[.val (.int p1)] [(.int (1 : Int32))])) _
        exact retN X0 hx (t := .boolean) Bd.returns (by simp) (hb hby d1_29) hr
      · show Q1 Z p1 h0 n0 _ s₁.heap _
        rw [e0]
        exact ⟨(by rw [own_F1, if_neg hc3_2, if_pos hc9_5]), N0, rfl⟩
    · have pre7 : ∀ t, Steps p.tables e below (s₁.setTop (mkF m 15 #[.val (.int p1)] [(.int (13 : Int32)), (.int p1)])) t → Steps p.tables e below (s₁.setTop (entryFrame m #[(.int p1)] 1)) t := by
        intro t kt
        refine pre4 _ ?_
        show Steps p.tables e below (s₁.setTop (mkF m 9 #[.val (.int p1)] [(.int (9 : Int32)), (.int p1)])) _
        refine XS.icmpNo X0.here hx rfl (hb hby d1_9) rfl (feq hc9_5).1 ?_
        show Steps p.tables e below (s₁.setTop (mkF m 12 #[.val (.int p1)] [])) _
        refine XS.iloadN X0.here hx rfl (hb hby d1_12) rfl ?_
        show Steps p.tables e below (s₁.setTop (mkF m 13 #[.val (.int p1)] [(.int p1)])) _
        refine XS.bipush X0.here hx rfl (hb hby d1_13) ?_
        exact kt
      by_cases hc15_8 : p1 = (13 : Int32)
      · have pre9 : ∀ t, Steps p.tables e below (s₁.setTop (mkF m 29 #[.val (.int p1)] [(.int (1 : Int32))])) t → Steps p.tables e below (s₁.setTop (entryFrame m #[(.int p1)] 1)) t := by
          intro t kt
          refine pre7 _ ?_
          show Steps p.tables e below (s₁.setTop (mkF m 15 #[.val (.int p1)] [(.int (13 : Int32)), (.int p1)])) _
          refine XS.icmpYes X0.here hx rfl (pc0 := 15) (pc' := 24) rfl (hb hby d1_15) rfl (teq hc15_8).1 (by decide) (by decide) ?_
          show Steps p.tables e below (s₁.setTop (mkF m 24 #[.val (.int p1)] [])) _
          refine XS.iconst X0.here hx rfl (hb hby d1_24) ?_
          show Steps p.tables e below (s₁.setTop (mkF m 25 #[.val (.int p1)] [(.int (1 : Int32))])) _
          refine XS.goto X0.here hx rfl (pc0 := 25) (pc' := 29) rfl (hb hby d1_25) (by decide) (by decide) ?_
          exact kt
        obtain ⟨fs, hr, hrun, hended, hW, hsame⟩ := X0.leave (v := some (.int (1 : Int32))) (fun h => by rw [Bd.returns] at h; cases h)
        refine ⟨_, _, pre9 _ ?_, hrun, hended, _, _, rfl, ?_, ⟨_, rfl⟩, hW, hsame.mono (by decide) (by decide)⟩
        · show Steps p.tables e below (s₁.setTop (mkF m 29 #[.val (.int p1)] [(.int (1 : Int32))])) _
          exact retN X0 hx (t := .boolean) Bd.returns (by simp) (hb hby d1_29) hr
        · show Q1 Z p1 h0 n0 _ s₁.heap _
          rw [e0]
          exact ⟨(by rw [own_F1, if_neg hc3_2, if_neg hc9_5, if_pos hc15_8]), N0, rfl⟩
      · have pre10 : ∀ t, Steps p.tables e below (s₁.setTop (mkF m 21 #[.val (.int p1)] [(.int (10 : Int32)), (.int p1)])) t → Steps p.tables e below (s₁.setTop (entryFrame m #[(.int p1)] 1)) t := by
          intro t kt
          refine pre7 _ ?_
          show Steps p.tables e below (s₁.setTop (mkF m 15 #[.val (.int p1)] [(.int (13 : Int32)), (.int p1)])) _
          refine XS.icmpNo X0.here hx rfl (hb hby d1_15) rfl (feq hc15_8).1 ?_
          show Steps p.tables e below (s₁.setTop (mkF m 18 #[.val (.int p1)] [])) _
          refine XS.iloadN X0.here hx rfl (hb hby d1_18) rfl ?_
          show Steps p.tables e below (s₁.setTop (mkF m 19 #[.val (.int p1)] [(.int p1)])) _
          refine XS.bipush X0.here hx rfl (hb hby d1_19) ?_
          exact kt
        by_cases hc21_11 : p1 = (10 : Int32)
        · have pre12 : ∀ t, Steps p.tables e below (s₁.setTop (mkF m 29 #[.val (.int p1)] [(.int (1 : Int32))])) t → Steps p.tables e below (s₁.setTop (entryFrame m #[(.int p1)] 1)) t := by
            intro t kt
            refine pre10 _ ?_
            show Steps p.tables e below (s₁.setTop (mkF m 21 #[.val (.int p1)] [(.int (10 : Int32)), (.int p1)])) _
            refine XS.icmpNo X0.here hx rfl (hb hby d1_21) rfl (teq hc21_11).2 ?_
            show Steps p.tables e below (s₁.setTop (mkF m 24 #[.val (.int p1)] [])) _
            refine XS.iconst X0.here hx rfl (hb hby d1_24) ?_
            show Steps p.tables e below (s₁.setTop (mkF m 25 #[.val (.int p1)] [(.int (1 : Int32))])) _
            refine XS.goto X0.here hx rfl (pc0 := 25) (pc' := 29) rfl (hb hby d1_25) (by decide) (by decide) ?_
            exact kt
          obtain ⟨fs, hr, hrun, hended, hW, hsame⟩ := X0.leave (v := some (.int (1 : Int32))) (fun h => by rw [Bd.returns] at h; cases h)
          refine ⟨_, _, pre12 _ ?_, hrun, hended, _, _, rfl, ?_, ⟨_, rfl⟩, hW, hsame.mono (by decide) (by decide)⟩
          · show Steps p.tables e below (s₁.setTop (mkF m 29 #[.val (.int p1)] [(.int (1 : Int32))])) _
            exact retN X0 hx (t := .boolean) Bd.returns (by simp) (hb hby d1_29) hr
          · show Q1 Z p1 h0 n0 _ s₁.heap _
            rw [e0]
            exact ⟨(by rw [own_F1, if_neg hc3_2, if_neg hc9_5, if_neg hc15_8, if_pos hc21_11]), N0, rfl⟩
        · have pre13 : ∀ t, Steps p.tables e below (s₁.setTop (mkF m 29 #[.val (.int p1)] [(.int (0 : Int32))])) t → Steps p.tables e below (s₁.setTop (entryFrame m #[(.int p1)] 1)) t := by
            intro t kt
            refine pre10 _ ?_
            show Steps p.tables e below (s₁.setTop (mkF m 21 #[.val (.int p1)] [(.int (10 : Int32)), (.int p1)])) _
            refine XS.icmpYes X0.here hx rfl (pc0 := 21) (pc' := 28) rfl (hb hby d1_21) rfl (feq hc21_11).2 (by decide) (by decide) ?_
            show Steps p.tables e below (s₁.setTop (mkF m 28 #[.val (.int p1)] [])) _
            refine XS.iconst X0.here hx rfl (hb hby d1_28) ?_
            exact kt
          obtain ⟨fs, hr, hrun, hended, hW, hsame⟩ := X0.leave (v := some (.int (0 : Int32))) (fun h => by rw [Bd.returns] at h; cases h)
          refine ⟨_, _, pre13 _ ?_, hrun, hended, _, _, rfl, ?_, ⟨_, rfl⟩, hW, hsame.mono (by decide) (by decide)⟩
          · show Steps p.tables e below (s₁.setTop (mkF m 29 #[.val (.int p1)] [(.int (0 : Int32))])) _
            exact retN X0 hx (t := .boolean) Bd.returns (by simp) (hb hby d1_29) hr
          · show Q1 Z p1 h0 n0 _ s₁.heap _
            rw [e0]
            exact ⟨(by rw [own_F1, if_neg hc3_2, if_neg hc9_5, if_neg hc15_8, if_neg hc21_11]), N0, rfl⟩
theorem d2_0 : decode method_2_code 0 = .ok (.iload_n 0, 1) := by decide +kernel
theorem d2_1 : decode method_2_code 1 = .ok (.bipush 9, 2) := by decide +kernel
theorem d2_3 : decode method_2_code 3 = .ok (.if_icmp .ge 5, 3) := by decide +kernel
theorem d2_6 : decode method_2_code 6 = .ok (.iconst 0, 1) := by decide +kernel
theorem d2_7 : decode method_2_code 7 = .ok (.ireturn, 1) := by decide +kernel
theorem d2_8 : decode method_2_code 8 = .ok (.iload_n 0, 1) := by decide +kernel
theorem d2_9 : decode method_2_code 9 = .ok (.bipush 32, 2) := by decide +kernel
theorem d2_11 : decode method_2_code 11 = .ok (.if_icmp .le 5, 3) := by decide +kernel
theorem d2_14 : decode method_2_code 14 = .ok (.iconst 0, 1) := by decide +kernel
theorem d2_15 : decode method_2_code 15 = .ok (.ireturn, 1) := by decide +kernel
theorem d2_16 : decode method_2_code 16 = .ok (.iload_n 0, 1) := by decide +kernel
theorem d2_17 : decode method_2_code 17 = .ok (.bipush 10, 2) := by decide +kernel
theorem d2_19 : decode method_2_code 19 = .ok (.if_icmp .gt 5, 3) := by decide +kernel
theorem d2_22 : decode method_2_code 22 = .ok (.iconst 1, 1) := by decide +kernel
theorem d2_23 : decode method_2_code 23 = .ok (.ireturn, 1) := by decide +kernel
theorem d2_24 : decode method_2_code 24 = .ok (.iload_n 0, 1) := by decide +kernel
theorem d2_25 : decode method_2_code 25 = .ok (.bipush 13, 2) := by decide +kernel
theorem d2_27 : decode method_2_code 27 = .ok (.if_icmp .ne 5, 3) := by decide +kernel
theorem d2_30 : decode method_2_code 30 = .ok (.iconst 1, 1) := by decide +kernel
theorem d2_31 : decode method_2_code 31 = .ok (.ireturn, 1) := by decide +kernel
theorem d2_32 : decode method_2_code 32 = .ok (.iload_n 0, 1) := by decide +kernel
theorem d2_33 : decode method_2_code 33 = .ok (.bipush 32, 2) := by decide +kernel
theorem d2_35 : decode method_2_code 35 = .ok (.if_icmp .ne 7, 3) := by decide +kernel
theorem d2_38 : decode method_2_code 38 = .ok (.iconst 1, 1) := by decide +kernel
theorem d2_39 : decode method_2_code 39 = .ok (.goto 4, 3) := by decide +kernel
theorem d2_42 : decode method_2_code 42 = .ok (.iconst 0, 1) := by decide +kernel
theorem d2_43 : decode method_2_code 43 = .ok (.ireturn, 1) := by decide +kernel
theorem pn_2 : plainName "com/example/idem/idem/XmlWhiteSpaceIsPinLaw" = true := by first | (simp [plainName, overriddenIn]; done) | decide +kernel
theorem ef_2 (m : MethodId) (x0 : Int32) : entryFrame m #[(.int x0)] 1 = mkF m 0 #[.val (.int x0)] [] := by first | (simp [entryFrame, mkF, argsToLocals, Value.category]; done) | rfl
def own_F2 (p1 : Int32) : Int32 := if p1 < (9 : Int32) then (0 : Int32) else if (32 : Int32) < p1 then (0 : Int32) else if (10 : Int32) < p1 then if p1 = (13 : Int32) then (1 : Int32) else if p1 = (32 : Int32) then (1 : Int32) else (0 : Int32) else (1 : Int32)
def Q2 (Z : State) (p1 : Int32) (h0 : Heap) (n0 : Nat) (v : Option Value) (h : Heap) (L : List Loc) : Prop := v = some (.int (own_F2 p1)) ∧ Fr n0 L ∧ h = h0
set_option maxRecDepth 65536 in
set_option maxHeartbeats 40000000 in
theorem rm2 (l : Launch) (Z : State) (a0 : Array Value) (hw : ∀ d ∈ tables_1, d.before a0 Z = true) (ws : List Jvm.Cond) (p1 : Int32) (h0 : Heap) (n0 : Nat) (Z0 : n0 ≤ h0.size) :
    MetFree l (⟨"com/example/idem/idem/XmlWhiteSpaceIsPinLaw", "ref", "(I)Z"⟩ : MethodName) (head1 (Jvm.Cond.code (⟨"com/example/idem/idem/XmlWhiteSpaceIsPinLaw", "ref", "(I)Z"⟩ : MethodName) method_2_code 1 (some .boolean) :: ws) ({ frames := 0, cells := 0, slots := 0, locals := 0 } : Room)) (fun a U => a = #[(.int p1)] ∧ Z.Warmed39 U.vm ∧ U.heap = h0) (fun _ _ _ _ _ => True) (fun _ U o U' => ∃ v L, o = .returned v ∧ Q2 Z p1 h0 n0 v U'.heap L ∧ FrameEnd U o U' L ({ frames := 0, cells := 0, slots := 0, locals := 0 } : Room).cells ({ frames := 0, cells := 0, slots := 0, locals := 0 } : Room).slots) := by
  refine MetFree.of_bodySF (plainFor_of_name pn_2) hisR ?_
  intro p e s m args below meth c s₁ Bd hml0 hP hK
  obtain ⟨rfl, hZ, hh⟩ := hP
  have hx := Bd.exec
  have hby := Bd.bytes
  have hml : c.maxLocals = 1 := hml0
  have hown : s.vm.findClass "com/example/idem/idem/XmlWhiteSpaceIsPinLaw" = some m.cls := findClass_of_methodNamed Bd.named
  have hnm := (name_of_methodNamed Bd.named Bd.method).1
  have X0 : Stand p l e ({ frames := 0, cells := 0, slots := 0, locals := 0 } : Room) s m #[(.int p1)] below meth c s₁ [] 0 0 := Stand.of_body Bd
  have e0 : s₁.heap = h0 := by rw [← hh, Bd.state]; rfl
  have N0 := Fr.nil n0
  have pre0 : ∀ t, Steps p.tables e below (s₁.setTop (mkF m 0 #[.val (.int p1)] [])) t → Steps p.tables e below (s₁.setTop (entryFrame m #[(.int p1)] 1)) t := fun t k => castTop (ef_2 m p1) k
  have pre14 : ∀ t, Steps p.tables e below (s₁.setTop (mkF m 3 #[.val (.int p1)] [(.int (9 : Int32)), (.int p1)])) t → Steps p.tables e below (s₁.setTop (entryFrame m #[(.int p1)] 1)) t := by
    intro t kt
    refine pre0 _ ?_
    show Steps p.tables e below (s₁.setTop (mkF m 0 #[.val (.int p1)] [])) _
    refine XS.iloadN X0.here hx rfl (hb hby d2_0) rfl ?_
    show Steps p.tables e below (s₁.setTop (mkF m 1 #[.val (.int p1)] [(.int p1)])) _
    refine XS.bipush X0.here hx rfl (hb hby d2_1) ?_
    exact kt
  by_cases hc3_15 : p1 < (9 : Int32)
  · have pre16 : ∀ t, Steps p.tables e below (s₁.setTop (mkF m 7 #[.val (.int p1)] [(.int (0 : Int32))])) t → Steps p.tables e below (s₁.setTop (entryFrame m #[(.int p1)] 1)) t := by
      intro t kt
      refine pre14 _ ?_
      show Steps p.tables e below (s₁.setTop (mkF m 3 #[.val (.int p1)] [(.int (9 : Int32)), (.int p1)])) _
      refine XS.icmpNo X0.here hx rfl (hb hby d2_3) rfl (tlt hc3_15).2.1 ?_
      show Steps p.tables e below (s₁.setTop (mkF m 6 #[.val (.int p1)] [])) _
      refine XS.iconst X0.here hx rfl (hb hby d2_6) ?_
      exact kt
    obtain ⟨fs, hr, hrun, hended, hW, hsame⟩ := X0.leave (v := some (.int (0 : Int32))) (fun h => by rw [Bd.returns] at h; cases h)
    refine ⟨_, _, pre16 _ ?_, hrun, hended, _, _, rfl, ?_, ⟨_, rfl⟩, hW, hsame.mono (by decide) (by decide)⟩
    · show Steps p.tables e below (s₁.setTop (mkF m 7 #[.val (.int p1)] [(.int (0 : Int32))])) _
      exact retN X0 hx (t := .boolean) Bd.returns (by simp) (hb hby d2_7) hr
    · show Q2 Z p1 h0 n0 _ s₁.heap _
      rw [e0]
      exact ⟨(by rw [own_F2, if_pos hc3_15]), N0, rfl⟩
  · have pre17 : ∀ t, Steps p.tables e below (s₁.setTop (mkF m 11 #[.val (.int p1)] [(.int (32 : Int32)), (.int p1)])) t → Steps p.tables e below (s₁.setTop (entryFrame m #[(.int p1)] 1)) t := by
      intro t kt
      refine pre14 _ ?_
      show Steps p.tables e below (s₁.setTop (mkF m 3 #[.val (.int p1)] [(.int (9 : Int32)), (.int p1)])) _
      refine XS.icmpYes X0.here hx rfl (pc0 := 3) (pc' := 8) rfl (hb hby d2_3) rfl (flt hc3_15).2.1 (by decide) (by decide) ?_
      show Steps p.tables e below (s₁.setTop (mkF m 8 #[.val (.int p1)] [])) _
      refine XS.iloadN X0.here hx rfl (hb hby d2_8) rfl ?_
      show Steps p.tables e below (s₁.setTop (mkF m 9 #[.val (.int p1)] [(.int p1)])) _
      refine XS.bipush X0.here hx rfl (hb hby d2_9) ?_
      exact kt
    by_cases hc11_18 : (32 : Int32) < p1
    · have pre19 : ∀ t, Steps p.tables e below (s₁.setTop (mkF m 15 #[.val (.int p1)] [(.int (0 : Int32))])) t → Steps p.tables e below (s₁.setTop (entryFrame m #[(.int p1)] 1)) t := by
        intro t kt
        refine pre17 _ ?_
        show Steps p.tables e below (s₁.setTop (mkF m 11 #[.val (.int p1)] [(.int (32 : Int32)), (.int p1)])) _
        refine XS.icmpNo X0.here hx rfl (hb hby d2_11) rfl (tlt hc11_18).2.2.2 ?_
        show Steps p.tables e below (s₁.setTop (mkF m 14 #[.val (.int p1)] [])) _
        refine XS.iconst X0.here hx rfl (hb hby d2_14) ?_
        exact kt
      obtain ⟨fs, hr, hrun, hended, hW, hsame⟩ := X0.leave (v := some (.int (0 : Int32))) (fun h => by rw [Bd.returns] at h; cases h)
      refine ⟨_, _, pre19 _ ?_, hrun, hended, _, _, rfl, ?_, ⟨_, rfl⟩, hW, hsame.mono (by decide) (by decide)⟩
      · show Steps p.tables e below (s₁.setTop (mkF m 15 #[.val (.int p1)] [(.int (0 : Int32))])) _
        exact retN X0 hx (t := .boolean) Bd.returns (by simp) (hb hby d2_15) hr
      · show Q2 Z p1 h0 n0 _ s₁.heap _
        rw [e0]
        exact ⟨(by rw [own_F2, if_neg hc3_15, if_pos hc11_18]), N0, rfl⟩
    · have pre20 : ∀ t, Steps p.tables e below (s₁.setTop (mkF m 19 #[.val (.int p1)] [(.int (10 : Int32)), (.int p1)])) t → Steps p.tables e below (s₁.setTop (entryFrame m #[(.int p1)] 1)) t := by
        intro t kt
        refine pre17 _ ?_
        show Steps p.tables e below (s₁.setTop (mkF m 11 #[.val (.int p1)] [(.int (32 : Int32)), (.int p1)])) _
        refine XS.icmpYes X0.here hx rfl (pc0 := 11) (pc' := 16) rfl (hb hby d2_11) rfl (flt hc11_18).2.2.2 (by decide) (by decide) ?_
        show Steps p.tables e below (s₁.setTop (mkF m 16 #[.val (.int p1)] [])) _
        refine XS.iloadN X0.here hx rfl (hb hby d2_16) rfl ?_
        show Steps p.tables e below (s₁.setTop (mkF m 17 #[.val (.int p1)] [(.int p1)])) _
        refine XS.bipush X0.here hx rfl (hb hby d2_17) ?_
        exact kt
      by_cases hc19_21 : (10 : Int32) < p1
      · have pre22 : ∀ t, Steps p.tables e below (s₁.setTop (mkF m 27 #[.val (.int p1)] [(.int (13 : Int32)), (.int p1)])) t → Steps p.tables e below (s₁.setTop (entryFrame m #[(.int p1)] 1)) t := by
          intro t kt
          refine pre20 _ ?_
          show Steps p.tables e below (s₁.setTop (mkF m 19 #[.val (.int p1)] [(.int (10 : Int32)), (.int p1)])) _
          refine XS.icmpYes X0.here hx rfl (pc0 := 19) (pc' := 24) rfl (hb hby d2_19) rfl (tlt hc19_21).2.2.1 (by decide) (by decide) ?_
          show Steps p.tables e below (s₁.setTop (mkF m 24 #[.val (.int p1)] [])) _
          refine XS.iloadN X0.here hx rfl (hb hby d2_24) rfl ?_
          show Steps p.tables e below (s₁.setTop (mkF m 25 #[.val (.int p1)] [(.int p1)])) _
          refine XS.bipush X0.here hx rfl (hb hby d2_25) ?_
          exact kt
        by_cases hc27_23 : p1 = (13 : Int32)
        · have pre24 : ∀ t, Steps p.tables e below (s₁.setTop (mkF m 31 #[.val (.int p1)] [(.int (1 : Int32))])) t → Steps p.tables e below (s₁.setTop (entryFrame m #[(.int p1)] 1)) t := by
            intro t kt
            refine pre22 _ ?_
            show Steps p.tables e below (s₁.setTop (mkF m 27 #[.val (.int p1)] [(.int (13 : Int32)), (.int p1)])) _
            refine XS.icmpNo X0.here hx rfl (hb hby d2_27) rfl (teq hc27_23).2 ?_
            show Steps p.tables e below (s₁.setTop (mkF m 30 #[.val (.int p1)] [])) _
            refine XS.iconst X0.here hx rfl (hb hby d2_30) ?_
            exact kt
          obtain ⟨fs, hr, hrun, hended, hW, hsame⟩ := X0.leave (v := some (.int (1 : Int32))) (fun h => by rw [Bd.returns] at h; cases h)
          refine ⟨_, _, pre24 _ ?_, hrun, hended, _, _, rfl, ?_, ⟨_, rfl⟩, hW, hsame.mono (by decide) (by decide)⟩
          · show Steps p.tables e below (s₁.setTop (mkF m 31 #[.val (.int p1)] [(.int (1 : Int32))])) _
            exact retN X0 hx (t := .boolean) Bd.returns (by simp) (hb hby d2_31) hr
          · show Q2 Z p1 h0 n0 _ s₁.heap _
            rw [e0]
            exact ⟨(by rw [own_F2, if_neg hc3_15, if_neg hc11_18, if_pos hc19_21, if_pos hc27_23]), N0, rfl⟩
        · have pre25 : ∀ t, Steps p.tables e below (s₁.setTop (mkF m 35 #[.val (.int p1)] [(.int (32 : Int32)), (.int p1)])) t → Steps p.tables e below (s₁.setTop (entryFrame m #[(.int p1)] 1)) t := by
            intro t kt
            refine pre22 _ ?_
            show Steps p.tables e below (s₁.setTop (mkF m 27 #[.val (.int p1)] [(.int (13 : Int32)), (.int p1)])) _
            refine XS.icmpYes X0.here hx rfl (pc0 := 27) (pc' := 32) rfl (hb hby d2_27) rfl (feq hc27_23).2 (by decide) (by decide) ?_
            show Steps p.tables e below (s₁.setTop (mkF m 32 #[.val (.int p1)] [])) _
            refine XS.iloadN X0.here hx rfl (hb hby d2_32) rfl ?_
            show Steps p.tables e below (s₁.setTop (mkF m 33 #[.val (.int p1)] [(.int p1)])) _
            refine XS.bipush X0.here hx rfl (hb hby d2_33) ?_
            exact kt
          by_cases hc35_26 : p1 = (32 : Int32)
          · have pre27 : ∀ t, Steps p.tables e below (s₁.setTop (mkF m 43 #[.val (.int p1)] [(.int (1 : Int32))])) t → Steps p.tables e below (s₁.setTop (entryFrame m #[(.int p1)] 1)) t := by
              intro t kt
              refine pre25 _ ?_
              show Steps p.tables e below (s₁.setTop (mkF m 35 #[.val (.int p1)] [(.int (32 : Int32)), (.int p1)])) _
              refine XS.icmpNo X0.here hx rfl (hb hby d2_35) rfl (teq hc35_26).2 ?_
              show Steps p.tables e below (s₁.setTop (mkF m 38 #[.val (.int p1)] [])) _
              refine XS.iconst X0.here hx rfl (hb hby d2_38) ?_
              show Steps p.tables e below (s₁.setTop (mkF m 39 #[.val (.int p1)] [(.int (1 : Int32))])) _
              refine XS.goto X0.here hx rfl (pc0 := 39) (pc' := 43) rfl (hb hby d2_39) (by decide) (by decide) ?_
              exact kt
            obtain ⟨fs, hr, hrun, hended, hW, hsame⟩ := X0.leave (v := some (.int (1 : Int32))) (fun h => by rw [Bd.returns] at h; cases h)
            refine ⟨_, _, pre27 _ ?_, hrun, hended, _, _, rfl, ?_, ⟨_, rfl⟩, hW, hsame.mono (by decide) (by decide)⟩
            · show Steps p.tables e below (s₁.setTop (mkF m 43 #[.val (.int p1)] [(.int (1 : Int32))])) _
              exact retN X0 hx (t := .boolean) Bd.returns (by simp) (hb hby d2_43) hr
            · show Q2 Z p1 h0 n0 _ s₁.heap _
              rw [e0]
              exact ⟨(by rw [own_F2, if_neg hc3_15, if_neg hc11_18, if_pos hc19_21, if_neg hc27_23, if_pos hc35_26]), N0, rfl⟩
          · have pre28 : ∀ t, Steps p.tables e below (s₁.setTop (mkF m 43 #[.val (.int p1)] [(.int (0 : Int32))])) t → Steps p.tables e below (s₁.setTop (entryFrame m #[(.int p1)] 1)) t := by
              intro t kt
              refine pre25 _ ?_
              show Steps p.tables e below (s₁.setTop (mkF m 35 #[.val (.int p1)] [(.int (32 : Int32)), (.int p1)])) _
              refine XS.icmpYes X0.here hx rfl (pc0 := 35) (pc' := 42) rfl (hb hby d2_35) rfl (feq hc35_26).2 (by decide) (by decide) ?_
              show Steps p.tables e below (s₁.setTop (mkF m 42 #[.val (.int p1)] [])) _
              refine XS.iconst X0.here hx rfl (hb hby d2_42) ?_
              exact kt
            obtain ⟨fs, hr, hrun, hended, hW, hsame⟩ := X0.leave (v := some (.int (0 : Int32))) (fun h => by rw [Bd.returns] at h; cases h)
            refine ⟨_, _, pre28 _ ?_, hrun, hended, _, _, rfl, ?_, ⟨_, rfl⟩, hW, hsame.mono (by decide) (by decide)⟩
            · show Steps p.tables e below (s₁.setTop (mkF m 43 #[.val (.int p1)] [(.int (0 : Int32))])) _
              exact retN X0 hx (t := .boolean) Bd.returns (by simp) (hb hby d2_43) hr
            · show Q2 Z p1 h0 n0 _ s₁.heap _
              rw [e0]
              exact ⟨(by rw [own_F2, if_neg hc3_15, if_neg hc11_18, if_pos hc19_21, if_neg hc27_23, if_neg hc35_26]), N0, rfl⟩
      · have pre29 : ∀ t, Steps p.tables e below (s₁.setTop (mkF m 23 #[.val (.int p1)] [(.int (1 : Int32))])) t → Steps p.tables e below (s₁.setTop (entryFrame m #[(.int p1)] 1)) t := by
          intro t kt
          refine pre20 _ ?_
          show Steps p.tables e below (s₁.setTop (mkF m 19 #[.val (.int p1)] [(.int (10 : Int32)), (.int p1)])) _
          refine XS.icmpNo X0.here hx rfl (hb hby d2_19) rfl (flt hc19_21).2.2.1 ?_
          show Steps p.tables e below (s₁.setTop (mkF m 22 #[.val (.int p1)] [])) _
          refine XS.iconst X0.here hx rfl (hb hby d2_22) ?_
          exact kt
        obtain ⟨fs, hr, hrun, hended, hW, hsame⟩ := X0.leave (v := some (.int (1 : Int32))) (fun h => by rw [Bd.returns] at h; cases h)
        refine ⟨_, _, pre29 _ ?_, hrun, hended, _, _, rfl, ?_, ⟨_, rfl⟩, hW, hsame.mono (by decide) (by decide)⟩
        · show Steps p.tables e below (s₁.setTop (mkF m 23 #[.val (.int p1)] [(.int (1 : Int32))])) _
          exact retN X0 hx (t := .boolean) Bd.returns (by simp) (hb hby d2_23) hr
        · show Q2 Z p1 h0 n0 _ s₁.heap _
          rw [e0]
          exact ⟨(by rw [own_F2, if_neg hc3_15, if_neg hc11_18, if_neg hc19_21]), N0, rfl⟩
theorem own_12 (c : Int32) : own_F1 c = own_F2 c := by
  have e9 : (9 : Int32).toInt = 9 := rfl
  have e10 : (10 : Int32).toInt = 10 := rfl
  have e13 : (13 : Int32).toInt = 13 := rfl
  have e32 : (32 : Int32).toInt = 32 := rfl
  unfold own_F1 own_F2
  simp only [Int32.lt_iff_toInt_lt, ← Int32.toInt_inj, e9, e10, e13, e32]
  repeat' split
  all_goals first | rfl | omega
theorem pd_0 : parseMethodDescriptor "(I)Z" = some ⟨[.int], some .boolean⟩ := by decide +kernel
theorem pn_0 : plainName "com/example/idem/idem/XmlWhiteSpaceIsPinLaw" = true := by first | (simp [plainName, overriddenIn]; done) | decide +kernel
theorem ef_0 (m : MethodId) (x0 : Int32) (x1 : Int32) : entryFrame m #[(.int x0), (.int x1)] maxLocals = mkF m 0 #[.val (.int x0), .val (.int x1), .unset, .unset, .unset, .unset, .unset, .unset, .unset] [] := by first | (simp [entryFrame, mkF, argsToLocals, Value.category, maxLocals]; done) | rfl
def Q0 (Z : State) (p1 : Int32) (p2 : Int32) (h0 : Heap) (n0 : Nat) (v : Option Value) (h : Heap) (L : List Loc) : Prop := v = some (.int (1 : Int32)) ∧ Fr n0 L ∧ h = h0
set_option maxRecDepth 65536 in
set_option maxHeartbeats 40000000 in
theorem rm0 (l : Launch) (Z : State) (a0 : Array Value) (hw : ∀ d ∈ tables_1, d.before a0 Z = true) (ws : List Jvm.Cond) (p1 : Int32) (p2 : Int32) (h0 : Heap) (n0 : Nat) (Z0 : n0 ≤ h0.size) :
    MetFree l x (head1 (Jvm.Cond.code x code maxLocals ret :: ws) room_1) (fun a U => a = #[(.int p1), (.int p2)] ∧ Z.Warmed39 U.vm ∧ U.heap = h0) (fun _ _ _ _ _ => True) (fun _ U o U' => ∃ v L, o = .returned v ∧ Q0 Z p1 p2 h0 n0 v U'.heap L ∧ FrameEnd U o U' L room_1.cells room_1.slots) := by
  refine MetFree.of_bodySF (plainFor_of_name pn_0) hisR ?_
  intro p e s m args below meth c s₁ Bd hml0 hP hK
  obtain ⟨rfl, hZ, hh⟩ := hP
  have hx := Bd.exec
  have hby := Bd.bytes
  have hml : c.maxLocals = 9 := hml0
  have hown : s.vm.findClass "com/example/idem/idem/XmlWhiteSpaceIsPinLaw" = some m.cls := findClass_of_methodNamed Bd.named
  have hnm := (name_of_methodNamed Bd.named Bd.method).1
  have X0 : Stand p l e room_1 s m #[(.int p1), (.int p2)] below meth c s₁ [] 0 0 := Stand.of_body Bd
  have e0 : s₁.heap = h0 := by rw [← hh, Bd.state]; rfl
  have N0 := Fr.nil n0
  have pre0 : ∀ t, Steps p.tables e below (s₁.setTop (mkF m 0 #[.val (.int p1), .val (.int p2), .unset, .unset, .unset, .unset, .unset, .unset, .unset] [])) t → Steps p.tables e below (s₁.setTop (entryFrame m #[(.int p1), (.int p2)] maxLocals)) t := fun t k => castTop (ef_0 m p1 p2) k
  have pre30 : ∀ t, Steps p.tables e below (s₁.setTop (mkF m 10 #[.val (.int p1), .val (.int p2), .val (.int (p2 &&& (2147483647 : Int32))), .val (.int ((p2 &&& (2147483647 : Int32)) &&& (3 : Int32))), .unset, .unset, .unset, .unset, .unset] [(.int ((p2 &&& (2147483647 : Int32)) &&& (3 : Int32)))])) t → Steps p.tables e below (s₁.setTop (entryFrame m #[(.int p1), (.int p2)] maxLocals)) t := by
    intro t kt
    refine pre0 _ ?_
    show Steps p.tables e below (s₁.setTop (mkF m 0 #[.val (.int p1), .val (.int p2), .unset, .unset, .unset, .unset, .unset, .unset, .unset] [])) _
    refine XS.iloadN X0.here hx rfl (hb hby at_0) rfl ?_
    show Steps p.tables e below (s₁.setTop (mkF m 1 #[.val (.int p1), .val (.int p2), .unset, .unset, .unset, .unset, .unset, .unset, .unset] [(.int p2)])) _
    refine X0.ldcInt hx hown (mvT hZ (hw _ (List.mem_of_getElem? (i := 0) rfl))) (g := (mkF m 1 #[.val (.int p1), .val (.int p2), .unset, .unset, .unset, .unset, .unset, .unset, .unset] [(.int p2)])) rfl (hb hby at_1) _ ?_
    show Steps p.tables e below (s₁.setTop (mkF m 3 #[.val (.int p1), .val (.int p2), .unset, .unset, .unset, .unset, .unset, .unset, .unset] [(.int (2147483647 : Int32)), (.int p2)])) _
    refine XS.iand X0.here hx rfl (hb hby at_3) rfl ?_
    show Steps p.tables e below (s₁.setTop (mkF m 4 #[.val (.int p1), .val (.int p2), .unset, .unset, .unset, .unset, .unset, .unset, .unset] [(.int (p2 &&& (2147483647 : Int32)))])) _
    refine XS.istoreN X0.here hx rfl (hb hby at_4) rfl (l' := #[.val (.int p1), .val (.int p2), .val (.int (p2 &&& (2147483647 : Int32))), .unset, .unset, .unset, .unset, .unset, .unset]) rfl ?_
    show Steps p.tables e below (s₁.setTop (mkF m 5 #[.val (.int p1), .val (.int p2), .val (.int (p2 &&& (2147483647 : Int32))), .unset, .unset, .unset, .unset, .unset, .unset] [])) _
    refine XS.iloadN X0.here hx rfl (hb hby at_5) rfl ?_
    show Steps p.tables e below (s₁.setTop (mkF m 6 #[.val (.int p1), .val (.int p2), .val (.int (p2 &&& (2147483647 : Int32))), .unset, .unset, .unset, .unset, .unset, .unset] [(.int (p2 &&& (2147483647 : Int32)))])) _
    refine XS.iconst X0.here hx rfl (hb hby at_6) ?_
    show Steps p.tables e below (s₁.setTop (mkF m 7 #[.val (.int p1), .val (.int p2), .val (.int (p2 &&& (2147483647 : Int32))), .unset, .unset, .unset, .unset, .unset, .unset] [(.int (3 : Int32)), (.int (p2 &&& (2147483647 : Int32)))])) _
    refine XS.iand X0.here hx rfl (hb hby at_7) rfl ?_
    show Steps p.tables e below (s₁.setTop (mkF m 8 #[.val (.int p1), .val (.int p2), .val (.int (p2 &&& (2147483647 : Int32))), .unset, .unset, .unset, .unset, .unset, .unset] [(.int ((p2 &&& (2147483647 : Int32)) &&& (3 : Int32)))])) _
    refine XS.istoreN X0.here hx rfl (hb hby at_8) rfl (l' := #[.val (.int p1), .val (.int p2), .val (.int (p2 &&& (2147483647 : Int32))), .val (.int ((p2 &&& (2147483647 : Int32)) &&& (3 : Int32))), .unset, .unset, .unset, .unset, .unset]) rfl ?_
    show Steps p.tables e below (s₁.setTop (mkF m 9 #[.val (.int p1), .val (.int p2), .val (.int (p2 &&& (2147483647 : Int32))), .val (.int ((p2 &&& (2147483647 : Int32)) &&& (3 : Int32))), .unset, .unset, .unset, .unset, .unset] [])) _
    refine XS.iloadN X0.here hx rfl (hb hby at_9) rfl ?_
    exact kt
  by_cases hc10_31 : ((p2 &&& (2147483647 : Int32)) &&& (3 : Int32)) = (0 : Int32)
  · obtain ⟨_, _, ⟨T32, L32, k32, n32⟩, -, X32, ⟨Lc32, hQ32, l32, y32, z32⟩, st32⟩ := Jvm.LawKit.callS X0 hx (y := (⟨"com/example/idem/idem/XmlWhiteSpace", "is", "(I)Z"⟩ : MethodName)) hown (mvT hZ (hw _ (List.mem_of_getElem? (i := 1) rfl))) (mvT hZ (hw _ (List.mem_of_getElem? (i := 2) rfl))) (mvT hZ (hw _ (List.mem_of_getElem? (i := 3) rfl))) (mvT hZ (hw _ (List.mem_of_getElem? (i := 4) rfl))) (by decide) (backOf (W := 0) (rm1 l Z a0 hw [] p1 h0 n0 Z0) hZ (hw _ (List.mem_of_getElem? (i := 4) rfl)) (hw _ (List.mem_of_getElem? (i := 3) rfl)) (by decide) (by decide)) (g := (mkF m 65 #[.val (.int p1), .val (.int p2), .val (.int (p2 &&& (2147483647 : Int32))), .val (.int ((p2 &&& (2147483647 : Int32)) &&& (3 : Int32))), .val (.int (9 : Int32)), .val (.int (((((p2 &&& (2147483647 : Int32)).toUInt32 >>> ((2 : Int32) &&& 31).toUInt32).toInt32) % (5 : Int32)) - (2 : Int32))), .val (.int ((9 : Int32) + (((((p2 &&& (2147483647 : Int32)).toUInt32 >>> ((2 : Int32) &&& 31).toUInt32).toInt32) % (5 : Int32)) - (2 : Int32)))), .unset, .unset] [(.int p1)])) rfl (by rw [hml]; rfl) (argsL := [(.int p1)]) (rest := []) (lenOf pd_0 rfl) rfl (by show 2 * 0 + _ ≤ _; exact Nat.le_of_eq rfl) (hb hby at_65) (fun _ _ => ⟨rfl, e0, (by decide : 0 + 0 ≤ _), (by decide : 0 + 0 ≤ _)⟩)
    dsimp only [Pt.U, Pt.locs, Pt.cells, Pt.slots] at X32 l32 y32 z32 st32 hQ32
    subst l32 y32 z32
    obtain ⟨rfl, N32q, e32⟩ := hQ32
    have N32 := Fr.app N0 N32q
    obtain ⟨_, _, ⟨T33, L33, k33, n33⟩, -, X33, ⟨Lc33, hQ33, l33, y33, z33⟩, st33⟩ := Jvm.LawKit.callS X32 hx (y := (⟨"com/example/idem/idem/XmlWhiteSpaceIsPinLaw", "ref", "(I)Z"⟩ : MethodName)) hown (mvT hZ (hw _ (List.mem_of_getElem? (i := 5) rfl))) (mvT hZ (hw _ (List.mem_of_getElem? (i := 6) rfl))) (mvT hZ (hw _ (List.mem_of_getElem? (i := 7) rfl))) (mvT hZ (hw _ (List.mem_of_getElem? (i := 8) rfl))) (by decide) (backOf (W := 1) (rm2 l Z a0 hw [] p1 h0 n0 Z0) hZ (hw _ (List.mem_of_getElem? (i := 8) rfl)) (hw _ (List.mem_of_getElem? (i := 7) rfl)) (by decide) (by decide)) (g := (mkF m 69 #[.val (.int p1), .val (.int p2), .val (.int (p2 &&& (2147483647 : Int32))), .val (.int ((p2 &&& (2147483647 : Int32)) &&& (3 : Int32))), .val (.int (9 : Int32)), .val (.int (((((p2 &&& (2147483647 : Int32)).toUInt32 >>> ((2 : Int32) &&& 31).toUInt32).toInt32) % (5 : Int32)) - (2 : Int32))), .val (.int ((9 : Int32) + (((((p2 &&& (2147483647 : Int32)).toUInt32 >>> ((2 : Int32) &&& 31).toUInt32).toInt32) % (5 : Int32)) - (2 : Int32)))), .unset, .unset] [(.int p1), (.int (own_F1 p1))])) rfl (by rw [hml]; rfl) (argsL := [(.int p1)]) (rest := [(.int (own_F1 p1))]) (lenOf pd_0 rfl) rfl (by show 2 * 0 + _ ≤ _; exact Nat.le_of_eq rfl) (hb hby at_69) (fun _ _ => ⟨rfl, e32, (by decide : 0 + 0 ≤ _), (by decide : 0 + 0 ≤ _)⟩)
    dsimp only [Pt.U, Pt.locs, Pt.cells, Pt.slots] at X33 l33 y33 z33 st33 hQ33
    subst l33 y33 z33
    obtain ⟨rfl, N33q, e33⟩ := hQ33
    have N33 := Fr.app N32 N33q
    obtain ⟨_, _, ⟨T34, L34, k34, n34⟩, -, X34, ⟨Lc34, hQ34, l34, y34, z34⟩, st34⟩ := Jvm.LawKit.callS X33 hx (y := (⟨"com/example/idem/idem/XmlWhiteSpace", "is", "(I)Z"⟩ : MethodName)) hown (mvT hZ (hw _ (List.mem_of_getElem? (i := 1) rfl))) (mvT hZ (hw _ (List.mem_of_getElem? (i := 2) rfl))) (mvT hZ (hw _ (List.mem_of_getElem? (i := 3) rfl))) (mvT hZ (hw _ (List.mem_of_getElem? (i := 4) rfl))) (by decide) (backOf (W := 0) (rm1 l Z a0 hw [] ((9 : Int32) + (((((p2 &&& (2147483647 : Int32)).toUInt32 >>> ((2 : Int32) &&& 31).toUInt32).toInt32) % (5 : Int32)) - (2 : Int32))) h0 n0 Z0) hZ (hw _ (List.mem_of_getElem? (i := 4) rfl)) (hw _ (List.mem_of_getElem? (i := 3) rfl)) (by decide) (by decide)) (g := (mkF m 84 #[.val (.int p1), .val (.int p2), .val (.int (p2 &&& (2147483647 : Int32))), .val (.int ((p2 &&& (2147483647 : Int32)) &&& (3 : Int32))), .val (.int (9 : Int32)), .val (.int (((((p2 &&& (2147483647 : Int32)).toUInt32 >>> ((2 : Int32) &&& 31).toUInt32).toInt32) % (5 : Int32)) - (2 : Int32))), .val (.int ((9 : Int32) + (((((p2 &&& (2147483647 : Int32)).toUInt32 >>> ((2 : Int32) &&& 31).toUInt32).toInt32) % (5 : Int32)) - (2 : Int32)))), .val (.int (1 : Int32)), .unset] [(.int ((9 : Int32) + (((((p2 &&& (2147483647 : Int32)).toUInt32 >>> ((2 : Int32) &&& 31).toUInt32).toInt32) % (5 : Int32)) - (2 : Int32))))])) rfl (by rw [hml]; rfl) (argsL := [(.int ((9 : Int32) + (((((p2 &&& (2147483647 : Int32)).toUInt32 >>> ((2 : Int32) &&& 31).toUInt32).toInt32) % (5 : Int32)) - (2 : Int32))))]) (rest := []) (lenOf pd_0 rfl) rfl (by show 2 * 0 + _ ≤ _; exact Nat.le_of_eq rfl) (hb hby at_84) (fun _ _ => ⟨rfl, e33, (by decide : 0 + 0 ≤ _), (by decide : 0 + 0 ≤ _)⟩)
    dsimp only [Pt.U, Pt.locs, Pt.cells, Pt.slots] at X34 l34 y34 z34 st34 hQ34
    subst l34 y34 z34
    obtain ⟨rfl, N34q, e34⟩ := hQ34
    have N34 := Fr.app N33 N34q
    obtain ⟨_, _, ⟨T35, L35, k35, n35⟩, -, X35, ⟨Lc35, hQ35, l35, y35, z35⟩, st35⟩ := Jvm.LawKit.callS X34 hx (y := (⟨"com/example/idem/idem/XmlWhiteSpaceIsPinLaw", "ref", "(I)Z"⟩ : MethodName)) hown (mvT hZ (hw _ (List.mem_of_getElem? (i := 5) rfl))) (mvT hZ (hw _ (List.mem_of_getElem? (i := 6) rfl))) (mvT hZ (hw _ (List.mem_of_getElem? (i := 7) rfl))) (mvT hZ (hw _ (List.mem_of_getElem? (i := 8) rfl))) (by decide) (backOf (W := 1) (rm2 l Z a0 hw [] ((9 : Int32) + (((((p2 &&& (2147483647 : Int32)).toUInt32 >>> ((2 : Int32) &&& 31).toUInt32).toInt32) % (5 : Int32)) - (2 : Int32))) h0 n0 Z0) hZ (hw _ (List.mem_of_getElem? (i := 8) rfl)) (hw _ (List.mem_of_getElem? (i := 7) rfl)) (by decide) (by decide)) (g := (mkF m 89 #[.val (.int p1), .val (.int p2), .val (.int (p2 &&& (2147483647 : Int32))), .val (.int ((p2 &&& (2147483647 : Int32)) &&& (3 : Int32))), .val (.int (9 : Int32)), .val (.int (((((p2 &&& (2147483647 : Int32)).toUInt32 >>> ((2 : Int32) &&& 31).toUInt32).toInt32) % (5 : Int32)) - (2 : Int32))), .val (.int ((9 : Int32) + (((((p2 &&& (2147483647 : Int32)).toUInt32 >>> ((2 : Int32) &&& 31).toUInt32).toInt32) % (5 : Int32)) - (2 : Int32)))), .val (.int (1 : Int32)), .unset] [(.int ((9 : Int32) + (((((p2 &&& (2147483647 : Int32)).toUInt32 >>> ((2 : Int32) &&& 31).toUInt32).toInt32) % (5 : Int32)) - (2 : Int32)))), (.int (own_F1 ((9 : Int32) + (((((p2 &&& (2147483647 : Int32)).toUInt32 >>> ((2 : Int32) &&& 31).toUInt32).toInt32) % (5 : Int32)) - (2 : Int32)))))])) rfl (by rw [hml]; rfl) (argsL := [(.int ((9 : Int32) + (((((p2 &&& (2147483647 : Int32)).toUInt32 >>> ((2 : Int32) &&& 31).toUInt32).toInt32) % (5 : Int32)) - (2 : Int32))))]) (rest := [(.int (own_F1 ((9 : Int32) + (((((p2 &&& (2147483647 : Int32)).toUInt32 >>> ((2 : Int32) &&& 31).toUInt32).toInt32) % (5 : Int32)) - (2 : Int32)))))]) (lenOf pd_0 rfl) rfl (by show 2 * 0 + _ ≤ _; exact Nat.le_of_eq rfl) (hb hby at_89) (fun _ _ => ⟨rfl, e34, (by decide : 0 + 0 ≤ _), (by decide : 0 + 0 ≤ _)⟩)
    dsimp only [Pt.U, Pt.locs, Pt.cells, Pt.slots] at X35 l35 y35 z35 st35 hQ35
    subst l35 y35 z35
    obtain ⟨rfl, N35q, e35⟩ := hQ35
    have N35 := Fr.app N34 N35q
    have pre36 : ∀ t, Steps p.tables e below (T35.setTop (mkF m 117 #[.val (.int p1), .val (.int p2), .val (.int (p2 &&& (2147483647 : Int32))), .val (.int ((p2 &&& (2147483647 : Int32)) &&& (3 : Int32))), .val (.int (9 : Int32)), .val (.int (((((p2 &&& (2147483647 : Int32)).toUInt32 >>> ((2 : Int32) &&& 31).toUInt32).toInt32) % (5 : Int32)) - (2 : Int32))), .val (.int ((9 : Int32) + (((((p2 &&& (2147483647 : Int32)).toUInt32 >>> ((2 : Int32) &&& 31).toUInt32).toInt32) % (5 : Int32)) - (2 : Int32)))), .val (.int (1 : Int32)), .val (.int (1 : Int32))] [(.int (1 : Int32))])) t → Steps p.tables e below (s₁.setTop (entryFrame m #[(.int p1), (.int p2)] maxLocals)) t := by
      intro t kt
      refine pre30 _ ?_
      show Steps p.tables e below (s₁.setTop (mkF m 10 #[.val (.int p1), .val (.int p2), .val (.int (p2 &&& (2147483647 : Int32))), .val (.int ((p2 &&& (2147483647 : Int32)) &&& (3 : Int32))), .unset, .unset, .unset, .unset, .unset] [(.int ((p2 &&& (2147483647 : Int32)) &&& (3 : Int32)))])) _
      refine XS.ifNo X0.here hx rfl (hb hby at_10) rfl ((if0 _ _).trans (teq hc10_31).2) ?_
      show Steps p.tables e below (s₁.setTop (mkF m 13 #[.val (.int p1), .val (.int p2), .val (.int (p2 &&& (2147483647 : Int32))), .val (.int ((p2 &&& (2147483647 : Int32)) &&& (3 : Int32))), .unset, .unset, .unset, .unset, .unset] [])) _
      refine XS.bipush X0.here hx rfl (hb hby at_13) ?_
      show Steps p.tables e below (s₁.setTop (mkF m 15 #[.val (.int p1), .val (.int p2), .val (.int (p2 &&& (2147483647 : Int32))), .val (.int ((p2 &&& (2147483647 : Int32)) &&& (3 : Int32))), .unset, .unset, .unset, .unset, .unset] [(.int (9 : Int32))])) _
      refine XS.istore X0.here hx rfl (hb hby at_15) rfl (l' := #[.val (.int p1), .val (.int p2), .val (.int (p2 &&& (2147483647 : Int32))), .val (.int ((p2 &&& (2147483647 : Int32)) &&& (3 : Int32))), .val (.int (9 : Int32)), .unset, .unset, .unset, .unset]) rfl ?_
      show Steps p.tables e below (s₁.setTop (mkF m 17 #[.val (.int p1), .val (.int p2), .val (.int (p2 &&& (2147483647 : Int32))), .val (.int ((p2 &&& (2147483647 : Int32)) &&& (3 : Int32))), .val (.int (9 : Int32)), .unset, .unset, .unset, .unset] [])) _
      refine XS.goto X0.here hx rfl (pc0 := 17) (pc' := 48) rfl (hb hby at_17) (by decide) (by decide) ?_
      show Steps p.tables e below (s₁.setTop (mkF m 48 #[.val (.int p1), .val (.int p2), .val (.int (p2 &&& (2147483647 : Int32))), .val (.int ((p2 &&& (2147483647 : Int32)) &&& (3 : Int32))), .val (.int (9 : Int32)), .unset, .unset, .unset, .unset] [])) _
      refine XS.iloadN X0.here hx rfl (hb hby at_48) rfl ?_
      show Steps p.tables e below (s₁.setTop (mkF m 49 #[.val (.int p1), .val (.int p2), .val (.int (p2 &&& (2147483647 : Int32))), .val (.int ((p2 &&& (2147483647 : Int32)) &&& (3 : Int32))), .val (.int (9 : Int32)), .unset, .unset, .unset, .unset] [(.int (p2 &&& (2147483647 : Int32)))])) _
      refine XS.iconst X0.here hx rfl (hb hby at_49) ?_
      show Steps p.tables e below (s₁.setTop (mkF m 50 #[.val (.int p1), .val (.int p2), .val (.int (p2 &&& (2147483647 : Int32))), .val (.int ((p2 &&& (2147483647 : Int32)) &&& (3 : Int32))), .val (.int (9 : Int32)), .unset, .unset, .unset, .unset] [(.int (2 : Int32)), (.int (p2 &&& (2147483647 : Int32)))])) _
      refine XS.iushr X0.here hx rfl (hb hby at_50) rfl ?_
      show Steps p.tables e below (s₁.setTop (mkF m 51 #[.val (.int p1), .val (.int p2), .val (.int (p2 &&& (2147483647 : Int32))), .val (.int ((p2 &&& (2147483647 : Int32)) &&& (3 : Int32))), .val (.int (9 : Int32)), .unset, .unset, .unset, .unset] [(.int (((p2 &&& (2147483647 : Int32)).toUInt32 >>> ((2 : Int32) &&& 31).toUInt32).toInt32))])) _
      refine XS.iconst X0.here hx rfl (hb hby at_51) ?_
      show Steps p.tables e below (s₁.setTop (mkF m 52 #[.val (.int p1), .val (.int p2), .val (.int (p2 &&& (2147483647 : Int32))), .val (.int ((p2 &&& (2147483647 : Int32)) &&& (3 : Int32))), .val (.int (9 : Int32)), .unset, .unset, .unset, .unset] [(.int (5 : Int32)), (.int (((p2 &&& (2147483647 : Int32)).toUInt32 >>> ((2 : Int32) &&& 31).toUInt32).toInt32))])) _
      refine iremM X0 hx rfl (hb hby at_52) rfl (by decide) ?_
      show Steps p.tables e below (s₁.setTop (mkF m 53 #[.val (.int p1), .val (.int p2), .val (.int (p2 &&& (2147483647 : Int32))), .val (.int ((p2 &&& (2147483647 : Int32)) &&& (3 : Int32))), .val (.int (9 : Int32)), .unset, .unset, .unset, .unset] [(.int ((((p2 &&& (2147483647 : Int32)).toUInt32 >>> ((2 : Int32) &&& 31).toUInt32).toInt32) % (5 : Int32)))])) _
      refine XS.iconst X0.here hx rfl (hb hby at_53) ?_
      show Steps p.tables e below (s₁.setTop (mkF m 54 #[.val (.int p1), .val (.int p2), .val (.int (p2 &&& (2147483647 : Int32))), .val (.int ((p2 &&& (2147483647 : Int32)) &&& (3 : Int32))), .val (.int (9 : Int32)), .unset, .unset, .unset, .unset] [(.int (2 : Int32)), (.int ((((p2 &&& (2147483647 : Int32)).toUInt32 >>> ((2 : Int32) &&& 31).toUInt32).toInt32) % (5 : Int32)))])) _
      refine XS.isub X0.here hx rfl (hb hby at_54) rfl ?_
      show Steps p.tables e below (s₁.setTop (mkF m 55 #[.val (.int p1), .val (.int p2), .val (.int (p2 &&& (2147483647 : Int32))), .val (.int ((p2 &&& (2147483647 : Int32)) &&& (3 : Int32))), .val (.int (9 : Int32)), .unset, .unset, .unset, .unset] [(.int (((((p2 &&& (2147483647 : Int32)).toUInt32 >>> ((2 : Int32) &&& 31).toUInt32).toInt32) % (5 : Int32)) - (2 : Int32)))])) _
      refine XS.istore X0.here hx rfl (hb hby at_55) rfl (l' := #[.val (.int p1), .val (.int p2), .val (.int (p2 &&& (2147483647 : Int32))), .val (.int ((p2 &&& (2147483647 : Int32)) &&& (3 : Int32))), .val (.int (9 : Int32)), .val (.int (((((p2 &&& (2147483647 : Int32)).toUInt32 >>> ((2 : Int32) &&& 31).toUInt32).toInt32) % (5 : Int32)) - (2 : Int32))), .unset, .unset, .unset]) rfl ?_
      show Steps p.tables e below (s₁.setTop (mkF m 57 #[.val (.int p1), .val (.int p2), .val (.int (p2 &&& (2147483647 : Int32))), .val (.int ((p2 &&& (2147483647 : Int32)) &&& (3 : Int32))), .val (.int (9 : Int32)), .val (.int (((((p2 &&& (2147483647 : Int32)).toUInt32 >>> ((2 : Int32) &&& 31).toUInt32).toInt32) % (5 : Int32)) - (2 : Int32))), .unset, .unset, .unset] [])) _
      refine XS.iload X0.here hx rfl (hb hby at_57) rfl ?_
      show Steps p.tables e below (s₁.setTop (mkF m 59 #[.val (.int p1), .val (.int p2), .val (.int (p2 &&& (2147483647 : Int32))), .val (.int ((p2 &&& (2147483647 : Int32)) &&& (3 : Int32))), .val (.int (9 : Int32)), .val (.int (((((p2 &&& (2147483647 : Int32)).toUInt32 >>> ((2 : Int32) &&& 31).toUInt32).toInt32) % (5 : Int32)) - (2 : Int32))), .unset, .unset, .unset] [(.int (9 : Int32))])) _
      refine XS.iload X0.here hx rfl (hb hby at_59) rfl ?_
      show Steps p.tables e below (s₁.setTop (mkF m 61 #[.val (.int p1), .val (.int p2), .val (.int (p2 &&& (2147483647 : Int32))), .val (.int ((p2 &&& (2147483647 : Int32)) &&& (3 : Int32))), .val (.int (9 : Int32)), .val (.int (((((p2 &&& (2147483647 : Int32)).toUInt32 >>> ((2 : Int32) &&& 31).toUInt32).toInt32) % (5 : Int32)) - (2 : Int32))), .unset, .unset, .unset] [(.int (((((p2 &&& (2147483647 : Int32)).toUInt32 >>> ((2 : Int32) &&& 31).toUInt32).toInt32) % (5 : Int32)) - (2 : Int32))), (.int (9 : Int32))])) _
      refine XS.iadd X0.here hx rfl (hb hby at_61) rfl ?_
      show Steps p.tables e below (s₁.setTop (mkF m 62 #[.val (.int p1), .val (.int p2), .val (.int (p2 &&& (2147483647 : Int32))), .val (.int ((p2 &&& (2147483647 : Int32)) &&& (3 : Int32))), .val (.int (9 : Int32)), .val (.int (((((p2 &&& (2147483647 : Int32)).toUInt32 >>> ((2 : Int32) &&& 31).toUInt32).toInt32) % (5 : Int32)) - (2 : Int32))), .unset, .unset, .unset] [(.int ((9 : Int32) + (((((p2 &&& (2147483647 : Int32)).toUInt32 >>> ((2 : Int32) &&& 31).toUInt32).toInt32) % (5 : Int32)) - (2 : Int32))))])) _
      refine XS.istore X0.here hx rfl (hb hby at_62) rfl (l' := #[.val (.int p1), .val (.int p2), .val (.int (p2 &&& (2147483647 : Int32))), .val (.int ((p2 &&& (2147483647 : Int32)) &&& (3 : Int32))), .val (.int (9 : Int32)), .val (.int (((((p2 &&& (2147483647 : Int32)).toUInt32 >>> ((2 : Int32) &&& 31).toUInt32).toInt32) % (5 : Int32)) - (2 : Int32))), .val (.int ((9 : Int32) + (((((p2 &&& (2147483647 : Int32)).toUInt32 >>> ((2 : Int32) &&& 31).toUInt32).toInt32) % (5 : Int32)) - (2 : Int32)))), .unset, .unset]) rfl ?_
      show Steps p.tables e below (s₁.setTop (mkF m 64 #[.val (.int p1), .val (.int p2), .val (.int (p2 &&& (2147483647 : Int32))), .val (.int ((p2 &&& (2147483647 : Int32)) &&& (3 : Int32))), .val (.int (9 : Int32)), .val (.int (((((p2 &&& (2147483647 : Int32)).toUInt32 >>> ((2 : Int32) &&& 31).toUInt32).toInt32) % (5 : Int32)) - (2 : Int32))), .val (.int ((9 : Int32) + (((((p2 &&& (2147483647 : Int32)).toUInt32 >>> ((2 : Int32) &&& 31).toUInt32).toInt32) % (5 : Int32)) - (2 : Int32)))), .unset, .unset] [])) _
      refine XS.iloadN X0.here hx rfl (hb hby at_64) rfl ?_
      show Steps p.tables e below (s₁.setTop (mkF m 65 #[.val (.int p1), .val (.int p2), .val (.int (p2 &&& (2147483647 : Int32))), .val (.int ((p2 &&& (2147483647 : Int32)) &&& (3 : Int32))), .val (.int (9 : Int32)), .val (.int (((((p2 &&& (2147483647 : Int32)).toUInt32 >>> ((2 : Int32) &&& 31).toUInt32).toInt32) % (5 : Int32)) - (2 : Int32))), .val (.int ((9 : Int32) + (((((p2 &&& (2147483647 : Int32)).toUInt32 >>> ((2 : Int32) &&& 31).toUInt32).toInt32) % (5 : Int32)) - (2 : Int32)))), .unset, .unset] [(.int p1)])) _
      refine st32 _ ?_
      show Steps p.tables e below (T32.setTop (mkF m 68 #[.val (.int p1), .val (.int p2), .val (.int (p2 &&& (2147483647 : Int32))), .val (.int ((p2 &&& (2147483647 : Int32)) &&& (3 : Int32))), .val (.int (9 : Int32)), .val (.int (((((p2 &&& (2147483647 : Int32)).toUInt32 >>> ((2 : Int32) &&& 31).toUInt32).toInt32) % (5 : Int32)) - (2 : Int32))), .val (.int ((9 : Int32) + (((((p2 &&& (2147483647 : Int32)).toUInt32 >>> ((2 : Int32) &&& 31).toUInt32).toInt32) % (5 : Int32)) - (2 : Int32)))), .unset, .unset] [(.int (own_F1 p1))])) _
      refine XS.iloadN X32.here hx rfl (hb hby at_68) rfl ?_
      show Steps p.tables e below (T32.setTop (mkF m 69 #[.val (.int p1), .val (.int p2), .val (.int (p2 &&& (2147483647 : Int32))), .val (.int ((p2 &&& (2147483647 : Int32)) &&& (3 : Int32))), .val (.int (9 : Int32)), .val (.int (((((p2 &&& (2147483647 : Int32)).toUInt32 >>> ((2 : Int32) &&& 31).toUInt32).toInt32) % (5 : Int32)) - (2 : Int32))), .val (.int ((9 : Int32) + (((((p2 &&& (2147483647 : Int32)).toUInt32 >>> ((2 : Int32) &&& 31).toUInt32).toInt32) % (5 : Int32)) - (2 : Int32)))), .unset, .unset] [(.int p1), (.int (own_F1 p1))])) _
      refine st33 _ ?_
      show Steps p.tables e below (T33.setTop (mkF m 72 #[.val (.int p1), .val (.int p2), .val (.int (p2 &&& (2147483647 : Int32))), .val (.int ((p2 &&& (2147483647 : Int32)) &&& (3 : Int32))), .val (.int (9 : Int32)), .val (.int (((((p2 &&& (2147483647 : Int32)).toUInt32 >>> ((2 : Int32) &&& 31).toUInt32).toInt32) % (5 : Int32)) - (2 : Int32))), .val (.int ((9 : Int32) + (((((p2 &&& (2147483647 : Int32)).toUInt32 >>> ((2 : Int32) &&& 31).toUInt32).toInt32) % (5 : Int32)) - (2 : Int32)))), .unset, .unset] [(.int (own_F2 p1)), (.int (own_F1 p1))])) _
      refine XS.icmpNo X33.here hx rfl (hb hby at_72) rfl (teq ((own_12 _) : (own_F1 p1) = (own_F2 p1))).2 ?_
      show Steps p.tables e below (T33.setTop (mkF m 75 #[.val (.int p1), .val (.int p2), .val (.int (p2 &&& (2147483647 : Int32))), .val (.int ((p2 &&& (2147483647 : Int32)) &&& (3 : Int32))), .val (.int (9 : Int32)), .val (.int (((((p2 &&& (2147483647 : Int32)).toUInt32 >>> ((2 : Int32) &&& 31).toUInt32).toInt32) % (5 : Int32)) - (2 : Int32))), .val (.int ((9 : Int32) + (((((p2 &&& (2147483647 : Int32)).toUInt32 >>> ((2 : Int32) &&& 31).toUInt32).toInt32) % (5 : Int32)) - (2 : Int32)))), .unset, .unset] [])) _
      refine XS.iconst X33.here hx rfl (hb hby at_75) ?_
      show Steps p.tables e below (T33.setTop (mkF m 76 #[.val (.int p1), .val (.int p2), .val (.int (p2 &&& (2147483647 : Int32))), .val (.int ((p2 &&& (2147483647 : Int32)) &&& (3 : Int32))), .val (.int (9 : Int32)), .val (.int (((((p2 &&& (2147483647 : Int32)).toUInt32 >>> ((2 : Int32) &&& 31).toUInt32).toInt32) % (5 : Int32)) - (2 : Int32))), .val (.int ((9 : Int32) + (((((p2 &&& (2147483647 : Int32)).toUInt32 >>> ((2 : Int32) &&& 31).toUInt32).toInt32) % (5 : Int32)) - (2 : Int32)))), .unset, .unset] [(.int (1 : Int32))])) _
      refine XS.goto X33.here hx rfl (pc0 := 76) (pc' := 80) rfl (hb hby at_76) (by decide) (by decide) ?_
      show Steps p.tables e below (T33.setTop (mkF m 80 #[.val (.int p1), .val (.int p2), .val (.int (p2 &&& (2147483647 : Int32))), .val (.int ((p2 &&& (2147483647 : Int32)) &&& (3 : Int32))), .val (.int (9 : Int32)), .val (.int (((((p2 &&& (2147483647 : Int32)).toUInt32 >>> ((2 : Int32) &&& 31).toUInt32).toInt32) % (5 : Int32)) - (2 : Int32))), .val (.int ((9 : Int32) + (((((p2 &&& (2147483647 : Int32)).toUInt32 >>> ((2 : Int32) &&& 31).toUInt32).toInt32) % (5 : Int32)) - (2 : Int32)))), .unset, .unset] [(.int (1 : Int32))])) _
      refine XS.istore X33.here hx rfl (hb hby at_80) rfl (l' := #[.val (.int p1), .val (.int p2), .val (.int (p2 &&& (2147483647 : Int32))), .val (.int ((p2 &&& (2147483647 : Int32)) &&& (3 : Int32))), .val (.int (9 : Int32)), .val (.int (((((p2 &&& (2147483647 : Int32)).toUInt32 >>> ((2 : Int32) &&& 31).toUInt32).toInt32) % (5 : Int32)) - (2 : Int32))), .val (.int ((9 : Int32) + (((((p2 &&& (2147483647 : Int32)).toUInt32 >>> ((2 : Int32) &&& 31).toUInt32).toInt32) % (5 : Int32)) - (2 : Int32)))), .val (.int (1 : Int32)), .unset]) rfl ?_
      show Steps p.tables e below (T33.setTop (mkF m 82 #[.val (.int p1), .val (.int p2), .val (.int (p2 &&& (2147483647 : Int32))), .val (.int ((p2 &&& (2147483647 : Int32)) &&& (3 : Int32))), .val (.int (9 : Int32)), .val (.int (((((p2 &&& (2147483647 : Int32)).toUInt32 >>> ((2 : Int32) &&& 31).toUInt32).toInt32) % (5 : Int32)) - (2 : Int32))), .val (.int ((9 : Int32) + (((((p2 &&& (2147483647 : Int32)).toUInt32 >>> ((2 : Int32) &&& 31).toUInt32).toInt32) % (5 : Int32)) - (2 : Int32)))), .val (.int (1 : Int32)), .unset] [])) _
      refine XS.iload X33.here hx rfl (hb hby at_82) rfl ?_
      show Steps p.tables e below (T33.setTop (mkF m 84 #[.val (.int p1), .val (.int p2), .val (.int (p2 &&& (2147483647 : Int32))), .val (.int ((p2 &&& (2147483647 : Int32)) &&& (3 : Int32))), .val (.int (9 : Int32)), .val (.int (((((p2 &&& (2147483647 : Int32)).toUInt32 >>> ((2 : Int32) &&& 31).toUInt32).toInt32) % (5 : Int32)) - (2 : Int32))), .val (.int ((9 : Int32) + (((((p2 &&& (2147483647 : Int32)).toUInt32 >>> ((2 : Int32) &&& 31).toUInt32).toInt32) % (5 : Int32)) - (2 : Int32)))), .val (.int (1 : Int32)), .unset] [(.int ((9 : Int32) + (((((p2 &&& (2147483647 : Int32)).toUInt32 >>> ((2 : Int32) &&& 31).toUInt32).toInt32) % (5 : Int32)) - (2 : Int32))))])) _
      refine st34 _ ?_
      show Steps p.tables e below (T34.setTop (mkF m 87 #[.val (.int p1), .val (.int p2), .val (.int (p2 &&& (2147483647 : Int32))), .val (.int ((p2 &&& (2147483647 : Int32)) &&& (3 : Int32))), .val (.int (9 : Int32)), .val (.int (((((p2 &&& (2147483647 : Int32)).toUInt32 >>> ((2 : Int32) &&& 31).toUInt32).toInt32) % (5 : Int32)) - (2 : Int32))), .val (.int ((9 : Int32) + (((((p2 &&& (2147483647 : Int32)).toUInt32 >>> ((2 : Int32) &&& 31).toUInt32).toInt32) % (5 : Int32)) - (2 : Int32)))), .val (.int (1 : Int32)), .unset] [(.int (own_F1 ((9 : Int32) + (((((p2 &&& (2147483647 : Int32)).toUInt32 >>> ((2 : Int32) &&& 31).toUInt32).toInt32) % (5 : Int32)) - (2 : Int32)))))])) _
      refine XS.iload X34.here hx rfl (hb hby at_87) rfl ?_
      show Steps p.tables e below (T34.setTop (mkF m 89 #[.val (.int p1), .val (.int p2), .val (.int (p2 &&& (2147483647 : Int32))), .val (.int ((p2 &&& (2147483647 : Int32)) &&& (3 : Int32))), .val (.int (9 : Int32)), .val (.int (((((p2 &&& (2147483647 : Int32)).toUInt32 >>> ((2 : Int32) &&& 31).toUInt32).toInt32) % (5 : Int32)) - (2 : Int32))), .val (.int ((9 : Int32) + (((((p2 &&& (2147483647 : Int32)).toUInt32 >>> ((2 : Int32) &&& 31).toUInt32).toInt32) % (5 : Int32)) - (2 : Int32)))), .val (.int (1 : Int32)), .unset] [(.int ((9 : Int32) + (((((p2 &&& (2147483647 : Int32)).toUInt32 >>> ((2 : Int32) &&& 31).toUInt32).toInt32) % (5 : Int32)) - (2 : Int32)))), (.int (own_F1 ((9 : Int32) + (((((p2 &&& (2147483647 : Int32)).toUInt32 >>> ((2 : Int32) &&& 31).toUInt32).toInt32) % (5 : Int32)) - (2 : Int32)))))])) _
      refine st35 _ ?_
      show Steps p.tables e below (T35.setTop (mkF m 92 #[.val (.int p1), .val (.int p2), .val (.int (p2 &&& (2147483647 : Int32))), .val (.int ((p2 &&& (2147483647 : Int32)) &&& (3 : Int32))), .val (.int (9 : Int32)), .val (.int (((((p2 &&& (2147483647 : Int32)).toUInt32 >>> ((2 : Int32) &&& 31).toUInt32).toInt32) % (5 : Int32)) - (2 : Int32))), .val (.int ((9 : Int32) + (((((p2 &&& (2147483647 : Int32)).toUInt32 >>> ((2 : Int32) &&& 31).toUInt32).toInt32) % (5 : Int32)) - (2 : Int32)))), .val (.int (1 : Int32)), .unset] [(.int (own_F2 ((9 : Int32) + (((((p2 &&& (2147483647 : Int32)).toUInt32 >>> ((2 : Int32) &&& 31).toUInt32).toInt32) % (5 : Int32)) - (2 : Int32))))), (.int (own_F1 ((9 : Int32) + (((((p2 &&& (2147483647 : Int32)).toUInt32 >>> ((2 : Int32) &&& 31).toUInt32).toInt32) % (5 : Int32)) - (2 : Int32)))))])) _
      refine XS.icmpNo X35.here hx rfl (hb hby at_92) rfl (teq ((own_12 _) : (own_F1 ((9 : Int32) + (((((p2 &&& (2147483647 : Int32)).toUInt32 >>> ((2 : Int32) &&& 31).toUInt32).toInt32) % (5 : Int32)) - (2 : Int32)))) = (own_F2 ((9 : Int32) + (((((p2 &&& (2147483647 : Int32)).toUInt32 >>> ((2 : Int32) &&& 31).toUInt32).toInt32) % (5 : Int32)) - (2 : Int32)))))).2 ?_
      show Steps p.tables e below (T35.setTop (mkF m 95 #[.val (.int p1), .val (.int p2), .val (.int (p2 &&& (2147483647 : Int32))), .val (.int ((p2 &&& (2147483647 : Int32)) &&& (3 : Int32))), .val (.int (9 : Int32)), .val (.int (((((p2 &&& (2147483647 : Int32)).toUInt32 >>> ((2 : Int32) &&& 31).toUInt32).toInt32) % (5 : Int32)) - (2 : Int32))), .val (.int ((9 : Int32) + (((((p2 &&& (2147483647 : Int32)).toUInt32 >>> ((2 : Int32) &&& 31).toUInt32).toInt32) % (5 : Int32)) - (2 : Int32)))), .val (.int (1 : Int32)), .unset] [])) _
      refine XS.iconst X35.here hx rfl (hb hby at_95) ?_
      show Steps p.tables e below (T35.setTop (mkF m 96 #[.val (.int p1), .val (.int p2), .val (.int (p2 &&& (2147483647 : Int32))), .val (.int ((p2 &&& (2147483647 : Int32)) &&& (3 : Int32))), .val (.int (9 : Int32)), .val (.int (((((p2 &&& (2147483647 : Int32)).toUInt32 >>> ((2 : Int32) &&& 31).toUInt32).toInt32) % (5 : Int32)) - (2 : Int32))), .val (.int ((9 : Int32) + (((((p2 &&& (2147483647 : Int32)).toUInt32 >>> ((2 : Int32) &&& 31).toUInt32).toInt32) % (5 : Int32)) - (2 : Int32)))), .val (.int (1 : Int32)), .unset] [(.int (1 : Int32))])) _
      refine XS.goto X35.here hx rfl (pc0 := 96) (pc' := 100) rfl (hb hby at_96) (by decide) (by decide) ?_
      show Steps p.tables e below (T35.setTop (mkF m 100 #[.val (.int p1), .val (.int p2), .val (.int (p2 &&& (2147483647 : Int32))), .val (.int ((p2 &&& (2147483647 : Int32)) &&& (3 : Int32))), .val (.int (9 : Int32)), .val (.int (((((p2 &&& (2147483647 : Int32)).toUInt32 >>> ((2 : Int32) &&& 31).toUInt32).toInt32) % (5 : Int32)) - (2 : Int32))), .val (.int ((9 : Int32) + (((((p2 &&& (2147483647 : Int32)).toUInt32 >>> ((2 : Int32) &&& 31).toUInt32).toInt32) % (5 : Int32)) - (2 : Int32)))), .val (.int (1 : Int32)), .unset] [(.int (1 : Int32))])) _
      refine XS.istore X35.here hx rfl (hb hby at_100) rfl (l' := #[.val (.int p1), .val (.int p2), .val (.int (p2 &&& (2147483647 : Int32))), .val (.int ((p2 &&& (2147483647 : Int32)) &&& (3 : Int32))), .val (.int (9 : Int32)), .val (.int (((((p2 &&& (2147483647 : Int32)).toUInt32 >>> ((2 : Int32) &&& 31).toUInt32).toInt32) % (5 : Int32)) - (2 : Int32))), .val (.int ((9 : Int32) + (((((p2 &&& (2147483647 : Int32)).toUInt32 >>> ((2 : Int32) &&& 31).toUInt32).toInt32) % (5 : Int32)) - (2 : Int32)))), .val (.int (1 : Int32)), .val (.int (1 : Int32))]) rfl ?_
      show Steps p.tables e below (T35.setTop (mkF m 102 #[.val (.int p1), .val (.int p2), .val (.int (p2 &&& (2147483647 : Int32))), .val (.int ((p2 &&& (2147483647 : Int32)) &&& (3 : Int32))), .val (.int (9 : Int32)), .val (.int (((((p2 &&& (2147483647 : Int32)).toUInt32 >>> ((2 : Int32) &&& 31).toUInt32).toInt32) % (5 : Int32)) - (2 : Int32))), .val (.int ((9 : Int32) + (((((p2 &&& (2147483647 : Int32)).toUInt32 >>> ((2 : Int32) &&& 31).toUInt32).toInt32) % (5 : Int32)) - (2 : Int32)))), .val (.int (1 : Int32)), .val (.int (1 : Int32))] [])) _
      refine XS.iload X35.here hx rfl (hb hby at_102) rfl ?_
      show Steps p.tables e below (T35.setTop (mkF m 104 #[.val (.int p1), .val (.int p2), .val (.int (p2 &&& (2147483647 : Int32))), .val (.int ((p2 &&& (2147483647 : Int32)) &&& (3 : Int32))), .val (.int (9 : Int32)), .val (.int (((((p2 &&& (2147483647 : Int32)).toUInt32 >>> ((2 : Int32) &&& 31).toUInt32).toInt32) % (5 : Int32)) - (2 : Int32))), .val (.int ((9 : Int32) + (((((p2 &&& (2147483647 : Int32)).toUInt32 >>> ((2 : Int32) &&& 31).toUInt32).toInt32) % (5 : Int32)) - (2 : Int32)))), .val (.int (1 : Int32)), .val (.int (1 : Int32))] [(.int (1 : Int32))])) _
      refine XS.ifNo X35.here hx rfl (hb hby at_104) rfl ((if0 _ _).trans (feq (by decide : ¬ ((1 : Int32) = (0 : Int32)))).1) ?_
      show Steps p.tables e below (T35.setTop (mkF m 107 #[.val (.int p1), .val (.int p2), .val (.int (p2 &&& (2147483647 : Int32))), .val (.int ((p2 &&& (2147483647 : Int32)) &&& (3 : Int32))), .val (.int (9 : Int32)), .val (.int (((((p2 &&& (2147483647 : Int32)).toUInt32 >>> ((2 : Int32) &&& 31).toUInt32).toInt32) % (5 : Int32)) - (2 : Int32))), .val (.int ((9 : Int32) + (((((p2 &&& (2147483647 : Int32)).toUInt32 >>> ((2 : Int32) &&& 31).toUInt32).toInt32) % (5 : Int32)) - (2 : Int32)))), .val (.int (1 : Int32)), .val (.int (1 : Int32))] [])) _
      refine XS.iload X35.here hx rfl (hb hby at_107) rfl ?_
      show Steps p.tables e below (T35.setTop (mkF m 109 #[.val (.int p1), .val (.int p2), .val (.int (p2 &&& (2147483647 : Int32))), .val (.int ((p2 &&& (2147483647 : Int32)) &&& (3 : Int32))), .val (.int (9 : Int32)), .val (.int (((((p2 &&& (2147483647 : Int32)).toUInt32 >>> ((2 : Int32) &&& 31).toUInt32).toInt32) % (5 : Int32)) - (2 : Int32))), .val (.int ((9 : Int32) + (((((p2 &&& (2147483647 : Int32)).toUInt32 >>> ((2 : Int32) &&& 31).toUInt32).toInt32) % (5 : Int32)) - (2 : Int32)))), .val (.int (1 : Int32)), .val (.int (1 : Int32))] [(.int (1 : Int32))])) _
      refine XS.ifNo X35.here hx rfl (hb hby at_109) rfl ((if0 _ _).trans (feq (by decide : ¬ ((1 : Int32) = (0 : Int32)))).1) ?_
      show Steps p.tables e below (T35.setTop (mkF m 112 #[.val (.int p1), .val (.int p2), .val (.int (p2 &&& (2147483647 : Int32))), .val (.int ((p2 &&& (2147483647 : Int32)) &&& (3 : Int32))), .val (.int (9 : Int32)), .val (.int (((((p2 &&& (2147483647 : Int32)).toUInt32 >>> ((2 : Int32) &&& 31).toUInt32).toInt32) % (5 : Int32)) - (2 : Int32))), .val (.int ((9 : Int32) + (((((p2 &&& (2147483647 : Int32)).toUInt32 >>> ((2 : Int32) &&& 31).toUInt32).toInt32) % (5 : Int32)) - (2 : Int32)))), .val (.int (1 : Int32)), .val (.int (1 : Int32))] [])) _
      refine XS.iconst X35.here hx rfl (hb hby at_112) ?_
      show Steps p.tables e below (T35.setTop (mkF m 113 #[.val (.int p1), .val (.int p2), .val (.int (p2 &&& (2147483647 : Int32))), .val (.int ((p2 &&& (2147483647 : Int32)) &&& (3 : Int32))), .val (.int (9 : Int32)), .val (.int (((((p2 &&& (2147483647 : Int32)).toUInt32 >>> ((2 : Int32) &&& 31).toUInt32).toInt32) % (5 : Int32)) - (2 : Int32))), .val (.int ((9 : Int32) + (((((p2 &&& (2147483647 : Int32)).toUInt32 >>> ((2 : Int32) &&& 31).toUInt32).toInt32) % (5 : Int32)) - (2 : Int32)))), .val (.int (1 : Int32)), .val (.int (1 : Int32))] [(.int (1 : Int32))])) _
      refine XS.goto X35.here hx rfl (pc0 := 113) (pc' := 117) rfl (hb hby at_113) (by decide) (by decide) ?_
      exact kt
    obtain ⟨fs, hr, hrun, hended, hW, hsame⟩ := X35.leave (v := some (.int (1 : Int32))) (fun h => by rw [Bd.returns] at h; cases h)
    refine ⟨_, _, pre36 _ ?_, hrun, hended, _, _, rfl, ?_, ⟨_, rfl⟩, hW, hsame.mono (by decide) (by decide)⟩
    · show Steps p.tables e below (T35.setTop (mkF m 117 #[.val (.int p1), .val (.int p2), .val (.int (p2 &&& (2147483647 : Int32))), .val (.int ((p2 &&& (2147483647 : Int32)) &&& (3 : Int32))), .val (.int (9 : Int32)), .val (.int (((((p2 &&& (2147483647 : Int32)).toUInt32 >>> ((2 : Int32) &&& 31).toUInt32).toInt32) % (5 : Int32)) - (2 : Int32))), .val (.int ((9 : Int32) + (((((p2 &&& (2147483647 : Int32)).toUInt32 >>> ((2 : Int32) &&& 31).toUInt32).toInt32) % (5 : Int32)) - (2 : Int32)))), .val (.int (1 : Int32)), .val (.int (1 : Int32))] [(.int (1 : Int32))])) _
      exact retN X35 hx (t := .boolean) Bd.returns (by simp) (hb hby at_117) hr
    · show Q0 Z p1 p2 h0 n0 _ T35.heap _
      rw [e35]
      exact ⟨rfl, N35, rfl⟩
  · have pre37 : ∀ t, Steps p.tables e below (s₁.setTop (mkF m 22 #[.val (.int p1), .val (.int p2), .val (.int (p2 &&& (2147483647 : Int32))), .val (.int ((p2 &&& (2147483647 : Int32)) &&& (3 : Int32))), .unset, .unset, .unset, .unset, .unset] [(.int (1 : Int32)), (.int ((p2 &&& (2147483647 : Int32)) &&& (3 : Int32)))])) t → Steps p.tables e below (s₁.setTop (entryFrame m #[(.int p1), (.int p2)] maxLocals)) t := by
      intro t kt
      refine pre30 _ ?_
      show Steps p.tables e below (s₁.setTop (mkF m 10 #[.val (.int p1), .val (.int p2), .val (.int (p2 &&& (2147483647 : Int32))), .val (.int ((p2 &&& (2147483647 : Int32)) &&& (3 : Int32))), .unset, .unset, .unset, .unset, .unset] [(.int ((p2 &&& (2147483647 : Int32)) &&& (3 : Int32)))])) _
      refine XS.ifYes X0.here hx rfl (pc0 := 10) (pc' := 20) rfl (hb hby at_10) rfl ((if0 _ _).trans (feq hc10_31).2) (by decide) (by decide) ?_
      show Steps p.tables e below (s₁.setTop (mkF m 20 #[.val (.int p1), .val (.int p2), .val (.int (p2 &&& (2147483647 : Int32))), .val (.int ((p2 &&& (2147483647 : Int32)) &&& (3 : Int32))), .unset, .unset, .unset, .unset, .unset] [])) _
      refine XS.iloadN X0.here hx rfl (hb hby at_20) rfl ?_
      show Steps p.tables e below (s₁.setTop (mkF m 21 #[.val (.int p1), .val (.int p2), .val (.int (p2 &&& (2147483647 : Int32))), .val (.int ((p2 &&& (2147483647 : Int32)) &&& (3 : Int32))), .unset, .unset, .unset, .unset, .unset] [(.int ((p2 &&& (2147483647 : Int32)) &&& (3 : Int32)))])) _
      refine XS.iconst X0.here hx rfl (hb hby at_21) ?_
      exact kt
    by_cases hc22_38 : ((p2 &&& (2147483647 : Int32)) &&& (3 : Int32)) = (1 : Int32)
    · obtain ⟨_, _, ⟨T39, L39, k39, n39⟩, -, X39, ⟨Lc39, hQ39, l39, y39, z39⟩, st39⟩ := Jvm.LawKit.callS X0 hx (y := (⟨"com/example/idem/idem/XmlWhiteSpace", "is", "(I)Z"⟩ : MethodName)) hown (mvT hZ (hw _ (List.mem_of_getElem? (i := 1) rfl))) (mvT hZ (hw _ (List.mem_of_getElem? (i := 2) rfl))) (mvT hZ (hw _ (List.mem_of_getElem? (i := 3) rfl))) (mvT hZ (hw _ (List.mem_of_getElem? (i := 4) rfl))) (by decide) (backOf (W := 0) (rm1 l Z a0 hw [] p1 h0 n0 Z0) hZ (hw _ (List.mem_of_getElem? (i := 4) rfl)) (hw _ (List.mem_of_getElem? (i := 3) rfl)) (by decide) (by decide)) (g := (mkF m 65 #[.val (.int p1), .val (.int p2), .val (.int (p2 &&& (2147483647 : Int32))), .val (.int ((p2 &&& (2147483647 : Int32)) &&& (3 : Int32))), .val (.int (10 : Int32)), .val (.int (((((p2 &&& (2147483647 : Int32)).toUInt32 >>> ((2 : Int32) &&& 31).toUInt32).toInt32) % (5 : Int32)) - (2 : Int32))), .val (.int ((10 : Int32) + (((((p2 &&& (2147483647 : Int32)).toUInt32 >>> ((2 : Int32) &&& 31).toUInt32).toInt32) % (5 : Int32)) - (2 : Int32)))), .unset, .unset] [(.int p1)])) rfl (by rw [hml]; rfl) (argsL := [(.int p1)]) (rest := []) (lenOf pd_0 rfl) rfl (by show 2 * 0 + _ ≤ _; exact Nat.le_of_eq rfl) (hb hby at_65) (fun _ _ => ⟨rfl, e0, (by decide : 0 + 0 ≤ _), (by decide : 0 + 0 ≤ _)⟩)
      dsimp only [Pt.U, Pt.locs, Pt.cells, Pt.slots] at X39 l39 y39 z39 st39 hQ39
      subst l39 y39 z39
      obtain ⟨rfl, N39q, e39⟩ := hQ39
      have N39 := Fr.app N0 N39q
      obtain ⟨_, _, ⟨T40, L40, k40, n40⟩, -, X40, ⟨Lc40, hQ40, l40, y40, z40⟩, st40⟩ := Jvm.LawKit.callS X39 hx (y := (⟨"com/example/idem/idem/XmlWhiteSpaceIsPinLaw", "ref", "(I)Z"⟩ : MethodName)) hown (mvT hZ (hw _ (List.mem_of_getElem? (i := 5) rfl))) (mvT hZ (hw _ (List.mem_of_getElem? (i := 6) rfl))) (mvT hZ (hw _ (List.mem_of_getElem? (i := 7) rfl))) (mvT hZ (hw _ (List.mem_of_getElem? (i := 8) rfl))) (by decide) (backOf (W := 1) (rm2 l Z a0 hw [] p1 h0 n0 Z0) hZ (hw _ (List.mem_of_getElem? (i := 8) rfl)) (hw _ (List.mem_of_getElem? (i := 7) rfl)) (by decide) (by decide)) (g := (mkF m 69 #[.val (.int p1), .val (.int p2), .val (.int (p2 &&& (2147483647 : Int32))), .val (.int ((p2 &&& (2147483647 : Int32)) &&& (3 : Int32))), .val (.int (10 : Int32)), .val (.int (((((p2 &&& (2147483647 : Int32)).toUInt32 >>> ((2 : Int32) &&& 31).toUInt32).toInt32) % (5 : Int32)) - (2 : Int32))), .val (.int ((10 : Int32) + (((((p2 &&& (2147483647 : Int32)).toUInt32 >>> ((2 : Int32) &&& 31).toUInt32).toInt32) % (5 : Int32)) - (2 : Int32)))), .unset, .unset] [(.int p1), (.int (own_F1 p1))])) rfl (by rw [hml]; rfl) (argsL := [(.int p1)]) (rest := [(.int (own_F1 p1))]) (lenOf pd_0 rfl) rfl (by show 2 * 0 + _ ≤ _; exact Nat.le_of_eq rfl) (hb hby at_69) (fun _ _ => ⟨rfl, e39, (by decide : 0 + 0 ≤ _), (by decide : 0 + 0 ≤ _)⟩)
      dsimp only [Pt.U, Pt.locs, Pt.cells, Pt.slots] at X40 l40 y40 z40 st40 hQ40
      subst l40 y40 z40
      obtain ⟨rfl, N40q, e40⟩ := hQ40
      have N40 := Fr.app N39 N40q
      obtain ⟨_, _, ⟨T41, L41, k41, n41⟩, -, X41, ⟨Lc41, hQ41, l41, y41, z41⟩, st41⟩ := Jvm.LawKit.callS X40 hx (y := (⟨"com/example/idem/idem/XmlWhiteSpace", "is", "(I)Z"⟩ : MethodName)) hown (mvT hZ (hw _ (List.mem_of_getElem? (i := 1) rfl))) (mvT hZ (hw _ (List.mem_of_getElem? (i := 2) rfl))) (mvT hZ (hw _ (List.mem_of_getElem? (i := 3) rfl))) (mvT hZ (hw _ (List.mem_of_getElem? (i := 4) rfl))) (by decide) (backOf (W := 0) (rm1 l Z a0 hw [] ((10 : Int32) + (((((p2 &&& (2147483647 : Int32)).toUInt32 >>> ((2 : Int32) &&& 31).toUInt32).toInt32) % (5 : Int32)) - (2 : Int32))) h0 n0 Z0) hZ (hw _ (List.mem_of_getElem? (i := 4) rfl)) (hw _ (List.mem_of_getElem? (i := 3) rfl)) (by decide) (by decide)) (g := (mkF m 84 #[.val (.int p1), .val (.int p2), .val (.int (p2 &&& (2147483647 : Int32))), .val (.int ((p2 &&& (2147483647 : Int32)) &&& (3 : Int32))), .val (.int (10 : Int32)), .val (.int (((((p2 &&& (2147483647 : Int32)).toUInt32 >>> ((2 : Int32) &&& 31).toUInt32).toInt32) % (5 : Int32)) - (2 : Int32))), .val (.int ((10 : Int32) + (((((p2 &&& (2147483647 : Int32)).toUInt32 >>> ((2 : Int32) &&& 31).toUInt32).toInt32) % (5 : Int32)) - (2 : Int32)))), .val (.int (1 : Int32)), .unset] [(.int ((10 : Int32) + (((((p2 &&& (2147483647 : Int32)).toUInt32 >>> ((2 : Int32) &&& 31).toUInt32).toInt32) % (5 : Int32)) - (2 : Int32))))])) rfl (by rw [hml]; rfl) (argsL := [(.int ((10 : Int32) + (((((p2 &&& (2147483647 : Int32)).toUInt32 >>> ((2 : Int32) &&& 31).toUInt32).toInt32) % (5 : Int32)) - (2 : Int32))))]) (rest := []) (lenOf pd_0 rfl) rfl (by show 2 * 0 + _ ≤ _; exact Nat.le_of_eq rfl) (hb hby at_84) (fun _ _ => ⟨rfl, e40, (by decide : 0 + 0 ≤ _), (by decide : 0 + 0 ≤ _)⟩)
      dsimp only [Pt.U, Pt.locs, Pt.cells, Pt.slots] at X41 l41 y41 z41 st41 hQ41
      subst l41 y41 z41
      obtain ⟨rfl, N41q, e41⟩ := hQ41
      have N41 := Fr.app N40 N41q
      obtain ⟨_, _, ⟨T42, L42, k42, n42⟩, -, X42, ⟨Lc42, hQ42, l42, y42, z42⟩, st42⟩ := Jvm.LawKit.callS X41 hx (y := (⟨"com/example/idem/idem/XmlWhiteSpaceIsPinLaw", "ref", "(I)Z"⟩ : MethodName)) hown (mvT hZ (hw _ (List.mem_of_getElem? (i := 5) rfl))) (mvT hZ (hw _ (List.mem_of_getElem? (i := 6) rfl))) (mvT hZ (hw _ (List.mem_of_getElem? (i := 7) rfl))) (mvT hZ (hw _ (List.mem_of_getElem? (i := 8) rfl))) (by decide) (backOf (W := 1) (rm2 l Z a0 hw [] ((10 : Int32) + (((((p2 &&& (2147483647 : Int32)).toUInt32 >>> ((2 : Int32) &&& 31).toUInt32).toInt32) % (5 : Int32)) - (2 : Int32))) h0 n0 Z0) hZ (hw _ (List.mem_of_getElem? (i := 8) rfl)) (hw _ (List.mem_of_getElem? (i := 7) rfl)) (by decide) (by decide)) (g := (mkF m 89 #[.val (.int p1), .val (.int p2), .val (.int (p2 &&& (2147483647 : Int32))), .val (.int ((p2 &&& (2147483647 : Int32)) &&& (3 : Int32))), .val (.int (10 : Int32)), .val (.int (((((p2 &&& (2147483647 : Int32)).toUInt32 >>> ((2 : Int32) &&& 31).toUInt32).toInt32) % (5 : Int32)) - (2 : Int32))), .val (.int ((10 : Int32) + (((((p2 &&& (2147483647 : Int32)).toUInt32 >>> ((2 : Int32) &&& 31).toUInt32).toInt32) % (5 : Int32)) - (2 : Int32)))), .val (.int (1 : Int32)), .unset] [(.int ((10 : Int32) + (((((p2 &&& (2147483647 : Int32)).toUInt32 >>> ((2 : Int32) &&& 31).toUInt32).toInt32) % (5 : Int32)) - (2 : Int32)))), (.int (own_F1 ((10 : Int32) + (((((p2 &&& (2147483647 : Int32)).toUInt32 >>> ((2 : Int32) &&& 31).toUInt32).toInt32) % (5 : Int32)) - (2 : Int32)))))])) rfl (by rw [hml]; rfl) (argsL := [(.int ((10 : Int32) + (((((p2 &&& (2147483647 : Int32)).toUInt32 >>> ((2 : Int32) &&& 31).toUInt32).toInt32) % (5 : Int32)) - (2 : Int32))))]) (rest := [(.int (own_F1 ((10 : Int32) + (((((p2 &&& (2147483647 : Int32)).toUInt32 >>> ((2 : Int32) &&& 31).toUInt32).toInt32) % (5 : Int32)) - (2 : Int32)))))]) (lenOf pd_0 rfl) rfl (by show 2 * 0 + _ ≤ _; exact Nat.le_of_eq rfl) (hb hby at_89) (fun _ _ => ⟨rfl, e41, (by decide : 0 + 0 ≤ _), (by decide : 0 + 0 ≤ _)⟩)
      dsimp only [Pt.U, Pt.locs, Pt.cells, Pt.slots] at X42 l42 y42 z42 st42 hQ42
      subst l42 y42 z42
      obtain ⟨rfl, N42q, e42⟩ := hQ42
      have N42 := Fr.app N41 N42q
      have pre43 : ∀ t, Steps p.tables e below (T42.setTop (mkF m 117 #[.val (.int p1), .val (.int p2), .val (.int (p2 &&& (2147483647 : Int32))), .val (.int ((p2 &&& (2147483647 : Int32)) &&& (3 : Int32))), .val (.int (10 : Int32)), .val (.int (((((p2 &&& (2147483647 : Int32)).toUInt32 >>> ((2 : Int32) &&& 31).toUInt32).toInt32) % (5 : Int32)) - (2 : Int32))), .val (.int ((10 : Int32) + (((((p2 &&& (2147483647 : Int32)).toUInt32 >>> ((2 : Int32) &&& 31).toUInt32).toInt32) % (5 : Int32)) - (2 : Int32)))), .val (.int (1 : Int32)), .val (.int (1 : Int32))] [(.int (1 : Int32))])) t → Steps p.tables e below (s₁.setTop (entryFrame m #[(.int p1), (.int p2)] maxLocals)) t := by
        intro t kt
        refine pre37 _ ?_
        show Steps p.tables e below (s₁.setTop (mkF m 22 #[.val (.int p1), .val (.int p2), .val (.int (p2 &&& (2147483647 : Int32))), .val (.int ((p2 &&& (2147483647 : Int32)) &&& (3 : Int32))), .unset, .unset, .unset, .unset, .unset] [(.int (1 : Int32)), (.int ((p2 &&& (2147483647 : Int32)) &&& (3 : Int32)))])) _
        refine XS.icmpNo X0.here hx rfl (hb hby at_22) rfl (teq hc22_38).2 ?_
        show Steps p.tables e below (s₁.setTop (mkF m 25 #[.val (.int p1), .val (.int p2), .val (.int (p2 &&& (2147483647 : Int32))), .val (.int ((p2 &&& (2147483647 : Int32)) &&& (3 : Int32))), .unset, .unset, .unset, .unset, .unset] [])) _
        refine XS.bipush X0.here hx rfl (hb hby at_25) ?_
        show Steps p.tables e below (s₁.setTop (mkF m 27 #[.val (.int p1), .val (.int p2), .val (.int (p2 &&& (2147483647 : Int32))), .val (.int ((p2 &&& (2147483647 : Int32)) &&& (3 : Int32))), .unset, .unset, .unset, .unset, .unset] [(.int (10 : Int32))])) _
        refine XS.istore X0.here hx rfl (hb hby at_27) rfl (l' := #[.val (.int p1), .val (.int p2), .val (.int (p2 &&& (2147483647 : Int32))), .val (.int ((p2 &&& (2147483647 : Int32)) &&& (3 : Int32))), .val (.int (10 : Int32)), .unset, .unset, .unset, .unset]) rfl ?_
        show Steps p.tables e below (s₁.setTop (mkF m 29 #[.val (.int p1), .val (.int p2), .val (.int (p2 &&& (2147483647 : Int32))), .val (.int ((p2 &&& (2147483647 : Int32)) &&& (3 : Int32))), .val (.int (10 : Int32)), .unset, .unset, .unset, .unset] [])) _
        refine XS.goto X0.here hx rfl (pc0 := 29) (pc' := 48) rfl (hb hby at_29) (by decide) (by decide) ?_
        show Steps p.tables e below (s₁.setTop (mkF m 48 #[.val (.int p1), .val (.int p2), .val (.int (p2 &&& (2147483647 : Int32))), .val (.int ((p2 &&& (2147483647 : Int32)) &&& (3 : Int32))), .val (.int (10 : Int32)), .unset, .unset, .unset, .unset] [])) _
        refine XS.iloadN X0.here hx rfl (hb hby at_48) rfl ?_
        show Steps p.tables e below (s₁.setTop (mkF m 49 #[.val (.int p1), .val (.int p2), .val (.int (p2 &&& (2147483647 : Int32))), .val (.int ((p2 &&& (2147483647 : Int32)) &&& (3 : Int32))), .val (.int (10 : Int32)), .unset, .unset, .unset, .unset] [(.int (p2 &&& (2147483647 : Int32)))])) _
        refine XS.iconst X0.here hx rfl (hb hby at_49) ?_
        show Steps p.tables e below (s₁.setTop (mkF m 50 #[.val (.int p1), .val (.int p2), .val (.int (p2 &&& (2147483647 : Int32))), .val (.int ((p2 &&& (2147483647 : Int32)) &&& (3 : Int32))), .val (.int (10 : Int32)), .unset, .unset, .unset, .unset] [(.int (2 : Int32)), (.int (p2 &&& (2147483647 : Int32)))])) _
        refine XS.iushr X0.here hx rfl (hb hby at_50) rfl ?_
        show Steps p.tables e below (s₁.setTop (mkF m 51 #[.val (.int p1), .val (.int p2), .val (.int (p2 &&& (2147483647 : Int32))), .val (.int ((p2 &&& (2147483647 : Int32)) &&& (3 : Int32))), .val (.int (10 : Int32)), .unset, .unset, .unset, .unset] [(.int (((p2 &&& (2147483647 : Int32)).toUInt32 >>> ((2 : Int32) &&& 31).toUInt32).toInt32))])) _
        refine XS.iconst X0.here hx rfl (hb hby at_51) ?_
        show Steps p.tables e below (s₁.setTop (mkF m 52 #[.val (.int p1), .val (.int p2), .val (.int (p2 &&& (2147483647 : Int32))), .val (.int ((p2 &&& (2147483647 : Int32)) &&& (3 : Int32))), .val (.int (10 : Int32)), .unset, .unset, .unset, .unset] [(.int (5 : Int32)), (.int (((p2 &&& (2147483647 : Int32)).toUInt32 >>> ((2 : Int32) &&& 31).toUInt32).toInt32))])) _
        refine iremM X0 hx rfl (hb hby at_52) rfl (by decide) ?_
        show Steps p.tables e below (s₁.setTop (mkF m 53 #[.val (.int p1), .val (.int p2), .val (.int (p2 &&& (2147483647 : Int32))), .val (.int ((p2 &&& (2147483647 : Int32)) &&& (3 : Int32))), .val (.int (10 : Int32)), .unset, .unset, .unset, .unset] [(.int ((((p2 &&& (2147483647 : Int32)).toUInt32 >>> ((2 : Int32) &&& 31).toUInt32).toInt32) % (5 : Int32)))])) _
        refine XS.iconst X0.here hx rfl (hb hby at_53) ?_
        show Steps p.tables e below (s₁.setTop (mkF m 54 #[.val (.int p1), .val (.int p2), .val (.int (p2 &&& (2147483647 : Int32))), .val (.int ((p2 &&& (2147483647 : Int32)) &&& (3 : Int32))), .val (.int (10 : Int32)), .unset, .unset, .unset, .unset] [(.int (2 : Int32)), (.int ((((p2 &&& (2147483647 : Int32)).toUInt32 >>> ((2 : Int32) &&& 31).toUInt32).toInt32) % (5 : Int32)))])) _
        refine XS.isub X0.here hx rfl (hb hby at_54) rfl ?_
        show Steps p.tables e below (s₁.setTop (mkF m 55 #[.val (.int p1), .val (.int p2), .val (.int (p2 &&& (2147483647 : Int32))), .val (.int ((p2 &&& (2147483647 : Int32)) &&& (3 : Int32))), .val (.int (10 : Int32)), .unset, .unset, .unset, .unset] [(.int (((((p2 &&& (2147483647 : Int32)).toUInt32 >>> ((2 : Int32) &&& 31).toUInt32).toInt32) % (5 : Int32)) - (2 : Int32)))])) _
        refine XS.istore X0.here hx rfl (hb hby at_55) rfl (l' := #[.val (.int p1), .val (.int p2), .val (.int (p2 &&& (2147483647 : Int32))), .val (.int ((p2 &&& (2147483647 : Int32)) &&& (3 : Int32))), .val (.int (10 : Int32)), .val (.int (((((p2 &&& (2147483647 : Int32)).toUInt32 >>> ((2 : Int32) &&& 31).toUInt32).toInt32) % (5 : Int32)) - (2 : Int32))), .unset, .unset, .unset]) rfl ?_
        show Steps p.tables e below (s₁.setTop (mkF m 57 #[.val (.int p1), .val (.int p2), .val (.int (p2 &&& (2147483647 : Int32))), .val (.int ((p2 &&& (2147483647 : Int32)) &&& (3 : Int32))), .val (.int (10 : Int32)), .val (.int (((((p2 &&& (2147483647 : Int32)).toUInt32 >>> ((2 : Int32) &&& 31).toUInt32).toInt32) % (5 : Int32)) - (2 : Int32))), .unset, .unset, .unset] [])) _
        refine XS.iload X0.here hx rfl (hb hby at_57) rfl ?_
        show Steps p.tables e below (s₁.setTop (mkF m 59 #[.val (.int p1), .val (.int p2), .val (.int (p2 &&& (2147483647 : Int32))), .val (.int ((p2 &&& (2147483647 : Int32)) &&& (3 : Int32))), .val (.int (10 : Int32)), .val (.int (((((p2 &&& (2147483647 : Int32)).toUInt32 >>> ((2 : Int32) &&& 31).toUInt32).toInt32) % (5 : Int32)) - (2 : Int32))), .unset, .unset, .unset] [(.int (10 : Int32))])) _
        refine XS.iload X0.here hx rfl (hb hby at_59) rfl ?_
        show Steps p.tables e below (s₁.setTop (mkF m 61 #[.val (.int p1), .val (.int p2), .val (.int (p2 &&& (2147483647 : Int32))), .val (.int ((p2 &&& (2147483647 : Int32)) &&& (3 : Int32))), .val (.int (10 : Int32)), .val (.int (((((p2 &&& (2147483647 : Int32)).toUInt32 >>> ((2 : Int32) &&& 31).toUInt32).toInt32) % (5 : Int32)) - (2 : Int32))), .unset, .unset, .unset] [(.int (((((p2 &&& (2147483647 : Int32)).toUInt32 >>> ((2 : Int32) &&& 31).toUInt32).toInt32) % (5 : Int32)) - (2 : Int32))), (.int (10 : Int32))])) _
        refine XS.iadd X0.here hx rfl (hb hby at_61) rfl ?_
        show Steps p.tables e below (s₁.setTop (mkF m 62 #[.val (.int p1), .val (.int p2), .val (.int (p2 &&& (2147483647 : Int32))), .val (.int ((p2 &&& (2147483647 : Int32)) &&& (3 : Int32))), .val (.int (10 : Int32)), .val (.int (((((p2 &&& (2147483647 : Int32)).toUInt32 >>> ((2 : Int32) &&& 31).toUInt32).toInt32) % (5 : Int32)) - (2 : Int32))), .unset, .unset, .unset] [(.int ((10 : Int32) + (((((p2 &&& (2147483647 : Int32)).toUInt32 >>> ((2 : Int32) &&& 31).toUInt32).toInt32) % (5 : Int32)) - (2 : Int32))))])) _
        refine XS.istore X0.here hx rfl (hb hby at_62) rfl (l' := #[.val (.int p1), .val (.int p2), .val (.int (p2 &&& (2147483647 : Int32))), .val (.int ((p2 &&& (2147483647 : Int32)) &&& (3 : Int32))), .val (.int (10 : Int32)), .val (.int (((((p2 &&& (2147483647 : Int32)).toUInt32 >>> ((2 : Int32) &&& 31).toUInt32).toInt32) % (5 : Int32)) - (2 : Int32))), .val (.int ((10 : Int32) + (((((p2 &&& (2147483647 : Int32)).toUInt32 >>> ((2 : Int32) &&& 31).toUInt32).toInt32) % (5 : Int32)) - (2 : Int32)))), .unset, .unset]) rfl ?_
        show Steps p.tables e below (s₁.setTop (mkF m 64 #[.val (.int p1), .val (.int p2), .val (.int (p2 &&& (2147483647 : Int32))), .val (.int ((p2 &&& (2147483647 : Int32)) &&& (3 : Int32))), .val (.int (10 : Int32)), .val (.int (((((p2 &&& (2147483647 : Int32)).toUInt32 >>> ((2 : Int32) &&& 31).toUInt32).toInt32) % (5 : Int32)) - (2 : Int32))), .val (.int ((10 : Int32) + (((((p2 &&& (2147483647 : Int32)).toUInt32 >>> ((2 : Int32) &&& 31).toUInt32).toInt32) % (5 : Int32)) - (2 : Int32)))), .unset, .unset] [])) _
        refine XS.iloadN X0.here hx rfl (hb hby at_64) rfl ?_
        show Steps p.tables e below (s₁.setTop (mkF m 65 #[.val (.int p1), .val (.int p2), .val (.int (p2 &&& (2147483647 : Int32))), .val (.int ((p2 &&& (2147483647 : Int32)) &&& (3 : Int32))), .val (.int (10 : Int32)), .val (.int (((((p2 &&& (2147483647 : Int32)).toUInt32 >>> ((2 : Int32) &&& 31).toUInt32).toInt32) % (5 : Int32)) - (2 : Int32))), .val (.int ((10 : Int32) + (((((p2 &&& (2147483647 : Int32)).toUInt32 >>> ((2 : Int32) &&& 31).toUInt32).toInt32) % (5 : Int32)) - (2 : Int32)))), .unset, .unset] [(.int p1)])) _
        refine st39 _ ?_
        show Steps p.tables e below (T39.setTop (mkF m 68 #[.val (.int p1), .val (.int p2), .val (.int (p2 &&& (2147483647 : Int32))), .val (.int ((p2 &&& (2147483647 : Int32)) &&& (3 : Int32))), .val (.int (10 : Int32)), .val (.int (((((p2 &&& (2147483647 : Int32)).toUInt32 >>> ((2 : Int32) &&& 31).toUInt32).toInt32) % (5 : Int32)) - (2 : Int32))), .val (.int ((10 : Int32) + (((((p2 &&& (2147483647 : Int32)).toUInt32 >>> ((2 : Int32) &&& 31).toUInt32).toInt32) % (5 : Int32)) - (2 : Int32)))), .unset, .unset] [(.int (own_F1 p1))])) _
        refine XS.iloadN X39.here hx rfl (hb hby at_68) rfl ?_
        show Steps p.tables e below (T39.setTop (mkF m 69 #[.val (.int p1), .val (.int p2), .val (.int (p2 &&& (2147483647 : Int32))), .val (.int ((p2 &&& (2147483647 : Int32)) &&& (3 : Int32))), .val (.int (10 : Int32)), .val (.int (((((p2 &&& (2147483647 : Int32)).toUInt32 >>> ((2 : Int32) &&& 31).toUInt32).toInt32) % (5 : Int32)) - (2 : Int32))), .val (.int ((10 : Int32) + (((((p2 &&& (2147483647 : Int32)).toUInt32 >>> ((2 : Int32) &&& 31).toUInt32).toInt32) % (5 : Int32)) - (2 : Int32)))), .unset, .unset] [(.int p1), (.int (own_F1 p1))])) _
        refine st40 _ ?_
        show Steps p.tables e below (T40.setTop (mkF m 72 #[.val (.int p1), .val (.int p2), .val (.int (p2 &&& (2147483647 : Int32))), .val (.int ((p2 &&& (2147483647 : Int32)) &&& (3 : Int32))), .val (.int (10 : Int32)), .val (.int (((((p2 &&& (2147483647 : Int32)).toUInt32 >>> ((2 : Int32) &&& 31).toUInt32).toInt32) % (5 : Int32)) - (2 : Int32))), .val (.int ((10 : Int32) + (((((p2 &&& (2147483647 : Int32)).toUInt32 >>> ((2 : Int32) &&& 31).toUInt32).toInt32) % (5 : Int32)) - (2 : Int32)))), .unset, .unset] [(.int (own_F2 p1)), (.int (own_F1 p1))])) _
        refine XS.icmpNo X40.here hx rfl (hb hby at_72) rfl (teq ((own_12 _) : (own_F1 p1) = (own_F2 p1))).2 ?_
        show Steps p.tables e below (T40.setTop (mkF m 75 #[.val (.int p1), .val (.int p2), .val (.int (p2 &&& (2147483647 : Int32))), .val (.int ((p2 &&& (2147483647 : Int32)) &&& (3 : Int32))), .val (.int (10 : Int32)), .val (.int (((((p2 &&& (2147483647 : Int32)).toUInt32 >>> ((2 : Int32) &&& 31).toUInt32).toInt32) % (5 : Int32)) - (2 : Int32))), .val (.int ((10 : Int32) + (((((p2 &&& (2147483647 : Int32)).toUInt32 >>> ((2 : Int32) &&& 31).toUInt32).toInt32) % (5 : Int32)) - (2 : Int32)))), .unset, .unset] [])) _
        refine XS.iconst X40.here hx rfl (hb hby at_75) ?_
        show Steps p.tables e below (T40.setTop (mkF m 76 #[.val (.int p1), .val (.int p2), .val (.int (p2 &&& (2147483647 : Int32))), .val (.int ((p2 &&& (2147483647 : Int32)) &&& (3 : Int32))), .val (.int (10 : Int32)), .val (.int (((((p2 &&& (2147483647 : Int32)).toUInt32 >>> ((2 : Int32) &&& 31).toUInt32).toInt32) % (5 : Int32)) - (2 : Int32))), .val (.int ((10 : Int32) + (((((p2 &&& (2147483647 : Int32)).toUInt32 >>> ((2 : Int32) &&& 31).toUInt32).toInt32) % (5 : Int32)) - (2 : Int32)))), .unset, .unset] [(.int (1 : Int32))])) _
        refine XS.goto X40.here hx rfl (pc0 := 76) (pc' := 80) rfl (hb hby at_76) (by decide) (by decide) ?_
        show Steps p.tables e below (T40.setTop (mkF m 80 #[.val (.int p1), .val (.int p2), .val (.int (p2 &&& (2147483647 : Int32))), .val (.int ((p2 &&& (2147483647 : Int32)) &&& (3 : Int32))), .val (.int (10 : Int32)), .val (.int (((((p2 &&& (2147483647 : Int32)).toUInt32 >>> ((2 : Int32) &&& 31).toUInt32).toInt32) % (5 : Int32)) - (2 : Int32))), .val (.int ((10 : Int32) + (((((p2 &&& (2147483647 : Int32)).toUInt32 >>> ((2 : Int32) &&& 31).toUInt32).toInt32) % (5 : Int32)) - (2 : Int32)))), .unset, .unset] [(.int (1 : Int32))])) _
        refine XS.istore X40.here hx rfl (hb hby at_80) rfl (l' := #[.val (.int p1), .val (.int p2), .val (.int (p2 &&& (2147483647 : Int32))), .val (.int ((p2 &&& (2147483647 : Int32)) &&& (3 : Int32))), .val (.int (10 : Int32)), .val (.int (((((p2 &&& (2147483647 : Int32)).toUInt32 >>> ((2 : Int32) &&& 31).toUInt32).toInt32) % (5 : Int32)) - (2 : Int32))), .val (.int ((10 : Int32) + (((((p2 &&& (2147483647 : Int32)).toUInt32 >>> ((2 : Int32) &&& 31).toUInt32).toInt32) % (5 : Int32)) - (2 : Int32)))), .val (.int (1 : Int32)), .unset]) rfl ?_
        show Steps p.tables e below (T40.setTop (mkF m 82 #[.val (.int p1), .val (.int p2), .val (.int (p2 &&& (2147483647 : Int32))), .val (.int ((p2 &&& (2147483647 : Int32)) &&& (3 : Int32))), .val (.int (10 : Int32)), .val (.int (((((p2 &&& (2147483647 : Int32)).toUInt32 >>> ((2 : Int32) &&& 31).toUInt32).toInt32) % (5 : Int32)) - (2 : Int32))), .val (.int ((10 : Int32) + (((((p2 &&& (2147483647 : Int32)).toUInt32 >>> ((2 : Int32) &&& 31).toUInt32).toInt32) % (5 : Int32)) - (2 : Int32)))), .val (.int (1 : Int32)), .unset] [])) _
        refine XS.iload X40.here hx rfl (hb hby at_82) rfl ?_
        show Steps p.tables e below (T40.setTop (mkF m 84 #[.val (.int p1), .val (.int p2), .val (.int (p2 &&& (2147483647 : Int32))), .val (.int ((p2 &&& (2147483647 : Int32)) &&& (3 : Int32))), .val (.int (10 : Int32)), .val (.int (((((p2 &&& (2147483647 : Int32)).toUInt32 >>> ((2 : Int32) &&& 31).toUInt32).toInt32) % (5 : Int32)) - (2 : Int32))), .val (.int ((10 : Int32) + (((((p2 &&& (2147483647 : Int32)).toUInt32 >>> ((2 : Int32) &&& 31).toUInt32).toInt32) % (5 : Int32)) - (2 : Int32)))), .val (.int (1 : Int32)), .unset] [(.int ((10 : Int32) + (((((p2 &&& (2147483647 : Int32)).toUInt32 >>> ((2 : Int32) &&& 31).toUInt32).toInt32) % (5 : Int32)) - (2 : Int32))))])) _
        refine st41 _ ?_
        show Steps p.tables e below (T41.setTop (mkF m 87 #[.val (.int p1), .val (.int p2), .val (.int (p2 &&& (2147483647 : Int32))), .val (.int ((p2 &&& (2147483647 : Int32)) &&& (3 : Int32))), .val (.int (10 : Int32)), .val (.int (((((p2 &&& (2147483647 : Int32)).toUInt32 >>> ((2 : Int32) &&& 31).toUInt32).toInt32) % (5 : Int32)) - (2 : Int32))), .val (.int ((10 : Int32) + (((((p2 &&& (2147483647 : Int32)).toUInt32 >>> ((2 : Int32) &&& 31).toUInt32).toInt32) % (5 : Int32)) - (2 : Int32)))), .val (.int (1 : Int32)), .unset] [(.int (own_F1 ((10 : Int32) + (((((p2 &&& (2147483647 : Int32)).toUInt32 >>> ((2 : Int32) &&& 31).toUInt32).toInt32) % (5 : Int32)) - (2 : Int32)))))])) _
        refine XS.iload X41.here hx rfl (hb hby at_87) rfl ?_
        show Steps p.tables e below (T41.setTop (mkF m 89 #[.val (.int p1), .val (.int p2), .val (.int (p2 &&& (2147483647 : Int32))), .val (.int ((p2 &&& (2147483647 : Int32)) &&& (3 : Int32))), .val (.int (10 : Int32)), .val (.int (((((p2 &&& (2147483647 : Int32)).toUInt32 >>> ((2 : Int32) &&& 31).toUInt32).toInt32) % (5 : Int32)) - (2 : Int32))), .val (.int ((10 : Int32) + (((((p2 &&& (2147483647 : Int32)).toUInt32 >>> ((2 : Int32) &&& 31).toUInt32).toInt32) % (5 : Int32)) - (2 : Int32)))), .val (.int (1 : Int32)), .unset] [(.int ((10 : Int32) + (((((p2 &&& (2147483647 : Int32)).toUInt32 >>> ((2 : Int32) &&& 31).toUInt32).toInt32) % (5 : Int32)) - (2 : Int32)))), (.int (own_F1 ((10 : Int32) + (((((p2 &&& (2147483647 : Int32)).toUInt32 >>> ((2 : Int32) &&& 31).toUInt32).toInt32) % (5 : Int32)) - (2 : Int32)))))])) _
        refine st42 _ ?_
        show Steps p.tables e below (T42.setTop (mkF m 92 #[.val (.int p1), .val (.int p2), .val (.int (p2 &&& (2147483647 : Int32))), .val (.int ((p2 &&& (2147483647 : Int32)) &&& (3 : Int32))), .val (.int (10 : Int32)), .val (.int (((((p2 &&& (2147483647 : Int32)).toUInt32 >>> ((2 : Int32) &&& 31).toUInt32).toInt32) % (5 : Int32)) - (2 : Int32))), .val (.int ((10 : Int32) + (((((p2 &&& (2147483647 : Int32)).toUInt32 >>> ((2 : Int32) &&& 31).toUInt32).toInt32) % (5 : Int32)) - (2 : Int32)))), .val (.int (1 : Int32)), .unset] [(.int (own_F2 ((10 : Int32) + (((((p2 &&& (2147483647 : Int32)).toUInt32 >>> ((2 : Int32) &&& 31).toUInt32).toInt32) % (5 : Int32)) - (2 : Int32))))), (.int (own_F1 ((10 : Int32) + (((((p2 &&& (2147483647 : Int32)).toUInt32 >>> ((2 : Int32) &&& 31).toUInt32).toInt32) % (5 : Int32)) - (2 : Int32)))))])) _
        refine XS.icmpNo X42.here hx rfl (hb hby at_92) rfl (teq ((own_12 _) : (own_F1 ((10 : Int32) + (((((p2 &&& (2147483647 : Int32)).toUInt32 >>> ((2 : Int32) &&& 31).toUInt32).toInt32) % (5 : Int32)) - (2 : Int32)))) = (own_F2 ((10 : Int32) + (((((p2 &&& (2147483647 : Int32)).toUInt32 >>> ((2 : Int32) &&& 31).toUInt32).toInt32) % (5 : Int32)) - (2 : Int32)))))).2 ?_
        show Steps p.tables e below (T42.setTop (mkF m 95 #[.val (.int p1), .val (.int p2), .val (.int (p2 &&& (2147483647 : Int32))), .val (.int ((p2 &&& (2147483647 : Int32)) &&& (3 : Int32))), .val (.int (10 : Int32)), .val (.int (((((p2 &&& (2147483647 : Int32)).toUInt32 >>> ((2 : Int32) &&& 31).toUInt32).toInt32) % (5 : Int32)) - (2 : Int32))), .val (.int ((10 : Int32) + (((((p2 &&& (2147483647 : Int32)).toUInt32 >>> ((2 : Int32) &&& 31).toUInt32).toInt32) % (5 : Int32)) - (2 : Int32)))), .val (.int (1 : Int32)), .unset] [])) _
        refine XS.iconst X42.here hx rfl (hb hby at_95) ?_
        show Steps p.tables e below (T42.setTop (mkF m 96 #[.val (.int p1), .val (.int p2), .val (.int (p2 &&& (2147483647 : Int32))), .val (.int ((p2 &&& (2147483647 : Int32)) &&& (3 : Int32))), .val (.int (10 : Int32)), .val (.int (((((p2 &&& (2147483647 : Int32)).toUInt32 >>> ((2 : Int32) &&& 31).toUInt32).toInt32) % (5 : Int32)) - (2 : Int32))), .val (.int ((10 : Int32) + (((((p2 &&& (2147483647 : Int32)).toUInt32 >>> ((2 : Int32) &&& 31).toUInt32).toInt32) % (5 : Int32)) - (2 : Int32)))), .val (.int (1 : Int32)), .unset] [(.int (1 : Int32))])) _
        refine XS.goto X42.here hx rfl (pc0 := 96) (pc' := 100) rfl (hb hby at_96) (by decide) (by decide) ?_
        show Steps p.tables e below (T42.setTop (mkF m 100 #[.val (.int p1), .val (.int p2), .val (.int (p2 &&& (2147483647 : Int32))), .val (.int ((p2 &&& (2147483647 : Int32)) &&& (3 : Int32))), .val (.int (10 : Int32)), .val (.int (((((p2 &&& (2147483647 : Int32)).toUInt32 >>> ((2 : Int32) &&& 31).toUInt32).toInt32) % (5 : Int32)) - (2 : Int32))), .val (.int ((10 : Int32) + (((((p2 &&& (2147483647 : Int32)).toUInt32 >>> ((2 : Int32) &&& 31).toUInt32).toInt32) % (5 : Int32)) - (2 : Int32)))), .val (.int (1 : Int32)), .unset] [(.int (1 : Int32))])) _
        refine XS.istore X42.here hx rfl (hb hby at_100) rfl (l' := #[.val (.int p1), .val (.int p2), .val (.int (p2 &&& (2147483647 : Int32))), .val (.int ((p2 &&& (2147483647 : Int32)) &&& (3 : Int32))), .val (.int (10 : Int32)), .val (.int (((((p2 &&& (2147483647 : Int32)).toUInt32 >>> ((2 : Int32) &&& 31).toUInt32).toInt32) % (5 : Int32)) - (2 : Int32))), .val (.int ((10 : Int32) + (((((p2 &&& (2147483647 : Int32)).toUInt32 >>> ((2 : Int32) &&& 31).toUInt32).toInt32) % (5 : Int32)) - (2 : Int32)))), .val (.int (1 : Int32)), .val (.int (1 : Int32))]) rfl ?_
        show Steps p.tables e below (T42.setTop (mkF m 102 #[.val (.int p1), .val (.int p2), .val (.int (p2 &&& (2147483647 : Int32))), .val (.int ((p2 &&& (2147483647 : Int32)) &&& (3 : Int32))), .val (.int (10 : Int32)), .val (.int (((((p2 &&& (2147483647 : Int32)).toUInt32 >>> ((2 : Int32) &&& 31).toUInt32).toInt32) % (5 : Int32)) - (2 : Int32))), .val (.int ((10 : Int32) + (((((p2 &&& (2147483647 : Int32)).toUInt32 >>> ((2 : Int32) &&& 31).toUInt32).toInt32) % (5 : Int32)) - (2 : Int32)))), .val (.int (1 : Int32)), .val (.int (1 : Int32))] [])) _
        refine XS.iload X42.here hx rfl (hb hby at_102) rfl ?_
        show Steps p.tables e below (T42.setTop (mkF m 104 #[.val (.int p1), .val (.int p2), .val (.int (p2 &&& (2147483647 : Int32))), .val (.int ((p2 &&& (2147483647 : Int32)) &&& (3 : Int32))), .val (.int (10 : Int32)), .val (.int (((((p2 &&& (2147483647 : Int32)).toUInt32 >>> ((2 : Int32) &&& 31).toUInt32).toInt32) % (5 : Int32)) - (2 : Int32))), .val (.int ((10 : Int32) + (((((p2 &&& (2147483647 : Int32)).toUInt32 >>> ((2 : Int32) &&& 31).toUInt32).toInt32) % (5 : Int32)) - (2 : Int32)))), .val (.int (1 : Int32)), .val (.int (1 : Int32))] [(.int (1 : Int32))])) _
        refine XS.ifNo X42.here hx rfl (hb hby at_104) rfl ((if0 _ _).trans (feq (by decide : ¬ ((1 : Int32) = (0 : Int32)))).1) ?_
        show Steps p.tables e below (T42.setTop (mkF m 107 #[.val (.int p1), .val (.int p2), .val (.int (p2 &&& (2147483647 : Int32))), .val (.int ((p2 &&& (2147483647 : Int32)) &&& (3 : Int32))), .val (.int (10 : Int32)), .val (.int (((((p2 &&& (2147483647 : Int32)).toUInt32 >>> ((2 : Int32) &&& 31).toUInt32).toInt32) % (5 : Int32)) - (2 : Int32))), .val (.int ((10 : Int32) + (((((p2 &&& (2147483647 : Int32)).toUInt32 >>> ((2 : Int32) &&& 31).toUInt32).toInt32) % (5 : Int32)) - (2 : Int32)))), .val (.int (1 : Int32)), .val (.int (1 : Int32))] [])) _
        refine XS.iload X42.here hx rfl (hb hby at_107) rfl ?_
        show Steps p.tables e below (T42.setTop (mkF m 109 #[.val (.int p1), .val (.int p2), .val (.int (p2 &&& (2147483647 : Int32))), .val (.int ((p2 &&& (2147483647 : Int32)) &&& (3 : Int32))), .val (.int (10 : Int32)), .val (.int (((((p2 &&& (2147483647 : Int32)).toUInt32 >>> ((2 : Int32) &&& 31).toUInt32).toInt32) % (5 : Int32)) - (2 : Int32))), .val (.int ((10 : Int32) + (((((p2 &&& (2147483647 : Int32)).toUInt32 >>> ((2 : Int32) &&& 31).toUInt32).toInt32) % (5 : Int32)) - (2 : Int32)))), .val (.int (1 : Int32)), .val (.int (1 : Int32))] [(.int (1 : Int32))])) _
        refine XS.ifNo X42.here hx rfl (hb hby at_109) rfl ((if0 _ _).trans (feq (by decide : ¬ ((1 : Int32) = (0 : Int32)))).1) ?_
        show Steps p.tables e below (T42.setTop (mkF m 112 #[.val (.int p1), .val (.int p2), .val (.int (p2 &&& (2147483647 : Int32))), .val (.int ((p2 &&& (2147483647 : Int32)) &&& (3 : Int32))), .val (.int (10 : Int32)), .val (.int (((((p2 &&& (2147483647 : Int32)).toUInt32 >>> ((2 : Int32) &&& 31).toUInt32).toInt32) % (5 : Int32)) - (2 : Int32))), .val (.int ((10 : Int32) + (((((p2 &&& (2147483647 : Int32)).toUInt32 >>> ((2 : Int32) &&& 31).toUInt32).toInt32) % (5 : Int32)) - (2 : Int32)))), .val (.int (1 : Int32)), .val (.int (1 : Int32))] [])) _
        refine XS.iconst X42.here hx rfl (hb hby at_112) ?_
        show Steps p.tables e below (T42.setTop (mkF m 113 #[.val (.int p1), .val (.int p2), .val (.int (p2 &&& (2147483647 : Int32))), .val (.int ((p2 &&& (2147483647 : Int32)) &&& (3 : Int32))), .val (.int (10 : Int32)), .val (.int (((((p2 &&& (2147483647 : Int32)).toUInt32 >>> ((2 : Int32) &&& 31).toUInt32).toInt32) % (5 : Int32)) - (2 : Int32))), .val (.int ((10 : Int32) + (((((p2 &&& (2147483647 : Int32)).toUInt32 >>> ((2 : Int32) &&& 31).toUInt32).toInt32) % (5 : Int32)) - (2 : Int32)))), .val (.int (1 : Int32)), .val (.int (1 : Int32))] [(.int (1 : Int32))])) _
        refine XS.goto X42.here hx rfl (pc0 := 113) (pc' := 117) rfl (hb hby at_113) (by decide) (by decide) ?_
        exact kt
      obtain ⟨fs, hr, hrun, hended, hW, hsame⟩ := X42.leave (v := some (.int (1 : Int32))) (fun h => by rw [Bd.returns] at h; cases h)
      refine ⟨_, _, pre43 _ ?_, hrun, hended, _, _, rfl, ?_, ⟨_, rfl⟩, hW, hsame.mono (by decide) (by decide)⟩
      · show Steps p.tables e below (T42.setTop (mkF m 117 #[.val (.int p1), .val (.int p2), .val (.int (p2 &&& (2147483647 : Int32))), .val (.int ((p2 &&& (2147483647 : Int32)) &&& (3 : Int32))), .val (.int (10 : Int32)), .val (.int (((((p2 &&& (2147483647 : Int32)).toUInt32 >>> ((2 : Int32) &&& 31).toUInt32).toInt32) % (5 : Int32)) - (2 : Int32))), .val (.int ((10 : Int32) + (((((p2 &&& (2147483647 : Int32)).toUInt32 >>> ((2 : Int32) &&& 31).toUInt32).toInt32) % (5 : Int32)) - (2 : Int32)))), .val (.int (1 : Int32)), .val (.int (1 : Int32))] [(.int (1 : Int32))])) _
        exact retN X42 hx (t := .boolean) Bd.returns (by simp) (hb hby at_117) hr
      · show Q0 Z p1 p2 h0 n0 _ T42.heap _
        rw [e42]
        exact ⟨rfl, N42, rfl⟩
    · have pre44 : ∀ t, Steps p.tables e below (s₁.setTop (mkF m 34 #[.val (.int p1), .val (.int p2), .val (.int (p2 &&& (2147483647 : Int32))), .val (.int ((p2 &&& (2147483647 : Int32)) &&& (3 : Int32))), .unset, .unset, .unset, .unset, .unset] [(.int (2 : Int32)), (.int ((p2 &&& (2147483647 : Int32)) &&& (3 : Int32)))])) t → Steps p.tables e below (s₁.setTop (entryFrame m #[(.int p1), (.int p2)] maxLocals)) t := by
        intro t kt
        refine pre37 _ ?_
        show Steps p.tables e below (s₁.setTop (mkF m 22 #[.val (.int p1), .val (.int p2), .val (.int (p2 &&& (2147483647 : Int32))), .val (.int ((p2 &&& (2147483647 : Int32)) &&& (3 : Int32))), .unset, .unset, .unset, .unset, .unset] [(.int (1 : Int32)), (.int ((p2 &&& (2147483647 : Int32)) &&& (3 : Int32)))])) _
        refine XS.icmpYes X0.here hx rfl (pc0 := 22) (pc' := 32) rfl (hb hby at_22) rfl (feq hc22_38).2 (by decide) (by decide) ?_
        show Steps p.tables e below (s₁.setTop (mkF m 32 #[.val (.int p1), .val (.int p2), .val (.int (p2 &&& (2147483647 : Int32))), .val (.int ((p2 &&& (2147483647 : Int32)) &&& (3 : Int32))), .unset, .unset, .unset, .unset, .unset] [])) _
        refine XS.iloadN X0.here hx rfl (hb hby at_32) rfl ?_
        show Steps p.tables e below (s₁.setTop (mkF m 33 #[.val (.int p1), .val (.int p2), .val (.int (p2 &&& (2147483647 : Int32))), .val (.int ((p2 &&& (2147483647 : Int32)) &&& (3 : Int32))), .unset, .unset, .unset, .unset, .unset] [(.int ((p2 &&& (2147483647 : Int32)) &&& (3 : Int32)))])) _
        refine XS.iconst X0.here hx rfl (hb hby at_33) ?_
        exact kt
      by_cases hc34_45 : ((p2 &&& (2147483647 : Int32)) &&& (3 : Int32)) = (2 : Int32)
      · obtain ⟨_, _, ⟨T46, L46, k46, n46⟩, -, X46, ⟨Lc46, hQ46, l46, y46, z46⟩, st46⟩ := Jvm.LawKit.callS X0 hx (y := (⟨"com/example/idem/idem/XmlWhiteSpace", "is", "(I)Z"⟩ : MethodName)) hown (mvT hZ (hw _ (List.mem_of_getElem? (i := 1) rfl))) (mvT hZ (hw _ (List.mem_of_getElem? (i := 2) rfl))) (mvT hZ (hw _ (List.mem_of_getElem? (i := 3) rfl))) (mvT hZ (hw _ (List.mem_of_getElem? (i := 4) rfl))) (by decide) (backOf (W := 0) (rm1 l Z a0 hw [] p1 h0 n0 Z0) hZ (hw _ (List.mem_of_getElem? (i := 4) rfl)) (hw _ (List.mem_of_getElem? (i := 3) rfl)) (by decide) (by decide)) (g := (mkF m 65 #[.val (.int p1), .val (.int p2), .val (.int (p2 &&& (2147483647 : Int32))), .val (.int ((p2 &&& (2147483647 : Int32)) &&& (3 : Int32))), .val (.int (13 : Int32)), .val (.int (((((p2 &&& (2147483647 : Int32)).toUInt32 >>> ((2 : Int32) &&& 31).toUInt32).toInt32) % (5 : Int32)) - (2 : Int32))), .val (.int ((13 : Int32) + (((((p2 &&& (2147483647 : Int32)).toUInt32 >>> ((2 : Int32) &&& 31).toUInt32).toInt32) % (5 : Int32)) - (2 : Int32)))), .unset, .unset] [(.int p1)])) rfl (by rw [hml]; rfl) (argsL := [(.int p1)]) (rest := []) (lenOf pd_0 rfl) rfl (by show 2 * 0 + _ ≤ _; exact Nat.le_of_eq rfl) (hb hby at_65) (fun _ _ => ⟨rfl, e0, (by decide : 0 + 0 ≤ _), (by decide : 0 + 0 ≤ _)⟩)
        dsimp only [Pt.U, Pt.locs, Pt.cells, Pt.slots] at X46 l46 y46 z46 st46 hQ46
        subst l46 y46 z46
        obtain ⟨rfl, N46q, e46⟩ := hQ46
        have N46 := Fr.app N0 N46q
        obtain ⟨_, _, ⟨T47, L47, k47, n47⟩, -, X47, ⟨Lc47, hQ47, l47, y47, z47⟩, st47⟩ := Jvm.LawKit.callS X46 hx (y := (⟨"com/example/idem/idem/XmlWhiteSpaceIsPinLaw", "ref", "(I)Z"⟩ : MethodName)) hown (mvT hZ (hw _ (List.mem_of_getElem? (i := 5) rfl))) (mvT hZ (hw _ (List.mem_of_getElem? (i := 6) rfl))) (mvT hZ (hw _ (List.mem_of_getElem? (i := 7) rfl))) (mvT hZ (hw _ (List.mem_of_getElem? (i := 8) rfl))) (by decide) (backOf (W := 1) (rm2 l Z a0 hw [] p1 h0 n0 Z0) hZ (hw _ (List.mem_of_getElem? (i := 8) rfl)) (hw _ (List.mem_of_getElem? (i := 7) rfl)) (by decide) (by decide)) (g := (mkF m 69 #[.val (.int p1), .val (.int p2), .val (.int (p2 &&& (2147483647 : Int32))), .val (.int ((p2 &&& (2147483647 : Int32)) &&& (3 : Int32))), .val (.int (13 : Int32)), .val (.int (((((p2 &&& (2147483647 : Int32)).toUInt32 >>> ((2 : Int32) &&& 31).toUInt32).toInt32) % (5 : Int32)) - (2 : Int32))), .val (.int ((13 : Int32) + (((((p2 &&& (2147483647 : Int32)).toUInt32 >>> ((2 : Int32) &&& 31).toUInt32).toInt32) % (5 : Int32)) - (2 : Int32)))), .unset, .unset] [(.int p1), (.int (own_F1 p1))])) rfl (by rw [hml]; rfl) (argsL := [(.int p1)]) (rest := [(.int (own_F1 p1))]) (lenOf pd_0 rfl) rfl (by show 2 * 0 + _ ≤ _; exact Nat.le_of_eq rfl) (hb hby at_69) (fun _ _ => ⟨rfl, e46, (by decide : 0 + 0 ≤ _), (by decide : 0 + 0 ≤ _)⟩)
        dsimp only [Pt.U, Pt.locs, Pt.cells, Pt.slots] at X47 l47 y47 z47 st47 hQ47
        subst l47 y47 z47
        obtain ⟨rfl, N47q, e47⟩ := hQ47
        have N47 := Fr.app N46 N47q
        obtain ⟨_, _, ⟨T48, L48, k48, n48⟩, -, X48, ⟨Lc48, hQ48, l48, y48, z48⟩, st48⟩ := Jvm.LawKit.callS X47 hx (y := (⟨"com/example/idem/idem/XmlWhiteSpace", "is", "(I)Z"⟩ : MethodName)) hown (mvT hZ (hw _ (List.mem_of_getElem? (i := 1) rfl))) (mvT hZ (hw _ (List.mem_of_getElem? (i := 2) rfl))) (mvT hZ (hw _ (List.mem_of_getElem? (i := 3) rfl))) (mvT hZ (hw _ (List.mem_of_getElem? (i := 4) rfl))) (by decide) (backOf (W := 0) (rm1 l Z a0 hw [] ((13 : Int32) + (((((p2 &&& (2147483647 : Int32)).toUInt32 >>> ((2 : Int32) &&& 31).toUInt32).toInt32) % (5 : Int32)) - (2 : Int32))) h0 n0 Z0) hZ (hw _ (List.mem_of_getElem? (i := 4) rfl)) (hw _ (List.mem_of_getElem? (i := 3) rfl)) (by decide) (by decide)) (g := (mkF m 84 #[.val (.int p1), .val (.int p2), .val (.int (p2 &&& (2147483647 : Int32))), .val (.int ((p2 &&& (2147483647 : Int32)) &&& (3 : Int32))), .val (.int (13 : Int32)), .val (.int (((((p2 &&& (2147483647 : Int32)).toUInt32 >>> ((2 : Int32) &&& 31).toUInt32).toInt32) % (5 : Int32)) - (2 : Int32))), .val (.int ((13 : Int32) + (((((p2 &&& (2147483647 : Int32)).toUInt32 >>> ((2 : Int32) &&& 31).toUInt32).toInt32) % (5 : Int32)) - (2 : Int32)))), .val (.int (1 : Int32)), .unset] [(.int ((13 : Int32) + (((((p2 &&& (2147483647 : Int32)).toUInt32 >>> ((2 : Int32) &&& 31).toUInt32).toInt32) % (5 : Int32)) - (2 : Int32))))])) rfl (by rw [hml]; rfl) (argsL := [(.int ((13 : Int32) + (((((p2 &&& (2147483647 : Int32)).toUInt32 >>> ((2 : Int32) &&& 31).toUInt32).toInt32) % (5 : Int32)) - (2 : Int32))))]) (rest := []) (lenOf pd_0 rfl) rfl (by show 2 * 0 + _ ≤ _; exact Nat.le_of_eq rfl) (hb hby at_84) (fun _ _ => ⟨rfl, e47, (by decide : 0 + 0 ≤ _), (by decide : 0 + 0 ≤ _)⟩)
        dsimp only [Pt.U, Pt.locs, Pt.cells, Pt.slots] at X48 l48 y48 z48 st48 hQ48
        subst l48 y48 z48
        obtain ⟨rfl, N48q, e48⟩ := hQ48
        have N48 := Fr.app N47 N48q
        obtain ⟨_, _, ⟨T49, L49, k49, n49⟩, -, X49, ⟨Lc49, hQ49, l49, y49, z49⟩, st49⟩ := Jvm.LawKit.callS X48 hx (y := (⟨"com/example/idem/idem/XmlWhiteSpaceIsPinLaw", "ref", "(I)Z"⟩ : MethodName)) hown (mvT hZ (hw _ (List.mem_of_getElem? (i := 5) rfl))) (mvT hZ (hw _ (List.mem_of_getElem? (i := 6) rfl))) (mvT hZ (hw _ (List.mem_of_getElem? (i := 7) rfl))) (mvT hZ (hw _ (List.mem_of_getElem? (i := 8) rfl))) (by decide) (backOf (W := 1) (rm2 l Z a0 hw [] ((13 : Int32) + (((((p2 &&& (2147483647 : Int32)).toUInt32 >>> ((2 : Int32) &&& 31).toUInt32).toInt32) % (5 : Int32)) - (2 : Int32))) h0 n0 Z0) hZ (hw _ (List.mem_of_getElem? (i := 8) rfl)) (hw _ (List.mem_of_getElem? (i := 7) rfl)) (by decide) (by decide)) (g := (mkF m 89 #[.val (.int p1), .val (.int p2), .val (.int (p2 &&& (2147483647 : Int32))), .val (.int ((p2 &&& (2147483647 : Int32)) &&& (3 : Int32))), .val (.int (13 : Int32)), .val (.int (((((p2 &&& (2147483647 : Int32)).toUInt32 >>> ((2 : Int32) &&& 31).toUInt32).toInt32) % (5 : Int32)) - (2 : Int32))), .val (.int ((13 : Int32) + (((((p2 &&& (2147483647 : Int32)).toUInt32 >>> ((2 : Int32) &&& 31).toUInt32).toInt32) % (5 : Int32)) - (2 : Int32)))), .val (.int (1 : Int32)), .unset] [(.int ((13 : Int32) + (((((p2 &&& (2147483647 : Int32)).toUInt32 >>> ((2 : Int32) &&& 31).toUInt32).toInt32) % (5 : Int32)) - (2 : Int32)))), (.int (own_F1 ((13 : Int32) + (((((p2 &&& (2147483647 : Int32)).toUInt32 >>> ((2 : Int32) &&& 31).toUInt32).toInt32) % (5 : Int32)) - (2 : Int32)))))])) rfl (by rw [hml]; rfl) (argsL := [(.int ((13 : Int32) + (((((p2 &&& (2147483647 : Int32)).toUInt32 >>> ((2 : Int32) &&& 31).toUInt32).toInt32) % (5 : Int32)) - (2 : Int32))))]) (rest := [(.int (own_F1 ((13 : Int32) + (((((p2 &&& (2147483647 : Int32)).toUInt32 >>> ((2 : Int32) &&& 31).toUInt32).toInt32) % (5 : Int32)) - (2 : Int32)))))]) (lenOf pd_0 rfl) rfl (by show 2 * 0 + _ ≤ _; exact Nat.le_of_eq rfl) (hb hby at_89) (fun _ _ => ⟨rfl, e48, (by decide : 0 + 0 ≤ _), (by decide : 0 + 0 ≤ _)⟩)
        dsimp only [Pt.U, Pt.locs, Pt.cells, Pt.slots] at X49 l49 y49 z49 st49 hQ49
        subst l49 y49 z49
        obtain ⟨rfl, N49q, e49⟩ := hQ49
        have N49 := Fr.app N48 N49q
        have pre50 : ∀ t, Steps p.tables e below (T49.setTop (mkF m 117 #[.val (.int p1), .val (.int p2), .val (.int (p2 &&& (2147483647 : Int32))), .val (.int ((p2 &&& (2147483647 : Int32)) &&& (3 : Int32))), .val (.int (13 : Int32)), .val (.int (((((p2 &&& (2147483647 : Int32)).toUInt32 >>> ((2 : Int32) &&& 31).toUInt32).toInt32) % (5 : Int32)) - (2 : Int32))), .val (.int ((13 : Int32) + (((((p2 &&& (2147483647 : Int32)).toUInt32 >>> ((2 : Int32) &&& 31).toUInt32).toInt32) % (5 : Int32)) - (2 : Int32)))), .val (.int (1 : Int32)), .val (.int (1 : Int32))] [(.int (1 : Int32))])) t → Steps p.tables e below (s₁.setTop (entryFrame m #[(.int p1), (.int p2)] maxLocals)) t := by
          intro t kt
          refine pre44 _ ?_
          show Steps p.tables e below (s₁.setTop (mkF m 34 #[.val (.int p1), .val (.int p2), .val (.int (p2 &&& (2147483647 : Int32))), .val (.int ((p2 &&& (2147483647 : Int32)) &&& (3 : Int32))), .unset, .unset, .unset, .unset, .unset] [(.int (2 : Int32)), (.int ((p2 &&& (2147483647 : Int32)) &&& (3 : Int32)))])) _
          refine XS.icmpNo X0.here hx rfl (hb hby at_34) rfl (teq hc34_45).2 ?_
          show Steps p.tables e below (s₁.setTop (mkF m 37 #[.val (.int p1), .val (.int p2), .val (.int (p2 &&& (2147483647 : Int32))), .val (.int ((p2 &&& (2147483647 : Int32)) &&& (3 : Int32))), .unset, .unset, .unset, .unset, .unset] [])) _
          refine XS.bipush X0.here hx rfl (hb hby at_37) ?_
          show Steps p.tables e below (s₁.setTop (mkF m 39 #[.val (.int p1), .val (.int p2), .val (.int (p2 &&& (2147483647 : Int32))), .val (.int ((p2 &&& (2147483647 : Int32)) &&& (3 : Int32))), .unset, .unset, .unset, .unset, .unset] [(.int (13 : Int32))])) _
          refine XS.istore X0.here hx rfl (hb hby at_39) rfl (l' := #[.val (.int p1), .val (.int p2), .val (.int (p2 &&& (2147483647 : Int32))), .val (.int ((p2 &&& (2147483647 : Int32)) &&& (3 : Int32))), .val (.int (13 : Int32)), .unset, .unset, .unset, .unset]) rfl ?_
          show Steps p.tables e below (s₁.setTop (mkF m 41 #[.val (.int p1), .val (.int p2), .val (.int (p2 &&& (2147483647 : Int32))), .val (.int ((p2 &&& (2147483647 : Int32)) &&& (3 : Int32))), .val (.int (13 : Int32)), .unset, .unset, .unset, .unset] [])) _
          refine XS.goto X0.here hx rfl (pc0 := 41) (pc' := 48) rfl (hb hby at_41) (by decide) (by decide) ?_
          show Steps p.tables e below (s₁.setTop (mkF m 48 #[.val (.int p1), .val (.int p2), .val (.int (p2 &&& (2147483647 : Int32))), .val (.int ((p2 &&& (2147483647 : Int32)) &&& (3 : Int32))), .val (.int (13 : Int32)), .unset, .unset, .unset, .unset] [])) _
          refine XS.iloadN X0.here hx rfl (hb hby at_48) rfl ?_
          show Steps p.tables e below (s₁.setTop (mkF m 49 #[.val (.int p1), .val (.int p2), .val (.int (p2 &&& (2147483647 : Int32))), .val (.int ((p2 &&& (2147483647 : Int32)) &&& (3 : Int32))), .val (.int (13 : Int32)), .unset, .unset, .unset, .unset] [(.int (p2 &&& (2147483647 : Int32)))])) _
          refine XS.iconst X0.here hx rfl (hb hby at_49) ?_
          show Steps p.tables e below (s₁.setTop (mkF m 50 #[.val (.int p1), .val (.int p2), .val (.int (p2 &&& (2147483647 : Int32))), .val (.int ((p2 &&& (2147483647 : Int32)) &&& (3 : Int32))), .val (.int (13 : Int32)), .unset, .unset, .unset, .unset] [(.int (2 : Int32)), (.int (p2 &&& (2147483647 : Int32)))])) _
          refine XS.iushr X0.here hx rfl (hb hby at_50) rfl ?_
          show Steps p.tables e below (s₁.setTop (mkF m 51 #[.val (.int p1), .val (.int p2), .val (.int (p2 &&& (2147483647 : Int32))), .val (.int ((p2 &&& (2147483647 : Int32)) &&& (3 : Int32))), .val (.int (13 : Int32)), .unset, .unset, .unset, .unset] [(.int (((p2 &&& (2147483647 : Int32)).toUInt32 >>> ((2 : Int32) &&& 31).toUInt32).toInt32))])) _
          refine XS.iconst X0.here hx rfl (hb hby at_51) ?_
          show Steps p.tables e below (s₁.setTop (mkF m 52 #[.val (.int p1), .val (.int p2), .val (.int (p2 &&& (2147483647 : Int32))), .val (.int ((p2 &&& (2147483647 : Int32)) &&& (3 : Int32))), .val (.int (13 : Int32)), .unset, .unset, .unset, .unset] [(.int (5 : Int32)), (.int (((p2 &&& (2147483647 : Int32)).toUInt32 >>> ((2 : Int32) &&& 31).toUInt32).toInt32))])) _
          refine iremM X0 hx rfl (hb hby at_52) rfl (by decide) ?_
          show Steps p.tables e below (s₁.setTop (mkF m 53 #[.val (.int p1), .val (.int p2), .val (.int (p2 &&& (2147483647 : Int32))), .val (.int ((p2 &&& (2147483647 : Int32)) &&& (3 : Int32))), .val (.int (13 : Int32)), .unset, .unset, .unset, .unset] [(.int ((((p2 &&& (2147483647 : Int32)).toUInt32 >>> ((2 : Int32) &&& 31).toUInt32).toInt32) % (5 : Int32)))])) _
          refine XS.iconst X0.here hx rfl (hb hby at_53) ?_
          show Steps p.tables e below (s₁.setTop (mkF m 54 #[.val (.int p1), .val (.int p2), .val (.int (p2 &&& (2147483647 : Int32))), .val (.int ((p2 &&& (2147483647 : Int32)) &&& (3 : Int32))), .val (.int (13 : Int32)), .unset, .unset, .unset, .unset] [(.int (2 : Int32)), (.int ((((p2 &&& (2147483647 : Int32)).toUInt32 >>> ((2 : Int32) &&& 31).toUInt32).toInt32) % (5 : Int32)))])) _
          refine XS.isub X0.here hx rfl (hb hby at_54) rfl ?_
          show Steps p.tables e below (s₁.setTop (mkF m 55 #[.val (.int p1), .val (.int p2), .val (.int (p2 &&& (2147483647 : Int32))), .val (.int ((p2 &&& (2147483647 : Int32)) &&& (3 : Int32))), .val (.int (13 : Int32)), .unset, .unset, .unset, .unset] [(.int (((((p2 &&& (2147483647 : Int32)).toUInt32 >>> ((2 : Int32) &&& 31).toUInt32).toInt32) % (5 : Int32)) - (2 : Int32)))])) _
          refine XS.istore X0.here hx rfl (hb hby at_55) rfl (l' := #[.val (.int p1), .val (.int p2), .val (.int (p2 &&& (2147483647 : Int32))), .val (.int ((p2 &&& (2147483647 : Int32)) &&& (3 : Int32))), .val (.int (13 : Int32)), .val (.int (((((p2 &&& (2147483647 : Int32)).toUInt32 >>> ((2 : Int32) &&& 31).toUInt32).toInt32) % (5 : Int32)) - (2 : Int32))), .unset, .unset, .unset]) rfl ?_
          show Steps p.tables e below (s₁.setTop (mkF m 57 #[.val (.int p1), .val (.int p2), .val (.int (p2 &&& (2147483647 : Int32))), .val (.int ((p2 &&& (2147483647 : Int32)) &&& (3 : Int32))), .val (.int (13 : Int32)), .val (.int (((((p2 &&& (2147483647 : Int32)).toUInt32 >>> ((2 : Int32) &&& 31).toUInt32).toInt32) % (5 : Int32)) - (2 : Int32))), .unset, .unset, .unset] [])) _
          refine XS.iload X0.here hx rfl (hb hby at_57) rfl ?_
          show Steps p.tables e below (s₁.setTop (mkF m 59 #[.val (.int p1), .val (.int p2), .val (.int (p2 &&& (2147483647 : Int32))), .val (.int ((p2 &&& (2147483647 : Int32)) &&& (3 : Int32))), .val (.int (13 : Int32)), .val (.int (((((p2 &&& (2147483647 : Int32)).toUInt32 >>> ((2 : Int32) &&& 31).toUInt32).toInt32) % (5 : Int32)) - (2 : Int32))), .unset, .unset, .unset] [(.int (13 : Int32))])) _
          refine XS.iload X0.here hx rfl (hb hby at_59) rfl ?_
          show Steps p.tables e below (s₁.setTop (mkF m 61 #[.val (.int p1), .val (.int p2), .val (.int (p2 &&& (2147483647 : Int32))), .val (.int ((p2 &&& (2147483647 : Int32)) &&& (3 : Int32))), .val (.int (13 : Int32)), .val (.int (((((p2 &&& (2147483647 : Int32)).toUInt32 >>> ((2 : Int32) &&& 31).toUInt32).toInt32) % (5 : Int32)) - (2 : Int32))), .unset, .unset, .unset] [(.int (((((p2 &&& (2147483647 : Int32)).toUInt32 >>> ((2 : Int32) &&& 31).toUInt32).toInt32) % (5 : Int32)) - (2 : Int32))), (.int (13 : Int32))])) _
          refine XS.iadd X0.here hx rfl (hb hby at_61) rfl ?_
          show Steps p.tables e below (s₁.setTop (mkF m 62 #[.val (.int p1), .val (.int p2), .val (.int (p2 &&& (2147483647 : Int32))), .val (.int ((p2 &&& (2147483647 : Int32)) &&& (3 : Int32))), .val (.int (13 : Int32)), .val (.int (((((p2 &&& (2147483647 : Int32)).toUInt32 >>> ((2 : Int32) &&& 31).toUInt32).toInt32) % (5 : Int32)) - (2 : Int32))), .unset, .unset, .unset] [(.int ((13 : Int32) + (((((p2 &&& (2147483647 : Int32)).toUInt32 >>> ((2 : Int32) &&& 31).toUInt32).toInt32) % (5 : Int32)) - (2 : Int32))))])) _
          refine XS.istore X0.here hx rfl (hb hby at_62) rfl (l' := #[.val (.int p1), .val (.int p2), .val (.int (p2 &&& (2147483647 : Int32))), .val (.int ((p2 &&& (2147483647 : Int32)) &&& (3 : Int32))), .val (.int (13 : Int32)), .val (.int (((((p2 &&& (2147483647 : Int32)).toUInt32 >>> ((2 : Int32) &&& 31).toUInt32).toInt32) % (5 : Int32)) - (2 : Int32))), .val (.int ((13 : Int32) + (((((p2 &&& (2147483647 : Int32)).toUInt32 >>> ((2 : Int32) &&& 31).toUInt32).toInt32) % (5 : Int32)) - (2 : Int32)))), .unset, .unset]) rfl ?_
          show Steps p.tables e below (s₁.setTop (mkF m 64 #[.val (.int p1), .val (.int p2), .val (.int (p2 &&& (2147483647 : Int32))), .val (.int ((p2 &&& (2147483647 : Int32)) &&& (3 : Int32))), .val (.int (13 : Int32)), .val (.int (((((p2 &&& (2147483647 : Int32)).toUInt32 >>> ((2 : Int32) &&& 31).toUInt32).toInt32) % (5 : Int32)) - (2 : Int32))), .val (.int ((13 : Int32) + (((((p2 &&& (2147483647 : Int32)).toUInt32 >>> ((2 : Int32) &&& 31).toUInt32).toInt32) % (5 : Int32)) - (2 : Int32)))), .unset, .unset] [])) _
          refine XS.iloadN X0.here hx rfl (hb hby at_64) rfl ?_
          show Steps p.tables e below (s₁.setTop (mkF m 65 #[.val (.int p1), .val (.int p2), .val (.int (p2 &&& (2147483647 : Int32))), .val (.int ((p2 &&& (2147483647 : Int32)) &&& (3 : Int32))), .val (.int (13 : Int32)), .val (.int (((((p2 &&& (2147483647 : Int32)).toUInt32 >>> ((2 : Int32) &&& 31).toUInt32).toInt32) % (5 : Int32)) - (2 : Int32))), .val (.int ((13 : Int32) + (((((p2 &&& (2147483647 : Int32)).toUInt32 >>> ((2 : Int32) &&& 31).toUInt32).toInt32) % (5 : Int32)) - (2 : Int32)))), .unset, .unset] [(.int p1)])) _
          refine st46 _ ?_
          show Steps p.tables e below (T46.setTop (mkF m 68 #[.val (.int p1), .val (.int p2), .val (.int (p2 &&& (2147483647 : Int32))), .val (.int ((p2 &&& (2147483647 : Int32)) &&& (3 : Int32))), .val (.int (13 : Int32)), .val (.int (((((p2 &&& (2147483647 : Int32)).toUInt32 >>> ((2 : Int32) &&& 31).toUInt32).toInt32) % (5 : Int32)) - (2 : Int32))), .val (.int ((13 : Int32) + (((((p2 &&& (2147483647 : Int32)).toUInt32 >>> ((2 : Int32) &&& 31).toUInt32).toInt32) % (5 : Int32)) - (2 : Int32)))), .unset, .unset] [(.int (own_F1 p1))])) _
          refine XS.iloadN X46.here hx rfl (hb hby at_68) rfl ?_
          show Steps p.tables e below (T46.setTop (mkF m 69 #[.val (.int p1), .val (.int p2), .val (.int (p2 &&& (2147483647 : Int32))), .val (.int ((p2 &&& (2147483647 : Int32)) &&& (3 : Int32))), .val (.int (13 : Int32)), .val (.int (((((p2 &&& (2147483647 : Int32)).toUInt32 >>> ((2 : Int32) &&& 31).toUInt32).toInt32) % (5 : Int32)) - (2 : Int32))), .val (.int ((13 : Int32) + (((((p2 &&& (2147483647 : Int32)).toUInt32 >>> ((2 : Int32) &&& 31).toUInt32).toInt32) % (5 : Int32)) - (2 : Int32)))), .unset, .unset] [(.int p1), (.int (own_F1 p1))])) _
          refine st47 _ ?_
          show Steps p.tables e below (T47.setTop (mkF m 72 #[.val (.int p1), .val (.int p2), .val (.int (p2 &&& (2147483647 : Int32))), .val (.int ((p2 &&& (2147483647 : Int32)) &&& (3 : Int32))), .val (.int (13 : Int32)), .val (.int (((((p2 &&& (2147483647 : Int32)).toUInt32 >>> ((2 : Int32) &&& 31).toUInt32).toInt32) % (5 : Int32)) - (2 : Int32))), .val (.int ((13 : Int32) + (((((p2 &&& (2147483647 : Int32)).toUInt32 >>> ((2 : Int32) &&& 31).toUInt32).toInt32) % (5 : Int32)) - (2 : Int32)))), .unset, .unset] [(.int (own_F2 p1)), (.int (own_F1 p1))])) _
          refine XS.icmpNo X47.here hx rfl (hb hby at_72) rfl (teq ((own_12 _) : (own_F1 p1) = (own_F2 p1))).2 ?_
          show Steps p.tables e below (T47.setTop (mkF m 75 #[.val (.int p1), .val (.int p2), .val (.int (p2 &&& (2147483647 : Int32))), .val (.int ((p2 &&& (2147483647 : Int32)) &&& (3 : Int32))), .val (.int (13 : Int32)), .val (.int (((((p2 &&& (2147483647 : Int32)).toUInt32 >>> ((2 : Int32) &&& 31).toUInt32).toInt32) % (5 : Int32)) - (2 : Int32))), .val (.int ((13 : Int32) + (((((p2 &&& (2147483647 : Int32)).toUInt32 >>> ((2 : Int32) &&& 31).toUInt32).toInt32) % (5 : Int32)) - (2 : Int32)))), .unset, .unset] [])) _
          refine XS.iconst X47.here hx rfl (hb hby at_75) ?_
          show Steps p.tables e below (T47.setTop (mkF m 76 #[.val (.int p1), .val (.int p2), .val (.int (p2 &&& (2147483647 : Int32))), .val (.int ((p2 &&& (2147483647 : Int32)) &&& (3 : Int32))), .val (.int (13 : Int32)), .val (.int (((((p2 &&& (2147483647 : Int32)).toUInt32 >>> ((2 : Int32) &&& 31).toUInt32).toInt32) % (5 : Int32)) - (2 : Int32))), .val (.int ((13 : Int32) + (((((p2 &&& (2147483647 : Int32)).toUInt32 >>> ((2 : Int32) &&& 31).toUInt32).toInt32) % (5 : Int32)) - (2 : Int32)))), .unset, .unset] [(.int (1 : Int32))])) _
          refine XS.goto X47.here hx rfl (pc0 := 76) (pc' := 80) rfl (hb hby at_76) (by decide) (by decide) ?_
          show Steps p.tables e below (T47.setTop (mkF m 80 #[.val (.int p1), .val (.int p2), .val (.int (p2 &&& (2147483647 : Int32))), .val (.int ((p2 &&& (2147483647 : Int32)) &&& (3 : Int32))), .val (.int (13 : Int32)), .val (.int (((((p2 &&& (2147483647 : Int32)).toUInt32 >>> ((2 : Int32) &&& 31).toUInt32).toInt32) % (5 : Int32)) - (2 : Int32))), .val (.int ((13 : Int32) + (((((p2 &&& (2147483647 : Int32)).toUInt32 >>> ((2 : Int32) &&& 31).toUInt32).toInt32) % (5 : Int32)) - (2 : Int32)))), .unset, .unset] [(.int (1 : Int32))])) _
          refine XS.istore X47.here hx rfl (hb hby at_80) rfl (l' := #[.val (.int p1), .val (.int p2), .val (.int (p2 &&& (2147483647 : Int32))), .val (.int ((p2 &&& (2147483647 : Int32)) &&& (3 : Int32))), .val (.int (13 : Int32)), .val (.int (((((p2 &&& (2147483647 : Int32)).toUInt32 >>> ((2 : Int32) &&& 31).toUInt32).toInt32) % (5 : Int32)) - (2 : Int32))), .val (.int ((13 : Int32) + (((((p2 &&& (2147483647 : Int32)).toUInt32 >>> ((2 : Int32) &&& 31).toUInt32).toInt32) % (5 : Int32)) - (2 : Int32)))), .val (.int (1 : Int32)), .unset]) rfl ?_
          show Steps p.tables e below (T47.setTop (mkF m 82 #[.val (.int p1), .val (.int p2), .val (.int (p2 &&& (2147483647 : Int32))), .val (.int ((p2 &&& (2147483647 : Int32)) &&& (3 : Int32))), .val (.int (13 : Int32)), .val (.int (((((p2 &&& (2147483647 : Int32)).toUInt32 >>> ((2 : Int32) &&& 31).toUInt32).toInt32) % (5 : Int32)) - (2 : Int32))), .val (.int ((13 : Int32) + (((((p2 &&& (2147483647 : Int32)).toUInt32 >>> ((2 : Int32) &&& 31).toUInt32).toInt32) % (5 : Int32)) - (2 : Int32)))), .val (.int (1 : Int32)), .unset] [])) _
          refine XS.iload X47.here hx rfl (hb hby at_82) rfl ?_
          show Steps p.tables e below (T47.setTop (mkF m 84 #[.val (.int p1), .val (.int p2), .val (.int (p2 &&& (2147483647 : Int32))), .val (.int ((p2 &&& (2147483647 : Int32)) &&& (3 : Int32))), .val (.int (13 : Int32)), .val (.int (((((p2 &&& (2147483647 : Int32)).toUInt32 >>> ((2 : Int32) &&& 31).toUInt32).toInt32) % (5 : Int32)) - (2 : Int32))), .val (.int ((13 : Int32) + (((((p2 &&& (2147483647 : Int32)).toUInt32 >>> ((2 : Int32) &&& 31).toUInt32).toInt32) % (5 : Int32)) - (2 : Int32)))), .val (.int (1 : Int32)), .unset] [(.int ((13 : Int32) + (((((p2 &&& (2147483647 : Int32)).toUInt32 >>> ((2 : Int32) &&& 31).toUInt32).toInt32) % (5 : Int32)) - (2 : Int32))))])) _
          refine st48 _ ?_
          show Steps p.tables e below (T48.setTop (mkF m 87 #[.val (.int p1), .val (.int p2), .val (.int (p2 &&& (2147483647 : Int32))), .val (.int ((p2 &&& (2147483647 : Int32)) &&& (3 : Int32))), .val (.int (13 : Int32)), .val (.int (((((p2 &&& (2147483647 : Int32)).toUInt32 >>> ((2 : Int32) &&& 31).toUInt32).toInt32) % (5 : Int32)) - (2 : Int32))), .val (.int ((13 : Int32) + (((((p2 &&& (2147483647 : Int32)).toUInt32 >>> ((2 : Int32) &&& 31).toUInt32).toInt32) % (5 : Int32)) - (2 : Int32)))), .val (.int (1 : Int32)), .unset] [(.int (own_F1 ((13 : Int32) + (((((p2 &&& (2147483647 : Int32)).toUInt32 >>> ((2 : Int32) &&& 31).toUInt32).toInt32) % (5 : Int32)) - (2 : Int32)))))])) _
          refine XS.iload X48.here hx rfl (hb hby at_87) rfl ?_
          show Steps p.tables e below (T48.setTop (mkF m 89 #[.val (.int p1), .val (.int p2), .val (.int (p2 &&& (2147483647 : Int32))), .val (.int ((p2 &&& (2147483647 : Int32)) &&& (3 : Int32))), .val (.int (13 : Int32)), .val (.int (((((p2 &&& (2147483647 : Int32)).toUInt32 >>> ((2 : Int32) &&& 31).toUInt32).toInt32) % (5 : Int32)) - (2 : Int32))), .val (.int ((13 : Int32) + (((((p2 &&& (2147483647 : Int32)).toUInt32 >>> ((2 : Int32) &&& 31).toUInt32).toInt32) % (5 : Int32)) - (2 : Int32)))), .val (.int (1 : Int32)), .unset] [(.int ((13 : Int32) + (((((p2 &&& (2147483647 : Int32)).toUInt32 >>> ((2 : Int32) &&& 31).toUInt32).toInt32) % (5 : Int32)) - (2 : Int32)))), (.int (own_F1 ((13 : Int32) + (((((p2 &&& (2147483647 : Int32)).toUInt32 >>> ((2 : Int32) &&& 31).toUInt32).toInt32) % (5 : Int32)) - (2 : Int32)))))])) _
          refine st49 _ ?_
          show Steps p.tables e below (T49.setTop (mkF m 92 #[.val (.int p1), .val (.int p2), .val (.int (p2 &&& (2147483647 : Int32))), .val (.int ((p2 &&& (2147483647 : Int32)) &&& (3 : Int32))), .val (.int (13 : Int32)), .val (.int (((((p2 &&& (2147483647 : Int32)).toUInt32 >>> ((2 : Int32) &&& 31).toUInt32).toInt32) % (5 : Int32)) - (2 : Int32))), .val (.int ((13 : Int32) + (((((p2 &&& (2147483647 : Int32)).toUInt32 >>> ((2 : Int32) &&& 31).toUInt32).toInt32) % (5 : Int32)) - (2 : Int32)))), .val (.int (1 : Int32)), .unset] [(.int (own_F2 ((13 : Int32) + (((((p2 &&& (2147483647 : Int32)).toUInt32 >>> ((2 : Int32) &&& 31).toUInt32).toInt32) % (5 : Int32)) - (2 : Int32))))), (.int (own_F1 ((13 : Int32) + (((((p2 &&& (2147483647 : Int32)).toUInt32 >>> ((2 : Int32) &&& 31).toUInt32).toInt32) % (5 : Int32)) - (2 : Int32)))))])) _
          refine XS.icmpNo X49.here hx rfl (hb hby at_92) rfl (teq ((own_12 _) : (own_F1 ((13 : Int32) + (((((p2 &&& (2147483647 : Int32)).toUInt32 >>> ((2 : Int32) &&& 31).toUInt32).toInt32) % (5 : Int32)) - (2 : Int32)))) = (own_F2 ((13 : Int32) + (((((p2 &&& (2147483647 : Int32)).toUInt32 >>> ((2 : Int32) &&& 31).toUInt32).toInt32) % (5 : Int32)) - (2 : Int32)))))).2 ?_
          show Steps p.tables e below (T49.setTop (mkF m 95 #[.val (.int p1), .val (.int p2), .val (.int (p2 &&& (2147483647 : Int32))), .val (.int ((p2 &&& (2147483647 : Int32)) &&& (3 : Int32))), .val (.int (13 : Int32)), .val (.int (((((p2 &&& (2147483647 : Int32)).toUInt32 >>> ((2 : Int32) &&& 31).toUInt32).toInt32) % (5 : Int32)) - (2 : Int32))), .val (.int ((13 : Int32) + (((((p2 &&& (2147483647 : Int32)).toUInt32 >>> ((2 : Int32) &&& 31).toUInt32).toInt32) % (5 : Int32)) - (2 : Int32)))), .val (.int (1 : Int32)), .unset] [])) _
          refine XS.iconst X49.here hx rfl (hb hby at_95) ?_
          show Steps p.tables e below (T49.setTop (mkF m 96 #[.val (.int p1), .val (.int p2), .val (.int (p2 &&& (2147483647 : Int32))), .val (.int ((p2 &&& (2147483647 : Int32)) &&& (3 : Int32))), .val (.int (13 : Int32)), .val (.int (((((p2 &&& (2147483647 : Int32)).toUInt32 >>> ((2 : Int32) &&& 31).toUInt32).toInt32) % (5 : Int32)) - (2 : Int32))), .val (.int ((13 : Int32) + (((((p2 &&& (2147483647 : Int32)).toUInt32 >>> ((2 : Int32) &&& 31).toUInt32).toInt32) % (5 : Int32)) - (2 : Int32)))), .val (.int (1 : Int32)), .unset] [(.int (1 : Int32))])) _
          refine XS.goto X49.here hx rfl (pc0 := 96) (pc' := 100) rfl (hb hby at_96) (by decide) (by decide) ?_
          show Steps p.tables e below (T49.setTop (mkF m 100 #[.val (.int p1), .val (.int p2), .val (.int (p2 &&& (2147483647 : Int32))), .val (.int ((p2 &&& (2147483647 : Int32)) &&& (3 : Int32))), .val (.int (13 : Int32)), .val (.int (((((p2 &&& (2147483647 : Int32)).toUInt32 >>> ((2 : Int32) &&& 31).toUInt32).toInt32) % (5 : Int32)) - (2 : Int32))), .val (.int ((13 : Int32) + (((((p2 &&& (2147483647 : Int32)).toUInt32 >>> ((2 : Int32) &&& 31).toUInt32).toInt32) % (5 : Int32)) - (2 : Int32)))), .val (.int (1 : Int32)), .unset] [(.int (1 : Int32))])) _
          refine XS.istore X49.here hx rfl (hb hby at_100) rfl (l' := #[.val (.int p1), .val (.int p2), .val (.int (p2 &&& (2147483647 : Int32))), .val (.int ((p2 &&& (2147483647 : Int32)) &&& (3 : Int32))), .val (.int (13 : Int32)), .val (.int (((((p2 &&& (2147483647 : Int32)).toUInt32 >>> ((2 : Int32) &&& 31).toUInt32).toInt32) % (5 : Int32)) - (2 : Int32))), .val (.int ((13 : Int32) + (((((p2 &&& (2147483647 : Int32)).toUInt32 >>> ((2 : Int32) &&& 31).toUInt32).toInt32) % (5 : Int32)) - (2 : Int32)))), .val (.int (1 : Int32)), .val (.int (1 : Int32))]) rfl ?_
          show Steps p.tables e below (T49.setTop (mkF m 102 #[.val (.int p1), .val (.int p2), .val (.int (p2 &&& (2147483647 : Int32))), .val (.int ((p2 &&& (2147483647 : Int32)) &&& (3 : Int32))), .val (.int (13 : Int32)), .val (.int (((((p2 &&& (2147483647 : Int32)).toUInt32 >>> ((2 : Int32) &&& 31).toUInt32).toInt32) % (5 : Int32)) - (2 : Int32))), .val (.int ((13 : Int32) + (((((p2 &&& (2147483647 : Int32)).toUInt32 >>> ((2 : Int32) &&& 31).toUInt32).toInt32) % (5 : Int32)) - (2 : Int32)))), .val (.int (1 : Int32)), .val (.int (1 : Int32))] [])) _
          refine XS.iload X49.here hx rfl (hb hby at_102) rfl ?_
          show Steps p.tables e below (T49.setTop (mkF m 104 #[.val (.int p1), .val (.int p2), .val (.int (p2 &&& (2147483647 : Int32))), .val (.int ((p2 &&& (2147483647 : Int32)) &&& (3 : Int32))), .val (.int (13 : Int32)), .val (.int (((((p2 &&& (2147483647 : Int32)).toUInt32 >>> ((2 : Int32) &&& 31).toUInt32).toInt32) % (5 : Int32)) - (2 : Int32))), .val (.int ((13 : Int32) + (((((p2 &&& (2147483647 : Int32)).toUInt32 >>> ((2 : Int32) &&& 31).toUInt32).toInt32) % (5 : Int32)) - (2 : Int32)))), .val (.int (1 : Int32)), .val (.int (1 : Int32))] [(.int (1 : Int32))])) _
          refine XS.ifNo X49.here hx rfl (hb hby at_104) rfl ((if0 _ _).trans (feq (by decide : ¬ ((1 : Int32) = (0 : Int32)))).1) ?_
          show Steps p.tables e below (T49.setTop (mkF m 107 #[.val (.int p1), .val (.int p2), .val (.int (p2 &&& (2147483647 : Int32))), .val (.int ((p2 &&& (2147483647 : Int32)) &&& (3 : Int32))), .val (.int (13 : Int32)), .val (.int (((((p2 &&& (2147483647 : Int32)).toUInt32 >>> ((2 : Int32) &&& 31).toUInt32).toInt32) % (5 : Int32)) - (2 : Int32))), .val (.int ((13 : Int32) + (((((p2 &&& (2147483647 : Int32)).toUInt32 >>> ((2 : Int32) &&& 31).toUInt32).toInt32) % (5 : Int32)) - (2 : Int32)))), .val (.int (1 : Int32)), .val (.int (1 : Int32))] [])) _
          refine XS.iload X49.here hx rfl (hb hby at_107) rfl ?_
          show Steps p.tables e below (T49.setTop (mkF m 109 #[.val (.int p1), .val (.int p2), .val (.int (p2 &&& (2147483647 : Int32))), .val (.int ((p2 &&& (2147483647 : Int32)) &&& (3 : Int32))), .val (.int (13 : Int32)), .val (.int (((((p2 &&& (2147483647 : Int32)).toUInt32 >>> ((2 : Int32) &&& 31).toUInt32).toInt32) % (5 : Int32)) - (2 : Int32))), .val (.int ((13 : Int32) + (((((p2 &&& (2147483647 : Int32)).toUInt32 >>> ((2 : Int32) &&& 31).toUInt32).toInt32) % (5 : Int32)) - (2 : Int32)))), .val (.int (1 : Int32)), .val (.int (1 : Int32))] [(.int (1 : Int32))])) _
          refine XS.ifNo X49.here hx rfl (hb hby at_109) rfl ((if0 _ _).trans (feq (by decide : ¬ ((1 : Int32) = (0 : Int32)))).1) ?_
          show Steps p.tables e below (T49.setTop (mkF m 112 #[.val (.int p1), .val (.int p2), .val (.int (p2 &&& (2147483647 : Int32))), .val (.int ((p2 &&& (2147483647 : Int32)) &&& (3 : Int32))), .val (.int (13 : Int32)), .val (.int (((((p2 &&& (2147483647 : Int32)).toUInt32 >>> ((2 : Int32) &&& 31).toUInt32).toInt32) % (5 : Int32)) - (2 : Int32))), .val (.int ((13 : Int32) + (((((p2 &&& (2147483647 : Int32)).toUInt32 >>> ((2 : Int32) &&& 31).toUInt32).toInt32) % (5 : Int32)) - (2 : Int32)))), .val (.int (1 : Int32)), .val (.int (1 : Int32))] [])) _
          refine XS.iconst X49.here hx rfl (hb hby at_112) ?_
          show Steps p.tables e below (T49.setTop (mkF m 113 #[.val (.int p1), .val (.int p2), .val (.int (p2 &&& (2147483647 : Int32))), .val (.int ((p2 &&& (2147483647 : Int32)) &&& (3 : Int32))), .val (.int (13 : Int32)), .val (.int (((((p2 &&& (2147483647 : Int32)).toUInt32 >>> ((2 : Int32) &&& 31).toUInt32).toInt32) % (5 : Int32)) - (2 : Int32))), .val (.int ((13 : Int32) + (((((p2 &&& (2147483647 : Int32)).toUInt32 >>> ((2 : Int32) &&& 31).toUInt32).toInt32) % (5 : Int32)) - (2 : Int32)))), .val (.int (1 : Int32)), .val (.int (1 : Int32))] [(.int (1 : Int32))])) _
          refine XS.goto X49.here hx rfl (pc0 := 113) (pc' := 117) rfl (hb hby at_113) (by decide) (by decide) ?_
          exact kt
        obtain ⟨fs, hr, hrun, hended, hW, hsame⟩ := X49.leave (v := some (.int (1 : Int32))) (fun h => by rw [Bd.returns] at h; cases h)
        refine ⟨_, _, pre50 _ ?_, hrun, hended, _, _, rfl, ?_, ⟨_, rfl⟩, hW, hsame.mono (by decide) (by decide)⟩
        · show Steps p.tables e below (T49.setTop (mkF m 117 #[.val (.int p1), .val (.int p2), .val (.int (p2 &&& (2147483647 : Int32))), .val (.int ((p2 &&& (2147483647 : Int32)) &&& (3 : Int32))), .val (.int (13 : Int32)), .val (.int (((((p2 &&& (2147483647 : Int32)).toUInt32 >>> ((2 : Int32) &&& 31).toUInt32).toInt32) % (5 : Int32)) - (2 : Int32))), .val (.int ((13 : Int32) + (((((p2 &&& (2147483647 : Int32)).toUInt32 >>> ((2 : Int32) &&& 31).toUInt32).toInt32) % (5 : Int32)) - (2 : Int32)))), .val (.int (1 : Int32)), .val (.int (1 : Int32))] [(.int (1 : Int32))])) _
          exact retN X49 hx (t := .boolean) Bd.returns (by simp) (hb hby at_117) hr
        · show Q0 Z p1 p2 h0 n0 _ T49.heap _
          rw [e49]
          exact ⟨rfl, N49, rfl⟩
      · obtain ⟨_, _, ⟨T51, L51, k51, n51⟩, -, X51, ⟨Lc51, hQ51, l51, y51, z51⟩, st51⟩ := Jvm.LawKit.callS X0 hx (y := (⟨"com/example/idem/idem/XmlWhiteSpace", "is", "(I)Z"⟩ : MethodName)) hown (mvT hZ (hw _ (List.mem_of_getElem? (i := 1) rfl))) (mvT hZ (hw _ (List.mem_of_getElem? (i := 2) rfl))) (mvT hZ (hw _ (List.mem_of_getElem? (i := 3) rfl))) (mvT hZ (hw _ (List.mem_of_getElem? (i := 4) rfl))) (by decide) (backOf (W := 0) (rm1 l Z a0 hw [] p1 h0 n0 Z0) hZ (hw _ (List.mem_of_getElem? (i := 4) rfl)) (hw _ (List.mem_of_getElem? (i := 3) rfl)) (by decide) (by decide)) (g := (mkF m 65 #[.val (.int p1), .val (.int p2), .val (.int (p2 &&& (2147483647 : Int32))), .val (.int ((p2 &&& (2147483647 : Int32)) &&& (3 : Int32))), .val (.int (32 : Int32)), .val (.int (((((p2 &&& (2147483647 : Int32)).toUInt32 >>> ((2 : Int32) &&& 31).toUInt32).toInt32) % (5 : Int32)) - (2 : Int32))), .val (.int ((32 : Int32) + (((((p2 &&& (2147483647 : Int32)).toUInt32 >>> ((2 : Int32) &&& 31).toUInt32).toInt32) % (5 : Int32)) - (2 : Int32)))), .unset, .unset] [(.int p1)])) rfl (by rw [hml]; rfl) (argsL := [(.int p1)]) (rest := []) (lenOf pd_0 rfl) rfl (by show 2 * 0 + _ ≤ _; exact Nat.le_of_eq rfl) (hb hby at_65) (fun _ _ => ⟨rfl, e0, (by decide : 0 + 0 ≤ _), (by decide : 0 + 0 ≤ _)⟩)
        dsimp only [Pt.U, Pt.locs, Pt.cells, Pt.slots] at X51 l51 y51 z51 st51 hQ51
        subst l51 y51 z51
        obtain ⟨rfl, N51q, e51⟩ := hQ51
        have N51 := Fr.app N0 N51q
        obtain ⟨_, _, ⟨T52, L52, k52, n52⟩, -, X52, ⟨Lc52, hQ52, l52, y52, z52⟩, st52⟩ := Jvm.LawKit.callS X51 hx (y := (⟨"com/example/idem/idem/XmlWhiteSpaceIsPinLaw", "ref", "(I)Z"⟩ : MethodName)) hown (mvT hZ (hw _ (List.mem_of_getElem? (i := 5) rfl))) (mvT hZ (hw _ (List.mem_of_getElem? (i := 6) rfl))) (mvT hZ (hw _ (List.mem_of_getElem? (i := 7) rfl))) (mvT hZ (hw _ (List.mem_of_getElem? (i := 8) rfl))) (by decide) (backOf (W := 1) (rm2 l Z a0 hw [] p1 h0 n0 Z0) hZ (hw _ (List.mem_of_getElem? (i := 8) rfl)) (hw _ (List.mem_of_getElem? (i := 7) rfl)) (by decide) (by decide)) (g := (mkF m 69 #[.val (.int p1), .val (.int p2), .val (.int (p2 &&& (2147483647 : Int32))), .val (.int ((p2 &&& (2147483647 : Int32)) &&& (3 : Int32))), .val (.int (32 : Int32)), .val (.int (((((p2 &&& (2147483647 : Int32)).toUInt32 >>> ((2 : Int32) &&& 31).toUInt32).toInt32) % (5 : Int32)) - (2 : Int32))), .val (.int ((32 : Int32) + (((((p2 &&& (2147483647 : Int32)).toUInt32 >>> ((2 : Int32) &&& 31).toUInt32).toInt32) % (5 : Int32)) - (2 : Int32)))), .unset, .unset] [(.int p1), (.int (own_F1 p1))])) rfl (by rw [hml]; rfl) (argsL := [(.int p1)]) (rest := [(.int (own_F1 p1))]) (lenOf pd_0 rfl) rfl (by show 2 * 0 + _ ≤ _; exact Nat.le_of_eq rfl) (hb hby at_69) (fun _ _ => ⟨rfl, e51, (by decide : 0 + 0 ≤ _), (by decide : 0 + 0 ≤ _)⟩)
        dsimp only [Pt.U, Pt.locs, Pt.cells, Pt.slots] at X52 l52 y52 z52 st52 hQ52
        subst l52 y52 z52
        obtain ⟨rfl, N52q, e52⟩ := hQ52
        have N52 := Fr.app N51 N52q
        obtain ⟨_, _, ⟨T53, L53, k53, n53⟩, -, X53, ⟨Lc53, hQ53, l53, y53, z53⟩, st53⟩ := Jvm.LawKit.callS X52 hx (y := (⟨"com/example/idem/idem/XmlWhiteSpace", "is", "(I)Z"⟩ : MethodName)) hown (mvT hZ (hw _ (List.mem_of_getElem? (i := 1) rfl))) (mvT hZ (hw _ (List.mem_of_getElem? (i := 2) rfl))) (mvT hZ (hw _ (List.mem_of_getElem? (i := 3) rfl))) (mvT hZ (hw _ (List.mem_of_getElem? (i := 4) rfl))) (by decide) (backOf (W := 0) (rm1 l Z a0 hw [] ((32 : Int32) + (((((p2 &&& (2147483647 : Int32)).toUInt32 >>> ((2 : Int32) &&& 31).toUInt32).toInt32) % (5 : Int32)) - (2 : Int32))) h0 n0 Z0) hZ (hw _ (List.mem_of_getElem? (i := 4) rfl)) (hw _ (List.mem_of_getElem? (i := 3) rfl)) (by decide) (by decide)) (g := (mkF m 84 #[.val (.int p1), .val (.int p2), .val (.int (p2 &&& (2147483647 : Int32))), .val (.int ((p2 &&& (2147483647 : Int32)) &&& (3 : Int32))), .val (.int (32 : Int32)), .val (.int (((((p2 &&& (2147483647 : Int32)).toUInt32 >>> ((2 : Int32) &&& 31).toUInt32).toInt32) % (5 : Int32)) - (2 : Int32))), .val (.int ((32 : Int32) + (((((p2 &&& (2147483647 : Int32)).toUInt32 >>> ((2 : Int32) &&& 31).toUInt32).toInt32) % (5 : Int32)) - (2 : Int32)))), .val (.int (1 : Int32)), .unset] [(.int ((32 : Int32) + (((((p2 &&& (2147483647 : Int32)).toUInt32 >>> ((2 : Int32) &&& 31).toUInt32).toInt32) % (5 : Int32)) - (2 : Int32))))])) rfl (by rw [hml]; rfl) (argsL := [(.int ((32 : Int32) + (((((p2 &&& (2147483647 : Int32)).toUInt32 >>> ((2 : Int32) &&& 31).toUInt32).toInt32) % (5 : Int32)) - (2 : Int32))))]) (rest := []) (lenOf pd_0 rfl) rfl (by show 2 * 0 + _ ≤ _; exact Nat.le_of_eq rfl) (hb hby at_84) (fun _ _ => ⟨rfl, e52, (by decide : 0 + 0 ≤ _), (by decide : 0 + 0 ≤ _)⟩)
        dsimp only [Pt.U, Pt.locs, Pt.cells, Pt.slots] at X53 l53 y53 z53 st53 hQ53
        subst l53 y53 z53
        obtain ⟨rfl, N53q, e53⟩ := hQ53
        have N53 := Fr.app N52 N53q
        obtain ⟨_, _, ⟨T54, L54, k54, n54⟩, -, X54, ⟨Lc54, hQ54, l54, y54, z54⟩, st54⟩ := Jvm.LawKit.callS X53 hx (y := (⟨"com/example/idem/idem/XmlWhiteSpaceIsPinLaw", "ref", "(I)Z"⟩ : MethodName)) hown (mvT hZ (hw _ (List.mem_of_getElem? (i := 5) rfl))) (mvT hZ (hw _ (List.mem_of_getElem? (i := 6) rfl))) (mvT hZ (hw _ (List.mem_of_getElem? (i := 7) rfl))) (mvT hZ (hw _ (List.mem_of_getElem? (i := 8) rfl))) (by decide) (backOf (W := 1) (rm2 l Z a0 hw [] ((32 : Int32) + (((((p2 &&& (2147483647 : Int32)).toUInt32 >>> ((2 : Int32) &&& 31).toUInt32).toInt32) % (5 : Int32)) - (2 : Int32))) h0 n0 Z0) hZ (hw _ (List.mem_of_getElem? (i := 8) rfl)) (hw _ (List.mem_of_getElem? (i := 7) rfl)) (by decide) (by decide)) (g := (mkF m 89 #[.val (.int p1), .val (.int p2), .val (.int (p2 &&& (2147483647 : Int32))), .val (.int ((p2 &&& (2147483647 : Int32)) &&& (3 : Int32))), .val (.int (32 : Int32)), .val (.int (((((p2 &&& (2147483647 : Int32)).toUInt32 >>> ((2 : Int32) &&& 31).toUInt32).toInt32) % (5 : Int32)) - (2 : Int32))), .val (.int ((32 : Int32) + (((((p2 &&& (2147483647 : Int32)).toUInt32 >>> ((2 : Int32) &&& 31).toUInt32).toInt32) % (5 : Int32)) - (2 : Int32)))), .val (.int (1 : Int32)), .unset] [(.int ((32 : Int32) + (((((p2 &&& (2147483647 : Int32)).toUInt32 >>> ((2 : Int32) &&& 31).toUInt32).toInt32) % (5 : Int32)) - (2 : Int32)))), (.int (own_F1 ((32 : Int32) + (((((p2 &&& (2147483647 : Int32)).toUInt32 >>> ((2 : Int32) &&& 31).toUInt32).toInt32) % (5 : Int32)) - (2 : Int32)))))])) rfl (by rw [hml]; rfl) (argsL := [(.int ((32 : Int32) + (((((p2 &&& (2147483647 : Int32)).toUInt32 >>> ((2 : Int32) &&& 31).toUInt32).toInt32) % (5 : Int32)) - (2 : Int32))))]) (rest := [(.int (own_F1 ((32 : Int32) + (((((p2 &&& (2147483647 : Int32)).toUInt32 >>> ((2 : Int32) &&& 31).toUInt32).toInt32) % (5 : Int32)) - (2 : Int32)))))]) (lenOf pd_0 rfl) rfl (by show 2 * 0 + _ ≤ _; exact Nat.le_of_eq rfl) (hb hby at_89) (fun _ _ => ⟨rfl, e53, (by decide : 0 + 0 ≤ _), (by decide : 0 + 0 ≤ _)⟩)
        dsimp only [Pt.U, Pt.locs, Pt.cells, Pt.slots] at X54 l54 y54 z54 st54 hQ54
        subst l54 y54 z54
        obtain ⟨rfl, N54q, e54⟩ := hQ54
        have N54 := Fr.app N53 N54q
        have pre55 : ∀ t, Steps p.tables e below (T54.setTop (mkF m 117 #[.val (.int p1), .val (.int p2), .val (.int (p2 &&& (2147483647 : Int32))), .val (.int ((p2 &&& (2147483647 : Int32)) &&& (3 : Int32))), .val (.int (32 : Int32)), .val (.int (((((p2 &&& (2147483647 : Int32)).toUInt32 >>> ((2 : Int32) &&& 31).toUInt32).toInt32) % (5 : Int32)) - (2 : Int32))), .val (.int ((32 : Int32) + (((((p2 &&& (2147483647 : Int32)).toUInt32 >>> ((2 : Int32) &&& 31).toUInt32).toInt32) % (5 : Int32)) - (2 : Int32)))), .val (.int (1 : Int32)), .val (.int (1 : Int32))] [(.int (1 : Int32))])) t → Steps p.tables e below (s₁.setTop (entryFrame m #[(.int p1), (.int p2)] maxLocals)) t := by
          intro t kt
          refine pre44 _ ?_
          show Steps p.tables e below (s₁.setTop (mkF m 34 #[.val (.int p1), .val (.int p2), .val (.int (p2 &&& (2147483647 : Int32))), .val (.int ((p2 &&& (2147483647 : Int32)) &&& (3 : Int32))), .unset, .unset, .unset, .unset, .unset] [(.int (2 : Int32)), (.int ((p2 &&& (2147483647 : Int32)) &&& (3 : Int32)))])) _
          refine XS.icmpYes X0.here hx rfl (pc0 := 34) (pc' := 44) rfl (hb hby at_34) rfl (feq hc34_45).2 (by decide) (by decide) ?_
          show Steps p.tables e below (s₁.setTop (mkF m 44 #[.val (.int p1), .val (.int p2), .val (.int (p2 &&& (2147483647 : Int32))), .val (.int ((p2 &&& (2147483647 : Int32)) &&& (3 : Int32))), .unset, .unset, .unset, .unset, .unset] [])) _
          refine XS.bipush X0.here hx rfl (hb hby at_44) ?_
          show Steps p.tables e below (s₁.setTop (mkF m 46 #[.val (.int p1), .val (.int p2), .val (.int (p2 &&& (2147483647 : Int32))), .val (.int ((p2 &&& (2147483647 : Int32)) &&& (3 : Int32))), .unset, .unset, .unset, .unset, .unset] [(.int (32 : Int32))])) _
          refine XS.istore X0.here hx rfl (hb hby at_46) rfl (l' := #[.val (.int p1), .val (.int p2), .val (.int (p2 &&& (2147483647 : Int32))), .val (.int ((p2 &&& (2147483647 : Int32)) &&& (3 : Int32))), .val (.int (32 : Int32)), .unset, .unset, .unset, .unset]) rfl ?_
          show Steps p.tables e below (s₁.setTop (mkF m 48 #[.val (.int p1), .val (.int p2), .val (.int (p2 &&& (2147483647 : Int32))), .val (.int ((p2 &&& (2147483647 : Int32)) &&& (3 : Int32))), .val (.int (32 : Int32)), .unset, .unset, .unset, .unset] [])) _
          refine XS.iloadN X0.here hx rfl (hb hby at_48) rfl ?_
          show Steps p.tables e below (s₁.setTop (mkF m 49 #[.val (.int p1), .val (.int p2), .val (.int (p2 &&& (2147483647 : Int32))), .val (.int ((p2 &&& (2147483647 : Int32)) &&& (3 : Int32))), .val (.int (32 : Int32)), .unset, .unset, .unset, .unset] [(.int (p2 &&& (2147483647 : Int32)))])) _
          refine XS.iconst X0.here hx rfl (hb hby at_49) ?_
          show Steps p.tables e below (s₁.setTop (mkF m 50 #[.val (.int p1), .val (.int p2), .val (.int (p2 &&& (2147483647 : Int32))), .val (.int ((p2 &&& (2147483647 : Int32)) &&& (3 : Int32))), .val (.int (32 : Int32)), .unset, .unset, .unset, .unset] [(.int (2 : Int32)), (.int (p2 &&& (2147483647 : Int32)))])) _
          refine XS.iushr X0.here hx rfl (hb hby at_50) rfl ?_
          show Steps p.tables e below (s₁.setTop (mkF m 51 #[.val (.int p1), .val (.int p2), .val (.int (p2 &&& (2147483647 : Int32))), .val (.int ((p2 &&& (2147483647 : Int32)) &&& (3 : Int32))), .val (.int (32 : Int32)), .unset, .unset, .unset, .unset] [(.int (((p2 &&& (2147483647 : Int32)).toUInt32 >>> ((2 : Int32) &&& 31).toUInt32).toInt32))])) _
          refine XS.iconst X0.here hx rfl (hb hby at_51) ?_
          show Steps p.tables e below (s₁.setTop (mkF m 52 #[.val (.int p1), .val (.int p2), .val (.int (p2 &&& (2147483647 : Int32))), .val (.int ((p2 &&& (2147483647 : Int32)) &&& (3 : Int32))), .val (.int (32 : Int32)), .unset, .unset, .unset, .unset] [(.int (5 : Int32)), (.int (((p2 &&& (2147483647 : Int32)).toUInt32 >>> ((2 : Int32) &&& 31).toUInt32).toInt32))])) _
          refine iremM X0 hx rfl (hb hby at_52) rfl (by decide) ?_
          show Steps p.tables e below (s₁.setTop (mkF m 53 #[.val (.int p1), .val (.int p2), .val (.int (p2 &&& (2147483647 : Int32))), .val (.int ((p2 &&& (2147483647 : Int32)) &&& (3 : Int32))), .val (.int (32 : Int32)), .unset, .unset, .unset, .unset] [(.int ((((p2 &&& (2147483647 : Int32)).toUInt32 >>> ((2 : Int32) &&& 31).toUInt32).toInt32) % (5 : Int32)))])) _
          refine XS.iconst X0.here hx rfl (hb hby at_53) ?_
          show Steps p.tables e below (s₁.setTop (mkF m 54 #[.val (.int p1), .val (.int p2), .val (.int (p2 &&& (2147483647 : Int32))), .val (.int ((p2 &&& (2147483647 : Int32)) &&& (3 : Int32))), .val (.int (32 : Int32)), .unset, .unset, .unset, .unset] [(.int (2 : Int32)), (.int ((((p2 &&& (2147483647 : Int32)).toUInt32 >>> ((2 : Int32) &&& 31).toUInt32).toInt32) % (5 : Int32)))])) _
          refine XS.isub X0.here hx rfl (hb hby at_54) rfl ?_
          show Steps p.tables e below (s₁.setTop (mkF m 55 #[.val (.int p1), .val (.int p2), .val (.int (p2 &&& (2147483647 : Int32))), .val (.int ((p2 &&& (2147483647 : Int32)) &&& (3 : Int32))), .val (.int (32 : Int32)), .unset, .unset, .unset, .unset] [(.int (((((p2 &&& (2147483647 : Int32)).toUInt32 >>> ((2 : Int32) &&& 31).toUInt32).toInt32) % (5 : Int32)) - (2 : Int32)))])) _
          refine XS.istore X0.here hx rfl (hb hby at_55) rfl (l' := #[.val (.int p1), .val (.int p2), .val (.int (p2 &&& (2147483647 : Int32))), .val (.int ((p2 &&& (2147483647 : Int32)) &&& (3 : Int32))), .val (.int (32 : Int32)), .val (.int (((((p2 &&& (2147483647 : Int32)).toUInt32 >>> ((2 : Int32) &&& 31).toUInt32).toInt32) % (5 : Int32)) - (2 : Int32))), .unset, .unset, .unset]) rfl ?_
          show Steps p.tables e below (s₁.setTop (mkF m 57 #[.val (.int p1), .val (.int p2), .val (.int (p2 &&& (2147483647 : Int32))), .val (.int ((p2 &&& (2147483647 : Int32)) &&& (3 : Int32))), .val (.int (32 : Int32)), .val (.int (((((p2 &&& (2147483647 : Int32)).toUInt32 >>> ((2 : Int32) &&& 31).toUInt32).toInt32) % (5 : Int32)) - (2 : Int32))), .unset, .unset, .unset] [])) _
          refine XS.iload X0.here hx rfl (hb hby at_57) rfl ?_
          show Steps p.tables e below (s₁.setTop (mkF m 59 #[.val (.int p1), .val (.int p2), .val (.int (p2 &&& (2147483647 : Int32))), .val (.int ((p2 &&& (2147483647 : Int32)) &&& (3 : Int32))), .val (.int (32 : Int32)), .val (.int (((((p2 &&& (2147483647 : Int32)).toUInt32 >>> ((2 : Int32) &&& 31).toUInt32).toInt32) % (5 : Int32)) - (2 : Int32))), .unset, .unset, .unset] [(.int (32 : Int32))])) _
          refine XS.iload X0.here hx rfl (hb hby at_59) rfl ?_
          show Steps p.tables e below (s₁.setTop (mkF m 61 #[.val (.int p1), .val (.int p2), .val (.int (p2 &&& (2147483647 : Int32))), .val (.int ((p2 &&& (2147483647 : Int32)) &&& (3 : Int32))), .val (.int (32 : Int32)), .val (.int (((((p2 &&& (2147483647 : Int32)).toUInt32 >>> ((2 : Int32) &&& 31).toUInt32).toInt32) % (5 : Int32)) - (2 : Int32))), .unset, .unset, .unset] [(.int (((((p2 &&& (2147483647 : Int32)).toUInt32 >>> ((2 : Int32) &&& 31).toUInt32).toInt32) % (5 : Int32)) - (2 : Int32))), (.int (32 : Int32))])) _
          refine XS.iadd X0.here hx rfl (hb hby at_61) rfl ?_
          show Steps p.tables e below (s₁.setTop (mkF m 62 #[.val (.int p1), .val (.int p2), .val (.int (p2 &&& (2147483647 : Int32))), .val (.int ((p2 &&& (2147483647 : Int32)) &&& (3 : Int32))), .val (.int (32 : Int32)), .val (.int (((((p2 &&& (2147483647 : Int32)).toUInt32 >>> ((2 : Int32) &&& 31).toUInt32).toInt32) % (5 : Int32)) - (2 : Int32))), .unset, .unset, .unset] [(.int ((32 : Int32) + (((((p2 &&& (2147483647 : Int32)).toUInt32 >>> ((2 : Int32) &&& 31).toUInt32).toInt32) % (5 : Int32)) - (2 : Int32))))])) _
          refine XS.istore X0.here hx rfl (hb hby at_62) rfl (l' := #[.val (.int p1), .val (.int p2), .val (.int (p2 &&& (2147483647 : Int32))), .val (.int ((p2 &&& (2147483647 : Int32)) &&& (3 : Int32))), .val (.int (32 : Int32)), .val (.int (((((p2 &&& (2147483647 : Int32)).toUInt32 >>> ((2 : Int32) &&& 31).toUInt32).toInt32) % (5 : Int32)) - (2 : Int32))), .val (.int ((32 : Int32) + (((((p2 &&& (2147483647 : Int32)).toUInt32 >>> ((2 : Int32) &&& 31).toUInt32).toInt32) % (5 : Int32)) - (2 : Int32)))), .unset, .unset]) rfl ?_
          show Steps p.tables e below (s₁.setTop (mkF m 64 #[.val (.int p1), .val (.int p2), .val (.int (p2 &&& (2147483647 : Int32))), .val (.int ((p2 &&& (2147483647 : Int32)) &&& (3 : Int32))), .val (.int (32 : Int32)), .val (.int (((((p2 &&& (2147483647 : Int32)).toUInt32 >>> ((2 : Int32) &&& 31).toUInt32).toInt32) % (5 : Int32)) - (2 : Int32))), .val (.int ((32 : Int32) + (((((p2 &&& (2147483647 : Int32)).toUInt32 >>> ((2 : Int32) &&& 31).toUInt32).toInt32) % (5 : Int32)) - (2 : Int32)))), .unset, .unset] [])) _
          refine XS.iloadN X0.here hx rfl (hb hby at_64) rfl ?_
          show Steps p.tables e below (s₁.setTop (mkF m 65 #[.val (.int p1), .val (.int p2), .val (.int (p2 &&& (2147483647 : Int32))), .val (.int ((p2 &&& (2147483647 : Int32)) &&& (3 : Int32))), .val (.int (32 : Int32)), .val (.int (((((p2 &&& (2147483647 : Int32)).toUInt32 >>> ((2 : Int32) &&& 31).toUInt32).toInt32) % (5 : Int32)) - (2 : Int32))), .val (.int ((32 : Int32) + (((((p2 &&& (2147483647 : Int32)).toUInt32 >>> ((2 : Int32) &&& 31).toUInt32).toInt32) % (5 : Int32)) - (2 : Int32)))), .unset, .unset] [(.int p1)])) _
          refine st51 _ ?_
          show Steps p.tables e below (T51.setTop (mkF m 68 #[.val (.int p1), .val (.int p2), .val (.int (p2 &&& (2147483647 : Int32))), .val (.int ((p2 &&& (2147483647 : Int32)) &&& (3 : Int32))), .val (.int (32 : Int32)), .val (.int (((((p2 &&& (2147483647 : Int32)).toUInt32 >>> ((2 : Int32) &&& 31).toUInt32).toInt32) % (5 : Int32)) - (2 : Int32))), .val (.int ((32 : Int32) + (((((p2 &&& (2147483647 : Int32)).toUInt32 >>> ((2 : Int32) &&& 31).toUInt32).toInt32) % (5 : Int32)) - (2 : Int32)))), .unset, .unset] [(.int (own_F1 p1))])) _
          refine XS.iloadN X51.here hx rfl (hb hby at_68) rfl ?_
          show Steps p.tables e below (T51.setTop (mkF m 69 #[.val (.int p1), .val (.int p2), .val (.int (p2 &&& (2147483647 : Int32))), .val (.int ((p2 &&& (2147483647 : Int32)) &&& (3 : Int32))), .val (.int (32 : Int32)), .val (.int (((((p2 &&& (2147483647 : Int32)).toUInt32 >>> ((2 : Int32) &&& 31).toUInt32).toInt32) % (5 : Int32)) - (2 : Int32))), .val (.int ((32 : Int32) + (((((p2 &&& (2147483647 : Int32)).toUInt32 >>> ((2 : Int32) &&& 31).toUInt32).toInt32) % (5 : Int32)) - (2 : Int32)))), .unset, .unset] [(.int p1), (.int (own_F1 p1))])) _
          refine st52 _ ?_
          show Steps p.tables e below (T52.setTop (mkF m 72 #[.val (.int p1), .val (.int p2), .val (.int (p2 &&& (2147483647 : Int32))), .val (.int ((p2 &&& (2147483647 : Int32)) &&& (3 : Int32))), .val (.int (32 : Int32)), .val (.int (((((p2 &&& (2147483647 : Int32)).toUInt32 >>> ((2 : Int32) &&& 31).toUInt32).toInt32) % (5 : Int32)) - (2 : Int32))), .val (.int ((32 : Int32) + (((((p2 &&& (2147483647 : Int32)).toUInt32 >>> ((2 : Int32) &&& 31).toUInt32).toInt32) % (5 : Int32)) - (2 : Int32)))), .unset, .unset] [(.int (own_F2 p1)), (.int (own_F1 p1))])) _
          refine XS.icmpNo X52.here hx rfl (hb hby at_72) rfl (teq ((own_12 _) : (own_F1 p1) = (own_F2 p1))).2 ?_
          show Steps p.tables e below (T52.setTop (mkF m 75 #[.val (.int p1), .val (.int p2), .val (.int (p2 &&& (2147483647 : Int32))), .val (.int ((p2 &&& (2147483647 : Int32)) &&& (3 : Int32))), .val (.int (32 : Int32)), .val (.int (((((p2 &&& (2147483647 : Int32)).toUInt32 >>> ((2 : Int32) &&& 31).toUInt32).toInt32) % (5 : Int32)) - (2 : Int32))), .val (.int ((32 : Int32) + (((((p2 &&& (2147483647 : Int32)).toUInt32 >>> ((2 : Int32) &&& 31).toUInt32).toInt32) % (5 : Int32)) - (2 : Int32)))), .unset, .unset] [])) _
          refine XS.iconst X52.here hx rfl (hb hby at_75) ?_
          show Steps p.tables e below (T52.setTop (mkF m 76 #[.val (.int p1), .val (.int p2), .val (.int (p2 &&& (2147483647 : Int32))), .val (.int ((p2 &&& (2147483647 : Int32)) &&& (3 : Int32))), .val (.int (32 : Int32)), .val (.int (((((p2 &&& (2147483647 : Int32)).toUInt32 >>> ((2 : Int32) &&& 31).toUInt32).toInt32) % (5 : Int32)) - (2 : Int32))), .val (.int ((32 : Int32) + (((((p2 &&& (2147483647 : Int32)).toUInt32 >>> ((2 : Int32) &&& 31).toUInt32).toInt32) % (5 : Int32)) - (2 : Int32)))), .unset, .unset] [(.int (1 : Int32))])) _
          refine XS.goto X52.here hx rfl (pc0 := 76) (pc' := 80) rfl (hb hby at_76) (by decide) (by decide) ?_
          show Steps p.tables e below (T52.setTop (mkF m 80 #[.val (.int p1), .val (.int p2), .val (.int (p2 &&& (2147483647 : Int32))), .val (.int ((p2 &&& (2147483647 : Int32)) &&& (3 : Int32))), .val (.int (32 : Int32)), .val (.int (((((p2 &&& (2147483647 : Int32)).toUInt32 >>> ((2 : Int32) &&& 31).toUInt32).toInt32) % (5 : Int32)) - (2 : Int32))), .val (.int ((32 : Int32) + (((((p2 &&& (2147483647 : Int32)).toUInt32 >>> ((2 : Int32) &&& 31).toUInt32).toInt32) % (5 : Int32)) - (2 : Int32)))), .unset, .unset] [(.int (1 : Int32))])) _
          refine XS.istore X52.here hx rfl (hb hby at_80) rfl (l' := #[.val (.int p1), .val (.int p2), .val (.int (p2 &&& (2147483647 : Int32))), .val (.int ((p2 &&& (2147483647 : Int32)) &&& (3 : Int32))), .val (.int (32 : Int32)), .val (.int (((((p2 &&& (2147483647 : Int32)).toUInt32 >>> ((2 : Int32) &&& 31).toUInt32).toInt32) % (5 : Int32)) - (2 : Int32))), .val (.int ((32 : Int32) + (((((p2 &&& (2147483647 : Int32)).toUInt32 >>> ((2 : Int32) &&& 31).toUInt32).toInt32) % (5 : Int32)) - (2 : Int32)))), .val (.int (1 : Int32)), .unset]) rfl ?_
          show Steps p.tables e below (T52.setTop (mkF m 82 #[.val (.int p1), .val (.int p2), .val (.int (p2 &&& (2147483647 : Int32))), .val (.int ((p2 &&& (2147483647 : Int32)) &&& (3 : Int32))), .val (.int (32 : Int32)), .val (.int (((((p2 &&& (2147483647 : Int32)).toUInt32 >>> ((2 : Int32) &&& 31).toUInt32).toInt32) % (5 : Int32)) - (2 : Int32))), .val (.int ((32 : Int32) + (((((p2 &&& (2147483647 : Int32)).toUInt32 >>> ((2 : Int32) &&& 31).toUInt32).toInt32) % (5 : Int32)) - (2 : Int32)))), .val (.int (1 : Int32)), .unset] [])) _
          refine XS.iload X52.here hx rfl (hb hby at_82) rfl ?_
          show Steps p.tables e below (T52.setTop (mkF m 84 #[.val (.int p1), .val (.int p2), .val (.int (p2 &&& (2147483647 : Int32))), .val (.int ((p2 &&& (2147483647 : Int32)) &&& (3 : Int32))), .val (.int (32 : Int32)), .val (.int (((((p2 &&& (2147483647 : Int32)).toUInt32 >>> ((2 : Int32) &&& 31).toUInt32).toInt32) % (5 : Int32)) - (2 : Int32))), .val (.int ((32 : Int32) + (((((p2 &&& (2147483647 : Int32)).toUInt32 >>> ((2 : Int32) &&& 31).toUInt32).toInt32) % (5 : Int32)) - (2 : Int32)))), .val (.int (1 : Int32)), .unset] [(.int ((32 : Int32) + (((((p2 &&& (2147483647 : Int32)).toUInt32 >>> ((2 : Int32) &&& 31).toUInt32).toInt32) % (5 : Int32)) - (2 : Int32))))])) _
          refine st53 _ ?_
          show Steps p.tables e below (T53.setTop (mkF m 87 #[.val (.int p1), .val (.int p2), .val (.int (p2 &&& (2147483647 : Int32))), .val (.int ((p2 &&& (2147483647 : Int32)) &&& (3 : Int32))), .val (.int (32 : Int32)), .val (.int (((((p2 &&& (2147483647 : Int32)).toUInt32 >>> ((2 : Int32) &&& 31).toUInt32).toInt32) % (5 : Int32)) - (2 : Int32))), .val (.int ((32 : Int32) + (((((p2 &&& (2147483647 : Int32)).toUInt32 >>> ((2 : Int32) &&& 31).toUInt32).toInt32) % (5 : Int32)) - (2 : Int32)))), .val (.int (1 : Int32)), .unset] [(.int (own_F1 ((32 : Int32) + (((((p2 &&& (2147483647 : Int32)).toUInt32 >>> ((2 : Int32) &&& 31).toUInt32).toInt32) % (5 : Int32)) - (2 : Int32)))))])) _
          refine XS.iload X53.here hx rfl (hb hby at_87) rfl ?_
          show Steps p.tables e below (T53.setTop (mkF m 89 #[.val (.int p1), .val (.int p2), .val (.int (p2 &&& (2147483647 : Int32))), .val (.int ((p2 &&& (2147483647 : Int32)) &&& (3 : Int32))), .val (.int (32 : Int32)), .val (.int (((((p2 &&& (2147483647 : Int32)).toUInt32 >>> ((2 : Int32) &&& 31).toUInt32).toInt32) % (5 : Int32)) - (2 : Int32))), .val (.int ((32 : Int32) + (((((p2 &&& (2147483647 : Int32)).toUInt32 >>> ((2 : Int32) &&& 31).toUInt32).toInt32) % (5 : Int32)) - (2 : Int32)))), .val (.int (1 : Int32)), .unset] [(.int ((32 : Int32) + (((((p2 &&& (2147483647 : Int32)).toUInt32 >>> ((2 : Int32) &&& 31).toUInt32).toInt32) % (5 : Int32)) - (2 : Int32)))), (.int (own_F1 ((32 : Int32) + (((((p2 &&& (2147483647 : Int32)).toUInt32 >>> ((2 : Int32) &&& 31).toUInt32).toInt32) % (5 : Int32)) - (2 : Int32)))))])) _
          refine st54 _ ?_
          show Steps p.tables e below (T54.setTop (mkF m 92 #[.val (.int p1), .val (.int p2), .val (.int (p2 &&& (2147483647 : Int32))), .val (.int ((p2 &&& (2147483647 : Int32)) &&& (3 : Int32))), .val (.int (32 : Int32)), .val (.int (((((p2 &&& (2147483647 : Int32)).toUInt32 >>> ((2 : Int32) &&& 31).toUInt32).toInt32) % (5 : Int32)) - (2 : Int32))), .val (.int ((32 : Int32) + (((((p2 &&& (2147483647 : Int32)).toUInt32 >>> ((2 : Int32) &&& 31).toUInt32).toInt32) % (5 : Int32)) - (2 : Int32)))), .val (.int (1 : Int32)), .unset] [(.int (own_F2 ((32 : Int32) + (((((p2 &&& (2147483647 : Int32)).toUInt32 >>> ((2 : Int32) &&& 31).toUInt32).toInt32) % (5 : Int32)) - (2 : Int32))))), (.int (own_F1 ((32 : Int32) + (((((p2 &&& (2147483647 : Int32)).toUInt32 >>> ((2 : Int32) &&& 31).toUInt32).toInt32) % (5 : Int32)) - (2 : Int32)))))])) _
          refine XS.icmpNo X54.here hx rfl (hb hby at_92) rfl (teq ((own_12 _) : (own_F1 ((32 : Int32) + (((((p2 &&& (2147483647 : Int32)).toUInt32 >>> ((2 : Int32) &&& 31).toUInt32).toInt32) % (5 : Int32)) - (2 : Int32)))) = (own_F2 ((32 : Int32) + (((((p2 &&& (2147483647 : Int32)).toUInt32 >>> ((2 : Int32) &&& 31).toUInt32).toInt32) % (5 : Int32)) - (2 : Int32)))))).2 ?_
          show Steps p.tables e below (T54.setTop (mkF m 95 #[.val (.int p1), .val (.int p2), .val (.int (p2 &&& (2147483647 : Int32))), .val (.int ((p2 &&& (2147483647 : Int32)) &&& (3 : Int32))), .val (.int (32 : Int32)), .val (.int (((((p2 &&& (2147483647 : Int32)).toUInt32 >>> ((2 : Int32) &&& 31).toUInt32).toInt32) % (5 : Int32)) - (2 : Int32))), .val (.int ((32 : Int32) + (((((p2 &&& (2147483647 : Int32)).toUInt32 >>> ((2 : Int32) &&& 31).toUInt32).toInt32) % (5 : Int32)) - (2 : Int32)))), .val (.int (1 : Int32)), .unset] [])) _
          refine XS.iconst X54.here hx rfl (hb hby at_95) ?_
          show Steps p.tables e below (T54.setTop (mkF m 96 #[.val (.int p1), .val (.int p2), .val (.int (p2 &&& (2147483647 : Int32))), .val (.int ((p2 &&& (2147483647 : Int32)) &&& (3 : Int32))), .val (.int (32 : Int32)), .val (.int (((((p2 &&& (2147483647 : Int32)).toUInt32 >>> ((2 : Int32) &&& 31).toUInt32).toInt32) % (5 : Int32)) - (2 : Int32))), .val (.int ((32 : Int32) + (((((p2 &&& (2147483647 : Int32)).toUInt32 >>> ((2 : Int32) &&& 31).toUInt32).toInt32) % (5 : Int32)) - (2 : Int32)))), .val (.int (1 : Int32)), .unset] [(.int (1 : Int32))])) _
          refine XS.goto X54.here hx rfl (pc0 := 96) (pc' := 100) rfl (hb hby at_96) (by decide) (by decide) ?_
          show Steps p.tables e below (T54.setTop (mkF m 100 #[.val (.int p1), .val (.int p2), .val (.int (p2 &&& (2147483647 : Int32))), .val (.int ((p2 &&& (2147483647 : Int32)) &&& (3 : Int32))), .val (.int (32 : Int32)), .val (.int (((((p2 &&& (2147483647 : Int32)).toUInt32 >>> ((2 : Int32) &&& 31).toUInt32).toInt32) % (5 : Int32)) - (2 : Int32))), .val (.int ((32 : Int32) + (((((p2 &&& (2147483647 : Int32)).toUInt32 >>> ((2 : Int32) &&& 31).toUInt32).toInt32) % (5 : Int32)) - (2 : Int32)))), .val (.int (1 : Int32)), .unset] [(.int (1 : Int32))])) _
          refine XS.istore X54.here hx rfl (hb hby at_100) rfl (l' := #[.val (.int p1), .val (.int p2), .val (.int (p2 &&& (2147483647 : Int32))), .val (.int ((p2 &&& (2147483647 : Int32)) &&& (3 : Int32))), .val (.int (32 : Int32)), .val (.int (((((p2 &&& (2147483647 : Int32)).toUInt32 >>> ((2 : Int32) &&& 31).toUInt32).toInt32) % (5 : Int32)) - (2 : Int32))), .val (.int ((32 : Int32) + (((((p2 &&& (2147483647 : Int32)).toUInt32 >>> ((2 : Int32) &&& 31).toUInt32).toInt32) % (5 : Int32)) - (2 : Int32)))), .val (.int (1 : Int32)), .val (.int (1 : Int32))]) rfl ?_
          show Steps p.tables e below (T54.setTop (mkF m 102 #[.val (.int p1), .val (.int p2), .val (.int (p2 &&& (2147483647 : Int32))), .val (.int ((p2 &&& (2147483647 : Int32)) &&& (3 : Int32))), .val (.int (32 : Int32)), .val (.int (((((p2 &&& (2147483647 : Int32)).toUInt32 >>> ((2 : Int32) &&& 31).toUInt32).toInt32) % (5 : Int32)) - (2 : Int32))), .val (.int ((32 : Int32) + (((((p2 &&& (2147483647 : Int32)).toUInt32 >>> ((2 : Int32) &&& 31).toUInt32).toInt32) % (5 : Int32)) - (2 : Int32)))), .val (.int (1 : Int32)), .val (.int (1 : Int32))] [])) _
          refine XS.iload X54.here hx rfl (hb hby at_102) rfl ?_
          show Steps p.tables e below (T54.setTop (mkF m 104 #[.val (.int p1), .val (.int p2), .val (.int (p2 &&& (2147483647 : Int32))), .val (.int ((p2 &&& (2147483647 : Int32)) &&& (3 : Int32))), .val (.int (32 : Int32)), .val (.int (((((p2 &&& (2147483647 : Int32)).toUInt32 >>> ((2 : Int32) &&& 31).toUInt32).toInt32) % (5 : Int32)) - (2 : Int32))), .val (.int ((32 : Int32) + (((((p2 &&& (2147483647 : Int32)).toUInt32 >>> ((2 : Int32) &&& 31).toUInt32).toInt32) % (5 : Int32)) - (2 : Int32)))), .val (.int (1 : Int32)), .val (.int (1 : Int32))] [(.int (1 : Int32))])) _
          refine XS.ifNo X54.here hx rfl (hb hby at_104) rfl ((if0 _ _).trans (feq (by decide : ¬ ((1 : Int32) = (0 : Int32)))).1) ?_
          show Steps p.tables e below (T54.setTop (mkF m 107 #[.val (.int p1), .val (.int p2), .val (.int (p2 &&& (2147483647 : Int32))), .val (.int ((p2 &&& (2147483647 : Int32)) &&& (3 : Int32))), .val (.int (32 : Int32)), .val (.int (((((p2 &&& (2147483647 : Int32)).toUInt32 >>> ((2 : Int32) &&& 31).toUInt32).toInt32) % (5 : Int32)) - (2 : Int32))), .val (.int ((32 : Int32) + (((((p2 &&& (2147483647 : Int32)).toUInt32 >>> ((2 : Int32) &&& 31).toUInt32).toInt32) % (5 : Int32)) - (2 : Int32)))), .val (.int (1 : Int32)), .val (.int (1 : Int32))] [])) _
          refine XS.iload X54.here hx rfl (hb hby at_107) rfl ?_
          show Steps p.tables e below (T54.setTop (mkF m 109 #[.val (.int p1), .val (.int p2), .val (.int (p2 &&& (2147483647 : Int32))), .val (.int ((p2 &&& (2147483647 : Int32)) &&& (3 : Int32))), .val (.int (32 : Int32)), .val (.int (((((p2 &&& (2147483647 : Int32)).toUInt32 >>> ((2 : Int32) &&& 31).toUInt32).toInt32) % (5 : Int32)) - (2 : Int32))), .val (.int ((32 : Int32) + (((((p2 &&& (2147483647 : Int32)).toUInt32 >>> ((2 : Int32) &&& 31).toUInt32).toInt32) % (5 : Int32)) - (2 : Int32)))), .val (.int (1 : Int32)), .val (.int (1 : Int32))] [(.int (1 : Int32))])) _
          refine XS.ifNo X54.here hx rfl (hb hby at_109) rfl ((if0 _ _).trans (feq (by decide : ¬ ((1 : Int32) = (0 : Int32)))).1) ?_
          show Steps p.tables e below (T54.setTop (mkF m 112 #[.val (.int p1), .val (.int p2), .val (.int (p2 &&& (2147483647 : Int32))), .val (.int ((p2 &&& (2147483647 : Int32)) &&& (3 : Int32))), .val (.int (32 : Int32)), .val (.int (((((p2 &&& (2147483647 : Int32)).toUInt32 >>> ((2 : Int32) &&& 31).toUInt32).toInt32) % (5 : Int32)) - (2 : Int32))), .val (.int ((32 : Int32) + (((((p2 &&& (2147483647 : Int32)).toUInt32 >>> ((2 : Int32) &&& 31).toUInt32).toInt32) % (5 : Int32)) - (2 : Int32)))), .val (.int (1 : Int32)), .val (.int (1 : Int32))] [])) _
          refine XS.iconst X54.here hx rfl (hb hby at_112) ?_
          show Steps p.tables e below (T54.setTop (mkF m 113 #[.val (.int p1), .val (.int p2), .val (.int (p2 &&& (2147483647 : Int32))), .val (.int ((p2 &&& (2147483647 : Int32)) &&& (3 : Int32))), .val (.int (32 : Int32)), .val (.int (((((p2 &&& (2147483647 : Int32)).toUInt32 >>> ((2 : Int32) &&& 31).toUInt32).toInt32) % (5 : Int32)) - (2 : Int32))), .val (.int ((32 : Int32) + (((((p2 &&& (2147483647 : Int32)).toUInt32 >>> ((2 : Int32) &&& 31).toUInt32).toInt32) % (5 : Int32)) - (2 : Int32)))), .val (.int (1 : Int32)), .val (.int (1 : Int32))] [(.int (1 : Int32))])) _
          refine XS.goto X54.here hx rfl (pc0 := 113) (pc' := 117) rfl (hb hby at_113) (by decide) (by decide) ?_
          exact kt
        obtain ⟨fs, hr, hrun, hended, hW, hsame⟩ := X54.leave (v := some (.int (1 : Int32))) (fun h => by rw [Bd.returns] at h; cases h)
        refine ⟨_, _, pre55 _ ?_, hrun, hended, _, _, rfl, ?_, ⟨_, rfl⟩, hW, hsame.mono (by decide) (by decide)⟩
        · show Steps p.tables e below (T54.setTop (mkF m 117 #[.val (.int p1), .val (.int p2), .val (.int (p2 &&& (2147483647 : Int32))), .val (.int ((p2 &&& (2147483647 : Int32)) &&& (3 : Int32))), .val (.int (32 : Int32)), .val (.int (((((p2 &&& (2147483647 : Int32)).toUInt32 >>> ((2 : Int32) &&& 31).toUInt32).toInt32) % (5 : Int32)) - (2 : Int32))), .val (.int ((32 : Int32) + (((((p2 &&& (2147483647 : Int32)).toUInt32 >>> ((2 : Int32) &&& 31).toUInt32).toInt32) % (5 : Int32)) - (2 : Int32)))), .val (.int (1 : Int32)), .val (.int (1 : Int32))] [(.int (1 : Int32))])) _
          exact retN X54 hx (t := .boolean) Bd.returns (by simp) (hb hby at_117) hr
        · show Q0 Z p1 p2 h0 n0 _ T54.heap _
          rw [e54]
          exact ⟨rfl, N54, rfl⟩
set_option maxRecDepth 65536 in
set_option maxHeartbeats 40000000 in
theorem comes_1 {Post : Tables → Env → Array Value → State → Outcome → State → Prop} (hpost : ∀ tb e args s v u, (limb_1_1.after args s (.returned v) u = true ∧ limb_1_2.after args s (.returned v) u = true ∧ True) → FrameEnd s (.returned v) u (Jvm.fieldLocs frame_1_writes args s ++ Jvm.arrayLocs frame_1_arrays args s ++ Jvm.staticLocs frame_1_statics s) 0 0 → Post tb e args s (.returned v) u) :
    ArmFor flags0 classFile x code maxLocals ret World_1 tables_1 room_1 Calls_1 rest_1 Pre_1 Post := by
  intro l hfl _ _ p e ha hc hk s m args below hf hA hF happ hP
  obtain ⟨hcalls, hrest, hpre⟩ := hP
  obtain ⟨-, -, -, hnamed, -, -, -, hat⟩ := (Spec.applies_iff hf).mp happ
  obtain ⟨hg, hn⟩ := and_e (Cond.before_iff.mp (show (Jvm.Cond.and given_1 narrow_1).before args s = true from hpre))
  obtain ⟨gc, gr0⟩ := and_e hg
  obtain ⟨ga0, gr1⟩ := and_e gr0
  obtain ⟨w0, w1, rfl⟩ : ∃ w0 w1 : Value, args = #[w0, w1] := by
    have hs : args.size = 2 := by simpa [Cond.value, given_1] using gc
    obtain ⟨L⟩ := args
    match L, hs with
    | [w0, w1], _ => exact ⟨w0, w1, rfl⟩
  have hw := fun d (hd : d ∈ tables_1) => atoms_spec (ws := Jvm.Cond.code x code maxLocals ret :: tables_1) hat d (List.mem_cons_of_mem _ hd)
  have hfit : Fit s := fun {y c} hc i hi => by
    obtain ⟨ha, rfl⟩ := Array.getElem?_eq_some_iff.mp hc
    have q := List.all_eq_true.mp ((Array.all_eq_true_iff_forall_mem.mp hF) _ (Array.getElem_mem ha)) i (List.mem_range.mpr hi)
    simpa [Array.getElem?_eq_getElem hi] using q
  obtain ⟨i0, ei0⟩ := is_v ga0
  obtain rfl : w0 = (.int i0) := Option.some.inj ei0
  obtain ⟨i1, ei1⟩ := is_v gr1
  obtain rfl : w1 = (.int i1) := Option.some.inj ei1
  obtain ⟨n, o, h1, h2, h3, _, L, rfl, ⟨rfl, N, -⟩, hq⟩ := rm0 l s _ hw tables_1 i0 i1 s.heap s.heap.size (Nat.le_refl _) p e ha hc hk s m _ below hf ((Spec.applies_iff_loose hf).mp happ).1 ⟨rfl, State.Warmed39.refl s, rfl⟩ trivial
  refine ⟨n, _, h1, h2, h3, hpost _ _ _ _ _ _ ⟨Cond.after_iff.mpr rfl, Cond.after_iff.mpr (eq_i res_at (Term.int_eval (1)) rfl), trivial⟩ ⟨hq.1, hq.2.1, (hq.2.2.sift fun y hy => Or.inr (N y hy)).mono (by decide) (by decide)⟩⟩
theorem main_1_1 : Claimed_1_1 := comes_1 fun _ _ _ _ _ _ h hF => ⟨h.1, hF⟩
theorem main_1_2 : Claimed_1_2 := comes_1 fun _ _ _ _ _ _ h hF => ⟨h.2.1, hF⟩
end Jvm.Pilot.@@N@@
namespace Jvm.Pilot.@@N@@
open Jvm Jvm.ClassFile Sem Op Lib Jvm.Free Jvm.Stand Jvm.Pilot.@@N@@.Jvm.D
/-! MADE BY PROGRAM (witnessworld.py) out of the Statement's table words and the real class files: 7 classes; the members and pool entries that the words name. The judged class is class 1, her method 2. -/
namespace start1
open Jvm.ClassFile
def u (s : String) : CpInfo := .utf8 (stringToUtf16 s)
/-- a pool by its gaps: so many unusable entries, then the entry; so many at the end -/
def gap : Nat → List CpInfo → List CpInfo
  | 0, r => r
  | n + 1, r => .unusable :: gap n r
def poolList (es : List (Nat × CpInfo)) (last : Nat) : List CpInfo := es.foldr (fun e r => gap e.1 (e.2 :: r)) (gap last [])
def pool (es : List (Nat × CpInfo)) (last : Nat) : Array CpInfo := ⟨poolList es last⟩
def fileOf (pool : Array CpInfo) (this : Nat) (attrs : Array Attribute := #[]) (ms : Array MethodInfo := #[]) (fl : Nat := 33) (sup : Nat := 0) (ifs : Array Nat := #[]) (fds : Array FieldInfo := #[]) : ClassFile where
  minorVersion := 0
  majorVersion := 65
  constantPool := pool
  accessFlags := fl
  thisClass := this
  superClass := sup
  interfaces := ifs
  fields := fds
  methods := ms
  attributes := attrs
def plain (name : String) (sup : Option ClassId) : Class where
  name := name
  kind := .ordinary
  loader := none
  accessFlags := 33
  super := sup
  interfaces := #[]
  cf := none
  fields := #[]
  methods := #[]
  instanceTypes := #[]
  staticTypes := #[]
  resolved := #[]
  callSites := []
  init := .initialized
  statics := none
  mirror := none

def pool0 : Array CpInfo := pool [(5, u "<init>"), (0, u "()V"), (1, .class_ 10), (1, u "java/lang/Object")] 113

def k0m0 : Method := { name := "<init>", desc := "()V", sig := { parameters := [], returnType := none }, accessFlags := 1, code := none }
/-- java/lang/Object -/
def k0 : Class := { plain "java/lang/Object" none with
  accessFlags := 33
  interfaces := #[]
  cf := some (fileOf pool0 8 #[] #[{ accessFlags := 1, nameIndex := 5, descriptorIndex := 6, attributes := #[] }] 33 0 #[] #[])
  fields := #[]
  methods := #[k0m0]
  instanceTypes := #[]
  staticTypes := #[]
  resolved := Array.replicate 124 none
  statics := none }

def pool1 : Array CpInfo := pool [(2, .class_ 4), (1, u "java/lang/Object"), (0, u "<init>"), (0, u "()V"), (0, .integer 2147483647), (0, .methodref 9 10), (0, .class_ 11), (0, .nameAndType 12 13), (0, u "com/example/idem/idem/XmlWhiteSpace"), (0, u "is"), (0, u "(I)Z"), (0, .methodref 15 16), (0, .class_ 17), (0, .nameAndType 18 13), (0, u "com/example/idem/idem/XmlWhiteSpaceIsPinLaw"), (0, u "ref"), (3, u "law"), (0, u "(II)Z")] 2

def k1m0 : Method := { name := "<init>", desc := "()V", sig := { parameters := [], returnType := none }, accessFlags := 2, code := none }
def k1c1 : Code := { maxStack := 2, maxLocals := 1, code := method_2_code, exceptionTable := #[], attributes := #[] }
def k1m1 : Method := { name := "ref", desc := "(I)Z", sig := { parameters := [.int], returnType := some .boolean }, accessFlags := 10, code := some k1c1 }
def k1c2 : Code := { maxStack := 2, maxLocals := 9, code := code, exceptionTable := #[], attributes := #[] }
def k1m2 : Method := { name := "law", desc := "(II)Z", sig := { parameters := [.int, .int], returnType := some .boolean }, accessFlags := 9, code := some k1c2 }
/-- com/example/idem/idem/XmlWhiteSpaceIsPinLaw -/
def k1 : Class := { plain "com/example/idem/idem/XmlWhiteSpaceIsPinLaw" (some 0) with
  accessFlags := 49
  interfaces := #[]
  cf := some (fileOf pool1 15 #[] #[{ accessFlags := 2, nameIndex := 5, descriptorIndex := 6, attributes := #[] }, { accessFlags := 10, nameIndex := 18, descriptorIndex := 13, attributes := #[] }, { accessFlags := 9, nameIndex := 22, descriptorIndex := 23, attributes := #[] }] 49 2 #[] #[])
  fields := #[]
  methods := #[k1m0, k1m1, k1m2]
  instanceTypes := #[]
  staticTypes := #[]
  resolved := Array.replicate 26 none
  statics := none }

def pool2 : Array CpInfo := pool [(2, .class_ 4), (1, u "java/lang/Object"), (0, u "<init>"), (0, u "()V"), (11, .class_ 20), (1, u "com/example/idem/idem/XmlWhiteSpace"), (0, u "is"), (0, u "(I)Z")] 26

def k2m0 : Method := { name := "<init>", desc := "()V", sig := { parameters := [], returnType := none }, accessFlags := 2, code := none }
def k2c1 : Code := { maxStack := 2, maxLocals := 1, code := prog_106_method_2_code, exceptionTable := #[], attributes := #[] }
def k2m1 : Method := { name := "is", desc := "(I)Z", sig := { parameters := [.int], returnType := some .boolean }, accessFlags := 8, code := some k2c1 }
/-- com/example/idem/idem/XmlWhiteSpace -/
def k2 : Class := { plain "com/example/idem/idem/XmlWhiteSpace" (some 0) with
  accessFlags := 48
  interfaces := #[]
  cf := some (fileOf pool2 18 #[] #[{ accessFlags := 2, nameIndex := 5, descriptorIndex := 6, attributes := #[] }, { accessFlags := 8, nameIndex := 21, descriptorIndex := 22, attributes := #[] }] 48 2 #[] #[])
  fields := #[]
  methods := #[k2m0, k2m1]
  instanceTypes := #[]
  staticTypes := #[]
  resolved := Array.replicate 49 none
  statics := none }

def pool3 : Array CpInfo := pool [(1, u "java/lang/Cloneable"), (0, .class_ 1), (0, u "java/lang/Object"), (0, .class_ 3)] 3

/-- java/lang/Cloneable -/
def k3 : Class := { plain "java/lang/Cloneable" (some 0) with
  accessFlags := 1537
  interfaces := #[]
  cf := some (fileOf pool3 2 #[] #[] 1537 4 #[] #[])
  fields := #[]
  methods := #[]
  instanceTypes := #[]
  staticTypes := #[]
  resolved := Array.replicate 8 none
  statics := none }

def pool4 : Array CpInfo := pool [(1, u "java/io/Serializable"), (0, .class_ 1), (0, u "java/lang/Object"), (0, .class_ 3)] 3

/-- java/io/Serializable -/
def k4 : Class := { plain "java/io/Serializable" (some 0) with
  accessFlags := 1537
  interfaces := #[]
  cf := some (fileOf pool4 2 #[] #[] 1537 4 #[] #[])
  fields := #[]
  methods := #[]
  instanceTypes := #[]
  staticTypes := #[]
  resolved := Array.replicate 8 none
  statics := none }

/-- the primitive byte -/
def k5 : Class := { plain "byte" none with kind := .primitive 'B', accessFlags := 0x411 }
/-- [B -/
def k6 : Class := { plain "[B" (some 0) with kind := .array 5 .byte, interfaces := #[3, 4], accessFlags := 1041 }

def heap : Heap := #[]
def classes : Array Class := #[k0, k1, k2, k3, k4, k5, k6]
def interned : List (Array UInt16 × Addr) := []
def slotsUsed : Nat := 0
def theMethod : MethodId := ⟨1, 2⟩
def args0 : Array Value := #[.int 7, .int 9]
def aboutOver (below : List Frame) : State where
  vm := { classes := classes, interned := interned.toArray }
  heap := heap
  slotsUsed := slotsUsed
  threads := #[{ frames := .invoking theMethod args0 :: below }]
def below0 : List Frame := [.native { method := ⟨0, 0⟩, args := #[] }]
def about1 : State := aboutOver below0
def p0 : Program := .bare "" "" ""
def e0 : Env := launch0.env 0 0 0
theorem w_frames : about1.frames = Frame.invoking theMethod args0 :: below0 := rfl
set_option maxRecDepth 65536 in
theorem w_args : argsFit about1.vm theMethod args0 = true := by decide +kernel
set_option maxRecDepth 65536 in
theorem w_heap : heapFits about1 = true := by decide +kernel
set_option maxRecDepth 65536 in
theorem w_runnable : about1.curStatus? = some .runnable := by decide +kernel
set_option maxRecDepth 65536 in
theorem w_alone : about1.alone = true := by decide +kernel
set_option maxRecDepth 65536 in
theorem w_named : about1.methodNamed? x = some theMethod := by decide +kernel
set_option maxRecDepth 65536 in
theorem w_hears : about1.hears theMethod below0 = true := by decide +kernel
set_option maxRecDepth 65536 in
theorem w_ripe : about1.ripe theMethod args0 below0 = true := by decide +kernel
theorem w_running : about1.status = .running := rfl
set_option maxRecDepth 65536 in
theorem w_room : about1.hasRoom e0.platform room_1 = true :=
  launch0.hasRoom_least _ room_1 (by decide +kernel) (by decide +kernel) (by decide +kernel) (by decide +kernel) (by decide +kernel) (by decide +kernel)
theorem allAtoms_all (ts : List Jvm.Cond) (a : Array Jvm.Value) (st : Jvm.State) : (allAtoms ts).before a st = ts.all (fun c => c.before a st) := by
  induction ts with
  | nil => rfl
  | cons c t ih =>
    show (Jvm.Cond.and c (allAtoms t)).before a st = _
    rw [Jvm.Cond.before_and, ih, List.all_cons]
def words1 : List Jvm.Cond := Jvm.Cond.code x code maxLocals ret :: tables_1
/-- a 'code' word, met by the world's own term for the bytes: nothing is compared byte by byte -/
theorem code_word {y : MethodName} {bytes : ByteArray} {mx : Nat} {rt : Option FieldType} {a : Array Value} {s : State} {m : MethodId} {meth : Method} {c : Code} (h1 : s.methodNamed? y = some m) (h2 : s.vm.method? m = some meth) (h3 : meth.code = some c) (h4 : c.code = bytes)
    (h5 : (c.maxLocals == mx && c.exceptionTable.isEmpty && decide (c.maxStack ≤ mostOperands) && decide (meth.sig.returnType = rt) && !meth.locks && decide (parseMethodDescriptor y.desc = some meth.sig)) = true) : (Jvm.Cond.code y bytes mx rt).before a s = true := by
  simp only [Bool.and_eq_true, beq_iff_eq, Bool.not_eq_true', decide_eq_true_eq] at h5
  obtain ⟨⟨⟨⟨⟨g1, g2⟩, g3⟩, g4⟩, g5⟩, g6⟩ := h5
  simp [Cond.before, Cond.holds, Cond.value, h1, h2, h3, h4, g1, g2, g3, g4, g5, g6]
def isCode : Jvm.Cond → Bool
  | .code _ _ _ _ => true
  | _ => false
theorem all_split {L : List Jvm.Cond} {P : Jvm.Cond → Bool} (h1 : L.all (fun c => isCode c || P c) = true) (h2 : ∀ c ∈ L.filter isCode, P c = true) : L.all P = true := by
  refine List.all_eq_true.mpr fun c hc => ?_
  have h := List.all_eq_true.mp h1 c hc
  rcases Bool.eq_false_or_eq_true (isCode c) with hi | hi
  · exact h2 c (List.mem_filter.mpr ⟨hc, hi⟩)
  · simpa [hi] using h
set_option maxRecDepth 65536 in
theorem w_c0 : (Jvm.Cond.code x code maxLocals ret).before args0 about1 = true := code_word (m := ⟨1, 2⟩) (meth := k1m2) (c := k1c2) (by decide +kernel) rfl rfl rfl (by decide +kernel)
set_option maxRecDepth 65536 in
theorem w_c1 : (Jvm.Cond.code ({ cls := "com/example/idem/idem/XmlWhiteSpace", name := "is", desc := "(I)Z" } : Jvm.MethodName) prog_106_method_2_code (1 : Nat) (Option.some Jvm.ClassFile.FieldType.boolean)).before args0 about1 = true := code_word (m := ⟨2, 1⟩) (meth := k2m1) (c := k2c1) (by decide +kernel) rfl rfl rfl (by decide +kernel)
set_option maxRecDepth 65536 in
theorem w_c2 : (Jvm.Cond.code ({ cls := "com/example/idem/idem/XmlWhiteSpaceIsPinLaw", name := "ref", desc := "(I)Z" } : Jvm.MethodName) method_2_code (1 : Nat) (Option.some Jvm.ClassFile.FieldType.boolean)).before args0 about1 = true := code_word (m := ⟨1, 1⟩) (meth := k1m1) (c := k1c1) (by decide +kernel) rfl rfl rfl (by decide +kernel)
def codes1 : List Jvm.Cond := [Jvm.Cond.code x code maxLocals ret, Jvm.Cond.code ({ cls := "com/example/idem/idem/XmlWhiteSpace", name := "is", desc := "(I)Z" } : Jvm.MethodName) prog_106_method_2_code (1 : Nat) (Option.some Jvm.ClassFile.FieldType.boolean), Jvm.Cond.code ({ cls := "com/example/idem/idem/XmlWhiteSpaceIsPinLaw", name := "ref", desc := "(I)Z" } : Jvm.MethodName) method_2_code (1 : Nat) (Option.some Jvm.ClassFile.FieldType.boolean)]
set_option maxRecDepth 65536 in
theorem codes_eq : words1.filter isCode = codes1 := rfl
theorem w_codes : ∀ c ∈ words1.filter isCode, c.before args0 about1 = true := by
  rw [codes_eq]
  intro c hc
  simp only [codes1, List.mem_cons, List.not_mem_nil, or_false] at hc
  rcases hc with rfl | rfl | rfl
  · exact w_c0
  · exact w_c1
  · exact w_c2
set_option maxRecDepth 65536 in
theorem w_t1 : words1.all (fun c => isCode c || c.before args0 about1) = true := by decide +kernel
theorem w_tables : (allAtoms (Jvm.Cond.code x code maxLocals ret :: tables_1)).before args0 about1 = true := by
  rw [allAtoms_all]
  show words1.all (fun c => c.before args0 about1) = true
  refine all_split ?_ w_codes
  rw [w_t1]
set_option maxRecDepth 65536 in
theorem w_case : (Jvm.Cond.and given_1 narrow_1).before args0 about1 = true := by decide +kernel
theorem w_applies : (headSpec (Jvm.Cond.code x code maxLocals ret :: tables_1) room_1).applies x e0.platform about1 = true :=
  (Spec.applies_iff w_frames).mpr ⟨w_running, w_runnable, w_alone, w_named, w_hears, w_ripe, w_room, w_tables⟩
theorem atStart : AtStart classFile x code maxLocals ret World_1 tables_1 room_1 Calls_1 rest_1 Pre_1 launch0 p0 e0 about1 theMethod args0 below0 :=
  ⟨lists_1, trivial, launch0.admits_env _ _ _, launch0.least_env, fairChoices_fair.cas, fairChoices_fair.clock, w_frames, w_args, w_heap, w_applies, trivial, trivial, w_case⟩
end start1
theorem witness_1 : WitnessClaimed_1 := ⟨start1.p0, start1.e0, start1.about1, start1.theMethod, start1.args0, start1.below0, start1.atStart⟩
end Jvm.Pilot.@@N@@
