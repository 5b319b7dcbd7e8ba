import JvmDerived
import JvmDerived.Pilot.@@N@@Statement
import JvmDerived.Pilot.@@N@@Code
set_option linter.unusedVariables false
set_option linter.unusedSimpArgs false
namespace Jvm.RoadKit
open Sem ClassFile Op Lib Jvm.Stand Jvm.Free Jvm.LawKit
section New
variable {p : Program} {l : Launch} {e : Env} {R : Room} {s : State} {m : MethodId} {args : Array Value} {below : List Frame} {meth : Method} {c : Code} {T : State} {locs : List Loc} {cells slots : Nat}
theorem retI (X : Stand p l e R s m args below meth c T locs cells slots) (hx : p.tables.exec = Jvm.exec) {pc : Nat} {Ls : Array Slot} {z : Int32} {rest : List Value} (hret : meth.sig.returnType = some .int) (hd : decode c.code pc = .ok (.ireturn, 1)) {fs : List Frame}
    (hl : ∀ (f : JFrame) (acts : List Action), f.method = m → f.locked = none → f.entered = [] → (doReturn e (T.setTop f) acts (some (.int z))).1 = T.setFrames fs) : Steps p.tables e below (T.setTop (mkF m pc Ls (.int z :: rest))) (T.setFrames fs) := by
  have hm' : T.vm.method? m = some meth := X.method'
  have hn : narrow .int (.int z) = .int z := rfl
  show Steps p.tables e below (T.setTop { method := m, pc := pc, locals := Ls, stack := _ :: rest, locked := none }) _
  jvm_step X.here [X.here.top, hx, hd, hm', hret, hn]
  first | (intro acts; rw [hl _ acts rfl rfl rfl]) | rw [hl _ _ rfl rfl rfl]
  exact Steps.refl _
theorem own_retL (X : Stand p l e R s m args below meth c T locs cells slots) (hx : p.tables.exec = Jvm.exec) {pc : Nat} {Ls : Array Slot} {z : Int64} {rest : List Value} (hret : meth.sig.returnType = some .long) (hd : decode c.code pc = .ok (.lreturn, 1)) {fs : List Frame}
    (hl : ∀ (f : JFrame) (acts : List Action), f.method = m → f.locked = none → f.entered = [] → (doReturn e (T.setTop f) acts (some (.long z))).1 = T.setFrames fs) : Steps p.tables e below (T.setTop (mkF m pc Ls (.long z :: rest))) (T.setFrames fs) := by
  have hm' : T.vm.method? m = some meth := X.method'
  have hn : narrow .long (.long z) = .long z := rfl
  show Steps p.tables e below (T.setTop { method := m, pc := pc, locals := Ls, stack := _ :: rest, locked := none }) _
  jvm_step X.here [X.here.top, hx, hd, hm', hret, hn]
  first | (intro acts; rw [hl _ acts rfl rfl rfl]) | rw [hl _ _ rfl rfl rfl]
  exact Steps.refl _
end New
end Jvm.RoadKit
namespace Jvm.Pilot.@@N@@
open Jvm Jvm.ClassFile Sem Op Lib Jvm.Free Jvm.Stand Jvm.LawKit Jvm.RoadKit Bundle Jvm.Pilot.@@N@@.Jvm.D
theorem d2_0 : decode method_2_code 0 = .ok (.iload_n 0, 1) := by decide +kernel
theorem d2_1 : decode method_2_code 1 = .ok (.bipush 65, 2) := by decide +kernel
theorem d2_3 : decode method_2_code 3 = .ok (.if_icmp .lt 11, 3) := by decide +kernel
theorem d2_6 : decode method_2_code 6 = .ok (.iload_n 0, 1) := by decide +kernel
theorem d2_7 : decode method_2_code 7 = .ok (.bipush 90, 2) := by decide +kernel
theorem d2_9 : decode method_2_code 9 = .ok (.if_icmp .gt 5, 3) := by decide +kernel
theorem d2_12 : decode method_2_code 12 = .ok (.iconst 1, 1) := by decide +kernel
theorem d2_13 : decode method_2_code 13 = .ok (.ireturn, 1) := by decide +kernel
theorem d2_14 : decode method_2_code 14 = .ok (.iload_n 0, 1) := by decide +kernel
theorem d2_15 : decode method_2_code 15 = .ok (.bipush 97, 2) := by decide +kernel
theorem d2_17 : decode method_2_code 17 = .ok (.if_icmp .lt 11, 3) := by decide +kernel
theorem d2_20 : decode method_2_code 20 = .ok (.iload_n 0, 1) := by decide +kernel
theorem d2_21 : decode method_2_code 21 = .ok (.bipush 122, 2) := by decide +kernel
theorem d2_23 : decode method_2_code 23 = .ok (.if_icmp .gt 5, 3) := by decide +kernel
theorem d2_26 : decode method_2_code 26 = .ok (.iconst 1, 1) := by decide +kernel
theorem d2_27 : decode method_2_code 27 = .ok (.ireturn, 1) := by decide +kernel
theorem d2_28 : decode method_2_code 28 = .ok (.iload_n 0, 1) := by decide +kernel
theorem d2_29 : decode method_2_code 29 = .ok (.bipush 48, 2) := by decide +kernel
theorem d2_31 : decode method_2_code 31 = .ok (.if_icmp .lt 11, 3) := by decide +kernel
theorem d2_34 : decode method_2_code 34 = .ok (.iload_n 0, 1) := by decide +kernel
theorem d2_35 : decode method_2_code 35 = .ok (.bipush 57, 2) := by decide +kernel
theorem d2_37 : decode method_2_code 37 = .ok (.if_icmp .gt 5, 3) := by decide +kernel
theorem d2_40 : decode method_2_code 40 = .ok (.iconst 1, 1) := by decide +kernel
theorem d2_41 : decode method_2_code 41 = .ok (.ireturn, 1) := by decide +kernel
theorem d2_42 : decode method_2_code 42 = .ok (.iload_n 0, 1) := by decide +kernel
theorem d2_43 : decode method_2_code 43 = .ok (.bipush 45, 2) := by decide +kernel
theorem d2_45 : decode method_2_code 45 = .ok (.if_icmp .eq 21, 3) := by decide +kernel
theorem d2_48 : decode method_2_code 48 = .ok (.iload_n 0, 1) := by decide +kernel
theorem d2_49 : decode method_2_code 49 = .ok (.bipush 46, 2) := by decide +kernel
theorem d2_51 : decode method_2_code 51 = .ok (.if_icmp .eq 15, 3) := by decide +kernel
theorem d2_54 : decode method_2_code 54 = .ok (.iload_n 0, 1) := by decide +kernel
theorem d2_55 : decode method_2_code 55 = .ok (.bipush 95, 2) := by decide +kernel
theorem d2_57 : decode method_2_code 57 = .ok (.if_icmp .eq 9, 3) := by decide +kernel
theorem d2_60 : decode method_2_code 60 = .ok (.iload_n 0, 1) := by decide +kernel
theorem d2_61 : decode method_2_code 61 = .ok (.bipush 126, 2) := by decide +kernel
theorem d2_63 : decode method_2_code 63 = .ok (.if_icmp .ne 7, 3) := by decide +kernel
theorem d2_66 : decode method_2_code 66 = .ok (.iconst 1, 1) := by decide +kernel
theorem d2_67 : decode method_2_code 67 = .ok (.goto 4, 3) := by decide +kernel
theorem d2_70 : decode method_2_code 70 = .ok (.iconst 0, 1) := by decide +kernel
theorem d2_71 : decode method_2_code 71 = .ok (.ireturn, 1) := by decide +kernel
theorem pn_2 : plainName "com/example/elemento/elemento/UriSyntaxIsUnreservedPinLaw" = true := by first | (simp [plainName, overriddenIn]; done) | decide +kernel
theorem ef_2 (m : MethodId) (x0 : Int32) : entryFrame m #[(.int x0)] 1 = mkF m 0 #[.val (.int x0)] [] := by first | (simp [entryFrame, mkF, argsToLocals, Value.category]; done) | rfl
def own_F2 (p1 : Int32) : Int32 := if p1 < (65 : Int32) then if p1 < (97 : Int32) then if p1 < (48 : Int32) then if p1 = (45 : Int32) then (1 : Int32) else if p1 = (46 : Int32) then (1 : Int32) else if p1 = (95 : Int32) then (1 : Int32) else if p1 = (126 : Int32) then (1 : Int32) else (0 : Int32) else if (57 : Int32) < p1 then if p1 = (45 : Int32) then (1 : Int32) else if p1 = (46 : Int32) then (1 : Int32) else if p1 = (95 : Int32) then (1 : Int32) else if p1 = (126 : Int32) then (1 : Int32) else (0 : Int32) else (1 : Int32) else if (122 : Int32) < p1 then if p1 < (48 : Int32) then if p1 = (45 : Int32) then (1 : Int32) else if p1 = (46 : Int32) then (1 : Int32) else if p1 = (95 : Int32) then (1 : Int32) else if p1 = (126 : Int32) then (1 : Int32) else (0 : Int32) else if (57 : Int32) < p1 then if p1 = (45 : Int32) then (1 : Int32) else if p1 = (46 : Int32) then (1 : Int32) else if p1 = (95 : Int32) then (1 : Int32) else if p1 = (126 : Int32) then (1 : Int32) else (0 : Int32) else (1 : Int32) else (1 : Int32) else if (90 : Int32) < p1 then if p1 < (97 : Int32) then if p1 < (48 : Int32) then if p1 = (45 : Int32) then (1 : Int32) else if p1 = (46 : Int32) then (1 : Int32) else if p1 = (95 : Int32) then (1 : Int32) else if p1 = (126 : Int32) then (1 : Int32) else (0 : Int32) else if (57 : Int32) < p1 then if p1 = (45 : Int32) then (1 : Int32) else if p1 = (46 : Int32) then (1 : Int32) else if p1 = (95 : Int32) then (1 : Int32) else if p1 = (126 : Int32) then (1 : Int32) else (0 : Int32) else (1 : Int32) else if (122 : Int32) < p1 then if p1 < (48 : Int32) then if p1 = (45 : Int32) then (1 : Int32) else if p1 = (46 : Int32) then (1 : Int32) else if p1 = (95 : Int32) then (1 : Int32) else if p1 = (126 : Int32) then (1 : Int32) else (0 : Int32) else if (57 : Int32) < p1 then if p1 = (45 : Int32) then (1 : Int32) else if p1 = (46 : Int32) then (1 : Int32) else if p1 = (95 : Int32) then (1 : Int32) else if p1 = (126 : Int32) then (1 : Int32) else (0 : Int32) else (1 : Int32) else (1 : Int32) else (1 : Int32)
def Q2 (Z : State) (p1 : Int32) (h0 : Heap) (n0 : Nat) (v : Option Value) (h : Heap) (L : List Loc) : Prop := v = some (.int (own_F2 p1)) ∧ Fr n0 L ∧ h = h0
set_option maxRecDepth 65536 in
set_option maxHeartbeats 40000000 in
theorem rm2 (l : Launch) (Z : State) (a0 : Array Value) (hw : ∀ d ∈ tables_1, d.before a0 Z = true) (ws : List Jvm.Cond) (p1 : Int32) (h0 : Heap) (n0 : Nat) (Z0 : n0 ≤ h0.size) :
    MetFree l (⟨"com/example/elemento/elemento/UriSyntaxIsUnreservedPinLaw", "expected", "(C)Z"⟩ : MethodName) (head1 (Jvm.Cond.code (⟨"com/example/elemento/elemento/UriSyntaxIsUnreservedPinLaw", "expected", "(C)Z"⟩ : MethodName) method_2_code 1 (some .boolean) :: ws) ({ frames := 0, cells := 0, slots := 0, locals := 0 } : Room)) (fun a U => a = #[(.int p1)] ∧ Z.Warmed39 U.vm ∧ U.heap = h0) (fun _ _ _ _ _ => True) (fun _ U o U' => ∃ v L, o = .returned v ∧ Q2 Z p1 h0 n0 v U'.heap L ∧ FrameEnd U o U' L ({ frames := 0, cells := 0, slots := 0, locals := 0 } : Room).cells ({ frames := 0, cells := 0, slots := 0, locals := 0 } : Room).slots) := by
  refine MetFree.of_bodySF (plainFor_of_name pn_2) hisR ?_
  intro p e s m args below meth c s₁ Bd hml0 hP hK
  obtain ⟨rfl, hZ, hh⟩ := hP
  have hx := Bd.exec
  have hby := Bd.bytes
  have hml : c.maxLocals = 1 := hml0
  have hown : s.vm.findClass "com/example/elemento/elemento/UriSyntaxIsUnreservedPinLaw" = some m.cls := findClass_of_methodNamed Bd.named
  have hnm := (name_of_methodNamed Bd.named Bd.method).1
  have X0 : Stand p l e ({ frames := 0, cells := 0, slots := 0, locals := 0 } : Room) s m #[(.int p1)] below meth c s₁ [] 0 0 := Stand.of_body Bd
  have e0 : s₁.heap = h0 := by rw [← hh, Bd.state]; rfl
  have N0 := Fr.nil n0
  have pre0 : ∀ t, Steps p.tables e below (s₁.setTop (mkF m 0 #[.val (.int p1)] [])) t → Steps p.tables e below (s₁.setTop (entryFrame m #[(.int p1)] 1)) t := fun t k => castTop (ef_2 m p1) k
  have pre1 : ∀ t, Steps p.tables e below (s₁.setTop (mkF m 3 #[.val (.int p1)] [(.int (65 : Int32)), (.int p1)])) t → Steps p.tables e below (s₁.setTop (entryFrame m #[(.int p1)] 1)) t := by
    intro t kt
    refine pre0 _ ?_
    show Steps p.tables e below (s₁.setTop (mkF m 0 #[.val (.int p1)] [])) _
    refine XS.iloadN X0.here hx rfl (hb hby d2_0) rfl ?_
    show Steps p.tables e below (s₁.setTop (mkF m 1 #[.val (.int p1)] [(.int p1)])) _
    refine XS.bipush X0.here hx rfl (hb hby d2_1) ?_
    exact kt
  by_cases hc3_2 : p1 < (65 : Int32)
  · have pre3 : ∀ t, Steps p.tables e below (s₁.setTop (mkF m 17 #[.val (.int p1)] [(.int (97 : Int32)), (.int p1)])) t → Steps p.tables e below (s₁.setTop (entryFrame m #[(.int p1)] 1)) t := by
      intro t kt
      refine pre1 _ ?_
      show Steps p.tables e below (s₁.setTop (mkF m 3 #[.val (.int p1)] [(.int (65 : Int32)), (.int p1)])) _
      refine XS.icmpYes X0.here hx rfl (pc0 := 3) (pc' := 14) rfl (hb hby d2_3) rfl (tlt hc3_2).1 (by decide) (by decide) ?_
      show Steps p.tables e below (s₁.setTop (mkF m 14 #[.val (.int p1)] [])) _
      refine XS.iloadN X0.here hx rfl (hb hby d2_14) rfl ?_
      show Steps p.tables e below (s₁.setTop (mkF m 15 #[.val (.int p1)] [(.int p1)])) _
      refine XS.bipush X0.here hx rfl (hb hby d2_15) ?_
      exact kt
    by_cases hc17_4 : p1 < (97 : Int32)
    · have pre5 : ∀ t, Steps p.tables e below (s₁.setTop (mkF m 31 #[.val (.int p1)] [(.int (48 : Int32)), (.int p1)])) t → Steps p.tables e below (s₁.setTop (entryFrame m #[(.int p1)] 1)) t := by
        intro t kt
        refine pre3 _ ?_
        show Steps p.tables e below (s₁.setTop (mkF m 17 #[.val (.int p1)] [(.int (97 : Int32)), (.int p1)])) _
        refine XS.icmpYes X0.here hx rfl (pc0 := 17) (pc' := 28) rfl (hb hby d2_17) rfl (tlt hc17_4).1 (by decide) (by decide) ?_
        show Steps p.tables e below (s₁.setTop (mkF m 28 #[.val (.int p1)] [])) _
        refine XS.iloadN X0.here hx rfl (hb hby d2_28) rfl ?_
        show Steps p.tables e below (s₁.setTop (mkF m 29 #[.val (.int p1)] [(.int p1)])) _
        refine XS.bipush X0.here hx rfl (hb hby d2_29) ?_
        exact kt
      by_cases hc31_6 : p1 < (48 : Int32)
      · have pre7 : ∀ t, Steps p.tables e below (s₁.setTop (mkF m 45 #[.val (.int p1)] [(.int (45 : Int32)), (.int p1)])) t → Steps p.tables e below (s₁.setTop (entryFrame m #[(.int p1)] 1)) t := by
          intro t kt
          refine pre5 _ ?_
          show Steps p.tables e below (s₁.setTop (mkF m 31 #[.val (.int p1)] [(.int (48 : Int32)), (.int p1)])) _
          refine XS.icmpYes X0.here hx rfl (pc0 := 31) (pc' := 42) rfl (hb hby d2_31) rfl (tlt hc31_6).1 (by decide) (by decide) ?_
          show Steps p.tables e below (s₁.setTop (mkF m 42 #[.val (.int p1)] [])) _
          refine XS.iloadN X0.here hx rfl (hb hby d2_42) rfl ?_
          show Steps p.tables e below (s₁.setTop (mkF m 43 #[.val (.int p1)] [(.int p1)])) _
          refine XS.bipush X0.here hx rfl (hb hby d2_43) ?_
          exact kt
        by_cases hc45_8 : p1 = (45 : Int32)
        · have pre9 : ∀ t, Steps p.tables e below (s₁.setTop (mkF m 71 #[.val (.int p1)] [(.int (1 : Int32))])) t → Steps p.tables e below (s₁.setTop (entryFrame m #[(.int p1)] 1)) t := by
            intro t kt
            refine pre7 _ ?_
            show Steps p.tables e below (s₁.setTop (mkF m 45 #[.val (.int p1)] [(.int (45 : Int32)), (.int p1)])) _
            refine XS.icmpYes X0.here hx rfl (pc0 := 45) (pc' := 66) rfl (hb hby d2_45) rfl (teq hc45_8).1 (by decide) (by decide) ?_
            show Steps p.tables e below (s₁.setTop (mkF m 66 #[.val (.int p1)] [])) _
            refine XS.iconst X0.here hx rfl (hb hby d2_66) ?_
            show Steps p.tables e below (s₁.setTop (mkF m 67 #[.val (.int p1)] [(.int (1 : Int32))])) _
            refine XS.goto X0.here hx rfl (pc0 := 67) (pc' := 71) rfl (hb hby d2_67) (by decide) (by decide) ?_
            exact kt
          obtain ⟨fs, hr, hrun, hended, hW, hsame⟩ := X0.leave (v := some (.int (1 : Int32))) (fun h => by rw [Bd.returns] at h; cases h)
          refine ⟨_, _, pre9 _ ?_, hrun, hended, _, _, rfl, ?_, ⟨_, rfl⟩, hW, hsame.mono (by decide) (by decide)⟩
          · show Steps p.tables e below (s₁.setTop (mkF m 71 #[.val (.int p1)] [(.int (1 : Int32))])) _
            exact retN X0 hx (t := .boolean) Bd.returns (by simp) (hb hby d2_71) hr
          · show Q2 Z p1 h0 n0 _ s₁.heap _
            rw [e0]
            exact ⟨(by rw [own_F2, if_pos hc3_2, if_pos hc17_4, if_pos hc31_6, if_pos hc45_8]), N0, rfl⟩
        · have pre10 : ∀ t, Steps p.tables e below (s₁.setTop (mkF m 51 #[.val (.int p1)] [(.int (46 : Int32)), (.int p1)])) t → Steps p.tables e below (s₁.setTop (entryFrame m #[(.int p1)] 1)) t := by
            intro t kt
            refine pre7 _ ?_
            show Steps p.tables e below (s₁.setTop (mkF m 45 #[.val (.int p1)] [(.int (45 : Int32)), (.int p1)])) _
            refine XS.icmpNo X0.here hx rfl (hb hby d2_45) rfl (feq hc45_8).1 ?_
            show Steps p.tables e below (s₁.setTop (mkF m 48 #[.val (.int p1)] [])) _
            refine XS.iloadN X0.here hx rfl (hb hby d2_48) rfl ?_
            show Steps p.tables e below (s₁.setTop (mkF m 49 #[.val (.int p1)] [(.int p1)])) _
            refine XS.bipush X0.here hx rfl (hb hby d2_49) ?_
            exact kt
          by_cases hc51_11 : p1 = (46 : Int32)
          · have pre12 : ∀ t, Steps p.tables e below (s₁.setTop (mkF m 71 #[.val (.int p1)] [(.int (1 : Int32))])) t → Steps p.tables e below (s₁.setTop (entryFrame m #[(.int p1)] 1)) t := by
              intro t kt
              refine pre10 _ ?_
              show Steps p.tables e below (s₁.setTop (mkF m 51 #[.val (.int p1)] [(.int (46 : Int32)), (.int p1)])) _
              refine XS.icmpYes X0.here hx rfl (pc0 := 51) (pc' := 66) rfl (hb hby d2_51) rfl (teq hc51_11).1 (by decide) (by decide) ?_
              show Steps p.tables e below (s₁.setTop (mkF m 66 #[.val (.int p1)] [])) _
              refine XS.iconst X0.here hx rfl (hb hby d2_66) ?_
              show Steps p.tables e below (s₁.setTop (mkF m 67 #[.val (.int p1)] [(.int (1 : Int32))])) _
              refine XS.goto X0.here hx rfl (pc0 := 67) (pc' := 71) rfl (hb hby d2_67) (by decide) (by decide) ?_
              exact kt
            obtain ⟨fs, hr, hrun, hended, hW, hsame⟩ := X0.leave (v := some (.int (1 : Int32))) (fun h => by rw [Bd.returns] at h; cases h)
            refine ⟨_, _, pre12 _ ?_, hrun, hended, _, _, rfl, ?_, ⟨_, rfl⟩, hW, hsame.mono (by decide) (by decide)⟩
            · show Steps p.tables e below (s₁.setTop (mkF m 71 #[.val (.int p1)] [(.int (1 : Int32))])) _
              exact retN X0 hx (t := .boolean) Bd.returns (by simp) (hb hby d2_71) hr
            · show Q2 Z p1 h0 n0 _ s₁.heap _
              rw [e0]
              exact ⟨(by rw [own_F2, if_pos hc3_2, if_pos hc17_4, if_pos hc31_6, if_neg hc45_8, if_pos hc51_11]), N0, rfl⟩
          · have pre13 : ∀ t, Steps p.tables e below (s₁.setTop (mkF m 57 #[.val (.int p1)] [(.int (95 : Int32)), (.int p1)])) t → Steps p.tables e below (s₁.setTop (entryFrame m #[(.int p1)] 1)) t := by
              intro t kt
              refine pre10 _ ?_
              show Steps p.tables e below (s₁.setTop (mkF m 51 #[.val (.int p1)] [(.int (46 : Int32)), (.int p1)])) _
              refine XS.icmpNo X0.here hx rfl (hb hby d2_51) rfl (feq hc51_11).1 ?_
              show Steps p.tables e below (s₁.setTop (mkF m 54 #[.val (.int p1)] [])) _
              refine XS.iloadN X0.here hx rfl (hb hby d2_54) rfl ?_
              show Steps p.tables e below (s₁.setTop (mkF m 55 #[.val (.int p1)] [(.int p1)])) _
              refine XS.bipush X0.here hx rfl (hb hby d2_55) ?_
              exact kt
            by_cases hc57_14 : p1 = (95 : Int32)
            · have pre15 : ∀ t, Steps p.tables e below (s₁.setTop (mkF m 71 #[.val (.int p1)] [(.int (1 : Int32))])) t → Steps p.tables e below (s₁.setTop (entryFrame m #[(.int p1)] 1)) t := by
                intro t kt
                refine pre13 _ ?_
                show Steps p.tables e below (s₁.setTop (mkF m 57 #[.val (.int p1)] [(.int (95 : Int32)), (.int p1)])) _
                refine XS.icmpYes X0.here hx rfl (pc0 := 57) (pc' := 66) rfl (hb hby d2_57) rfl (teq hc57_14).1 (by decide) (by decide) ?_
                show Steps p.tables e below (s₁.setTop (mkF m 66 #[.val (.int p1)] [])) _
                refine XS.iconst X0.here hx rfl (hb hby d2_66) ?_
                show Steps p.tables e below (s₁.setTop (mkF m 67 #[.val (.int p1)] [(.int (1 : Int32))])) _
                refine XS.goto X0.here hx rfl (pc0 := 67) (pc' := 71) rfl (hb hby d2_67) (by decide) (by decide) ?_
                exact kt
              obtain ⟨fs, hr, hrun, hended, hW, hsame⟩ := X0.leave (v := some (.int (1 : Int32))) (fun h => by rw [Bd.returns] at h; cases h)
              refine ⟨_, _, pre15 _ ?_, hrun, hended, _, _, rfl, ?_, ⟨_, rfl⟩, hW, hsame.mono (by decide) (by decide)⟩
              · show Steps p.tables e below (s₁.setTop (mkF m 71 #[.val (.int p1)] [(.int (1 : Int32))])) _
                exact retN X0 hx (t := .boolean) Bd.returns (by simp) (hb hby d2_71) hr
              · show Q2 Z p1 h0 n0 _ s₁.heap _
                rw [e0]
                exact ⟨(by rw [own_F2, if_pos hc3_2, if_pos hc17_4, if_pos hc31_6, if_neg hc45_8, if_neg hc51_11, if_pos hc57_14]), N0, rfl⟩
            · have pre16 : ∀ t, Steps p.tables e below (s₁.setTop (mkF m 63 #[.val (.int p1)] [(.int (126 : Int32)), (.int p1)])) t → Steps p.tables e below (s₁.setTop (entryFrame m #[(.int p1)] 1)) t := by
                intro t kt
                refine pre13 _ ?_
                show Steps p.tables e below (s₁.setTop (mkF m 57 #[.val (.int p1)] [(.int (95 : Int32)), (.int p1)])) _
                refine XS.icmpNo X0.here hx rfl (hb hby d2_57) rfl (feq hc57_14).1 ?_
                show Steps p.tables e below (s₁.setTop (mkF m 60 #[.val (.int p1)] [])) _
                refine XS.iloadN X0.here hx rfl (hb hby d2_60) rfl ?_
                show Steps p.tables e below (s₁.setTop (mkF m 61 #[.val (.int p1)] [(.int p1)])) _
                refine XS.bipush X0.here hx rfl (hb hby d2_61) ?_
                exact kt
              by_cases hc63_17 : p1 = (126 : Int32)
              · have pre18 : ∀ t, Steps p.tables e below (s₁.setTop (mkF m 71 #[.val (.int p1)] [(.int (1 : Int32))])) t → Steps p.tables e below (s₁.setTop (entryFrame m #[(.int p1)] 1)) t := by
                  intro t kt
                  refine pre16 _ ?_
                  show Steps p.tables e below (s₁.setTop (mkF m 63 #[.val (.int p1)] [(.int (126 : Int32)), (.int p1)])) _
                  refine XS.icmpNo X0.here hx rfl (hb hby d2_63) rfl (teq hc63_17).2 ?_
                  show Steps p.tables e below (s₁.setTop (mkF m 66 #[.val (.int p1)] [])) _
                  refine XS.iconst X0.here hx rfl (hb hby d2_66) ?_
                  show Steps p.tables e below (s₁.setTop (mkF m 67 #[.val (.int p1)] [(.int (1 : Int32))])) _
                  refine XS.goto X0.here hx rfl (pc0 := 67) (pc' := 71) rfl (hb hby d2_67) (by decide) (by decide) ?_
                  exact kt
                obtain ⟨fs, hr, hrun, hended, hW, hsame⟩ := X0.leave (v := some (.int (1 : Int32))) (fun h => by rw [Bd.returns] at h; cases h)
                refine ⟨_, _, pre18 _ ?_, hrun, hended, _, _, rfl, ?_, ⟨_, rfl⟩, hW, hsame.mono (by decide) (by decide)⟩
                · show Steps p.tables e below (s₁.setTop (mkF m 71 #[.val (.int p1)] [(.int (1 : Int32))])) _
                  exact retN X0 hx (t := .boolean) Bd.returns (by simp) (hb hby d2_71) hr
                · show Q2 Z p1 h0 n0 _ s₁.heap _
                  rw [e0]
                  exact ⟨(by rw [own_F2, if_pos hc3_2, if_pos hc17_4, if_pos hc31_6, if_neg hc45_8, if_neg hc51_11, if_neg hc57_14, if_pos hc63_17]), N0, rfl⟩
              · have pre19 : ∀ t, Steps p.tables e below (s₁.setTop (mkF m 71 #[.val (.int p1)] [(.int (0 : Int32))])) t → Steps p.tables e below (s₁.setTop (entryFrame m #[(.int p1)] 1)) t := by
                  intro t kt
                  refine pre16 _ ?_
                  show Steps p.tables e below (s₁.setTop (mkF m 63 #[.val (.int p1)] [(.int (126 : Int32)), (.int p1)])) _
                  refine XS.icmpYes X0.here hx rfl (pc0 := 63) (pc' := 70) rfl (hb hby d2_63) rfl (feq hc63_17).2 (by decide) (by decide) ?_
                  show Steps p.tables e below (s₁.setTop (mkF m 70 #[.val (.int p1)] [])) _
                  refine XS.iconst X0.here hx rfl (hb hby d2_70) ?_
                  exact kt
                obtain ⟨fs, hr, hrun, hended, hW, hsame⟩ := X0.leave (v := some (.int (0 : Int32))) (fun h => by rw [Bd.returns] at h; cases h)
                refine ⟨_, _, pre19 _ ?_, hrun, hended, _, _, rfl, ?_, ⟨_, rfl⟩, hW, hsame.mono (by decide) (by decide)⟩
                · show Steps p.tables e below (s₁.setTop (mkF m 71 #[.val (.int p1)] [(.int (0 : Int32))])) _
                  exact retN X0 hx (t := .boolean) Bd.returns (by simp) (hb hby d2_71) hr
                · show Q2 Z p1 h0 n0 _ s₁.heap _
                  rw [e0]
                  exact ⟨(by rw [own_F2, if_pos hc3_2, if_pos hc17_4, if_pos hc31_6, if_neg hc45_8, if_neg hc51_11, if_neg hc57_14, if_neg hc63_17]), N0, rfl⟩
      · have pre20 : ∀ t, Steps p.tables e below (s₁.setTop (mkF m 37 #[.val (.int p1)] [(.int (57 : Int32)), (.int p1)])) t → Steps p.tables e below (s₁.setTop (entryFrame m #[(.int p1)] 1)) t := by
          intro t kt
          refine pre5 _ ?_
          show Steps p.tables e below (s₁.setTop (mkF m 31 #[.val (.int p1)] [(.int (48 : Int32)), (.int p1)])) _
          refine XS.icmpNo X0.here hx rfl (hb hby d2_31) rfl (flt hc31_6).1 ?_
          show Steps p.tables e below (s₁.setTop (mkF m 34 #[.val (.int p1)] [])) _
          refine XS.iloadN X0.here hx rfl (hb hby d2_34) rfl ?_
          show Steps p.tables e below (s₁.setTop (mkF m 35 #[.val (.int p1)] [(.int p1)])) _
          refine XS.bipush X0.here hx rfl (hb hby d2_35) ?_
          exact kt
        by_cases hc37_21 : (57 : Int32) < p1
        · have pre22 : ∀ t, Steps p.tables e below (s₁.setTop (mkF m 45 #[.val (.int p1)] [(.int (45 : Int32)), (.int p1)])) t → Steps p.tables e below (s₁.setTop (entryFrame m #[(.int p1)] 1)) t := by
            intro t kt
            refine pre20 _ ?_
            show Steps p.tables e below (s₁.setTop (mkF m 37 #[.val (.int p1)] [(.int (57 : Int32)), (.int p1)])) _
            refine XS.icmpYes X0.here hx rfl (pc0 := 37) (pc' := 42) rfl (hb hby d2_37) rfl (tlt hc37_21).2.2.1 (by decide) (by decide) ?_
            show Steps p.tables e below (s₁.setTop (mkF m 42 #[.val (.int p1)] [])) _
            refine XS.iloadN X0.here hx rfl (hb hby d2_42) rfl ?_
            show Steps p.tables e below (s₁.setTop (mkF m 43 #[.val (.int p1)] [(.int p1)])) _
            refine XS.bipush X0.here hx rfl (hb hby d2_43) ?_
            exact kt
          by_cases hc45_23 : p1 = (45 : Int32)
          · have pre24 : ∀ t, Steps p.tables e below (s₁.setTop (mkF m 71 #[.val (.int p1)] [(.int (1 : Int32))])) t → Steps p.tables e below (s₁.setTop (entryFrame m #[(.int p1)] 1)) t := by
              intro t kt
              refine pre22 _ ?_
              show Steps p.tables e below (s₁.setTop (mkF m 45 #[.val (.int p1)] [(.int (45 : Int32)), (.int p1)])) _
              refine XS.icmpYes X0.here hx rfl (pc0 := 45) (pc' := 66) rfl (hb hby d2_45) rfl (teq hc45_23).1 (by decide) (by decide) ?_
              show Steps p.tables e below (s₁.setTop (mkF m 66 #[.val (.int p1)] [])) _
              refine XS.iconst X0.here hx rfl (hb hby d2_66) ?_
              show Steps p.tables e below (s₁.setTop (mkF m 67 #[.val (.int p1)] [(.int (1 : Int32))])) _
              refine XS.goto X0.here hx rfl (pc0 := 67) (pc' := 71) rfl (hb hby d2_67) (by decide) (by decide) ?_
              exact kt
            obtain ⟨fs, hr, hrun, hended, hW, hsame⟩ := X0.leave (v := some (.int (1 : Int32))) (fun h => by rw [Bd.returns] at h; cases h)
            refine ⟨_, _, pre24 _ ?_, hrun, hended, _, _, rfl, ?_, ⟨_, rfl⟩, hW, hsame.mono (by decide) (by decide)⟩
            · show Steps p.tables e below (s₁.setTop (mkF m 71 #[.val (.int p1)] [(.int (1 : Int32))])) _
              exact retN X0 hx (t := .boolean) Bd.returns (by simp) (hb hby d2_71) hr
            · show Q2 Z p1 h0 n0 _ s₁.heap _
              rw [e0]
              exact ⟨(by rw [own_F2, if_pos hc3_2, if_pos hc17_4, if_neg hc31_6, if_pos hc37_21, if_pos hc45_23]), N0, rfl⟩
          · have pre25 : ∀ t, Steps p.tables e below (s₁.setTop (mkF m 51 #[.val (.int p1)] [(.int (46 : Int32)), (.int p1)])) t → Steps p.tables e below (s₁.setTop (entryFrame m #[(.int p1)] 1)) t := by
              intro t kt
              refine pre22 _ ?_
              show Steps p.tables e below (s₁.setTop (mkF m 45 #[.val (.int p1)] [(.int (45 : Int32)), (.int p1)])) _
              refine XS.icmpNo X0.here hx rfl (hb hby d2_45) rfl (feq hc45_23).1 ?_
              show Steps p.tables e below (s₁.setTop (mkF m 48 #[.val (.int p1)] [])) _
              refine XS.iloadN X0.here hx rfl (hb hby d2_48) rfl ?_
              show Steps p.tables e below (s₁.setTop (mkF m 49 #[.val (.int p1)] [(.int p1)])) _
              refine XS.bipush X0.here hx rfl (hb hby d2_49) ?_
              exact kt
            by_cases hc51_26 : p1 = (46 : Int32)
            · have pre27 : ∀ t, Steps p.tables e below (s₁.setTop (mkF m 71 #[.val (.int p1)] [(.int (1 : Int32))])) t → Steps p.tables e below (s₁.setTop (entryFrame m #[(.int p1)] 1)) t := by
                intro t kt
                refine pre25 _ ?_
                show Steps p.tables e below (s₁.setTop (mkF m 51 #[.val (.int p1)] [(.int (46 : Int32)), (.int p1)])) _
                refine XS.icmpYes X0.here hx rfl (pc0 := 51) (pc' := 66) rfl (hb hby d2_51) rfl (teq hc51_26).1 (by decide) (by decide) ?_
                show Steps p.tables e below (s₁.setTop (mkF m 66 #[.val (.int p1)] [])) _
                refine XS.iconst X0.here hx rfl (hb hby d2_66) ?_
                show Steps p.tables e below (s₁.setTop (mkF m 67 #[.val (.int p1)] [(.int (1 : Int32))])) _
                refine XS.goto X0.here hx rfl (pc0 := 67) (pc' := 71) rfl (hb hby d2_67) (by decide) (by decide) ?_
                exact kt
              obtain ⟨fs, hr, hrun, hended, hW, hsame⟩ := X0.leave (v := some (.int (1 : Int32))) (fun h => by rw [Bd.returns] at h; cases h)
              refine ⟨_, _, pre27 _ ?_, hrun, hended, _, _, rfl, ?_, ⟨_, rfl⟩, hW, hsame.mono (by decide) (by decide)⟩
              · show Steps p.tables e below (s₁.setTop (mkF m 71 #[.val (.int p1)] [(.int (1 : Int32))])) _
                exact retN X0 hx (t := .boolean) Bd.returns (by simp) (hb hby d2_71) hr
              · show Q2 Z p1 h0 n0 _ s₁.heap _
                rw [e0]
                exact ⟨(by rw [own_F2, if_pos hc3_2, if_pos hc17_4, if_neg hc31_6, if_pos hc37_21, if_neg hc45_23, if_pos hc51_26]), N0, rfl⟩
            · have pre28 : ∀ t, Steps p.tables e below (s₁.setTop (mkF m 57 #[.val (.int p1)] [(.int (95 : Int32)), (.int p1)])) t → Steps p.tables e below (s₁.setTop (entryFrame m #[(.int p1)] 1)) t := by
                intro t kt
                refine pre25 _ ?_
                show Steps p.tables e below (s₁.setTop (mkF m 51 #[.val (.int p1)] [(.int (46 : Int32)), (.int p1)])) _
                refine XS.icmpNo X0.here hx rfl (hb hby d2_51) rfl (feq hc51_26).1 ?_
                show Steps p.tables e below (s₁.setTop (mkF m 54 #[.val (.int p1)] [])) _
                refine XS.iloadN X0.here hx rfl (hb hby d2_54) rfl ?_
                show Steps p.tables e below (s₁.setTop (mkF m 55 #[.val (.int p1)] [(.int p1)])) _
                refine XS.bipush X0.here hx rfl (hb hby d2_55) ?_
                exact kt
              by_cases hc57_29 : p1 = (95 : Int32)
              · have pre30 : ∀ t, Steps p.tables e below (s₁.setTop (mkF m 71 #[.val (.int p1)] [(.int (1 : Int32))])) t → Steps p.tables e below (s₁.setTop (entryFrame m #[(.int p1)] 1)) t := by
                  intro t kt
                  refine pre28 _ ?_
                  show Steps p.tables e below (s₁.setTop (mkF m 57 #[.val (.int p1)] [(.int (95 : Int32)), (.int p1)])) _
                  refine XS.icmpYes X0.here hx rfl (pc0 := 57) (pc' := 66) rfl (hb hby d2_57) rfl (teq hc57_29).1 (by decide) (by decide) ?_
                  show Steps p.tables e below (s₁.setTop (mkF m 66 #[.val (.int p1)] [])) _
                  refine XS.iconst X0.here hx rfl (hb hby d2_66) ?_
                  show Steps p.tables e below (s₁.setTop (mkF m 67 #[.val (.int p1)] [(.int (1 : Int32))])) _
                  refine XS.goto X0.here hx rfl (pc0 := 67) (pc' := 71) rfl (hb hby d2_67) (by decide) (by decide) ?_
                  exact kt
                obtain ⟨fs, hr, hrun, hended, hW, hsame⟩ := X0.leave (v := some (.int (1 : Int32))) (fun h => by rw [Bd.returns] at h; cases h)
                refine ⟨_, _, pre30 _ ?_, hrun, hended, _, _, rfl, ?_, ⟨_, rfl⟩, hW, hsame.mono (by decide) (by decide)⟩
                · show Steps p.tables e below (s₁.setTop (mkF m 71 #[.val (.int p1)] [(.int (1 : Int32))])) _
                  exact retN X0 hx (t := .boolean) Bd.returns (by simp) (hb hby d2_71) hr
                · show Q2 Z p1 h0 n0 _ s₁.heap _
                  rw [e0]
                  exact ⟨(by rw [own_F2, if_pos hc3_2, if_pos hc17_4, if_neg hc31_6, if_pos hc37_21, if_neg hc45_23, if_neg hc51_26, if_pos hc57_29]), N0, rfl⟩
              · have pre31 : ∀ t, Steps p.tables e below (s₁.setTop (mkF m 63 #[.val (.int p1)] [(.int (126 : Int32)), (.int p1)])) t → Steps p.tables e below (s₁.setTop (entryFrame m #[(.int p1)] 1)) t := by
                  intro t kt
                  refine pre28 _ ?_
                  show Steps p.tables e below (s₁.setTop (mkF m 57 #[.val (.int p1)] [(.int (95 : Int32)), (.int p1)])) _
                  refine XS.icmpNo X0.here hx rfl (hb hby d2_57) rfl (feq hc57_29).1 ?_
                  show Steps p.tables e below (s₁.setTop (mkF m 60 #[.val (.int p1)] [])) _
                  refine XS.iloadN X0.here hx rfl (hb hby d2_60) rfl ?_
                  show Steps p.tables e below (s₁.setTop (mkF m 61 #[.val (.int p1)] [(.int p1)])) _
                  refine XS.bipush X0.here hx rfl (hb hby d2_61) ?_
                  exact kt
                by_cases hc63_32 : p1 = (126 : Int32)
                · have pre33 : ∀ t, Steps p.tables e below (s₁.setTop (mkF m 71 #[.val (.int p1)] [(.int (1 : Int32))])) t → Steps p.tables e below (s₁.setTop (entryFrame m #[(.int p1)] 1)) t := by
                    intro t kt
                    refine pre31 _ ?_
                    show Steps p.tables e below (s₁.setTop (mkF m 63 #[.val (.int p1)] [(.int (126 : Int32)), (.int p1)])) _
                    refine XS.icmpNo X0.here hx rfl (hb hby d2_63) rfl (teq hc63_32).2 ?_
                    show Steps p.tables e below (s₁.setTop (mkF m 66 #[.val (.int p1)] [])) _
                    refine XS.iconst X0.here hx rfl (hb hby d2_66) ?_
                    show Steps p.tables e below (s₁.setTop (mkF m 67 #[.val (.int p1)] [(.int (1 : Int32))])) _
                    refine XS.goto X0.here hx rfl (pc0 := 67) (pc' := 71) rfl (hb hby d2_67) (by decide) (by decide) ?_
                    exact kt
                  obtain ⟨fs, hr, hrun, hended, hW, hsame⟩ := X0.leave (v := some (.int (1 : Int32))) (fun h => by rw [Bd.returns] at h; cases h)
                  refine ⟨_, _, pre33 _ ?_, hrun, hended, _, _, rfl, ?_, ⟨_, rfl⟩, hW, hsame.mono (by decide) (by decide)⟩
                  · show Steps p.tables e below (s₁.setTop (mkF m 71 #[.val (.int p1)] [(.int (1 : Int32))])) _
                    exact retN X0 hx (t := .boolean) Bd.returns (by simp) (hb hby d2_71) hr
                  · show Q2 Z p1 h0 n0 _ s₁.heap _
                    rw [e0]
                    exact ⟨(by rw [own_F2, if_pos hc3_2, if_pos hc17_4, if_neg hc31_6, if_pos hc37_21, if_neg hc45_23, if_neg hc51_26, if_neg hc57_29, if_pos hc63_32]), N0, rfl⟩
                · have pre34 : ∀ t, Steps p.tables e below (s₁.setTop (mkF m 71 #[.val (.int p1)] [(.int (0 : Int32))])) t → Steps p.tables e below (s₁.setTop (entryFrame m #[(.int p1)] 1)) t := by
                    intro t kt
                    refine pre31 _ ?_
                    show Steps p.tables e below (s₁.setTop (mkF m 63 #[.val (.int p1)] [(.int (126 : Int32)), (.int p1)])) _
                    refine XS.icmpYes X0.here hx rfl (pc0 := 63) (pc' := 70) rfl (hb hby d2_63) rfl (feq hc63_32).2 (by decide) (by decide) ?_
                    show Steps p.tables e below (s₁.setTop (mkF m 70 #[.val (.int p1)] [])) _
                    refine XS.iconst X0.here hx rfl (hb hby d2_70) ?_
                    exact kt
                  obtain ⟨fs, hr, hrun, hended, hW, hsame⟩ := X0.leave (v := some (.int (0 : Int32))) (fun h => by rw [Bd.returns] at h; cases h)
                  refine ⟨_, _, pre34 _ ?_, hrun, hended, _, _, rfl, ?_, ⟨_, rfl⟩, hW, hsame.mono (by decide) (by decide)⟩
                  · show Steps p.tables e below (s₁.setTop (mkF m 71 #[.val (.int p1)] [(.int (0 : Int32))])) _
                    exact retN X0 hx (t := .boolean) Bd.returns (by simp) (hb hby d2_71) hr
                  · show Q2 Z p1 h0 n0 _ s₁.heap _
                    rw [e0]
                    exact ⟨(by rw [own_F2, if_pos hc3_2, if_pos hc17_4, if_neg hc31_6, if_pos hc37_21, if_neg hc45_23, if_neg hc51_26, if_neg hc57_29, if_neg hc63_32]), N0, rfl⟩
        · have pre35 : ∀ t, Steps p.tables e below (s₁.setTop (mkF m 41 #[.val (.int p1)] [(.int (1 : Int32))])) t → Steps p.tables e below (s₁.setTop (entryFrame m #[(.int p1)] 1)) t := by
            intro t kt
            refine pre20 _ ?_
            show Steps p.tables e below (s₁.setTop (mkF m 37 #[.val (.int p1)] [(.int (57 : Int32)), (.int p1)])) _
            refine XS.icmpNo X0.here hx rfl (hb hby d2_37) rfl (flt hc37_21).2.2.1 ?_
            show Steps p.tables e below (s₁.setTop (mkF m 40 #[.val (.int p1)] [])) _
            refine XS.iconst X0.here hx rfl (hb hby d2_40) ?_
            exact kt
          obtain ⟨fs, hr, hrun, hended, hW, hsame⟩ := X0.leave (v := some (.int (1 : Int32))) (fun h => by rw [Bd.returns] at h; cases h)
          refine ⟨_, _, pre35 _ ?_, hrun, hended, _, _, rfl, ?_, ⟨_, rfl⟩, hW, hsame.mono (by decide) (by decide)⟩
          · show Steps p.tables e below (s₁.setTop (mkF m 41 #[.val (.int p1)] [(.int (1 : Int32))])) _
            exact retN X0 hx (t := .boolean) Bd.returns (by simp) (hb hby d2_41) hr
          · show Q2 Z p1 h0 n0 _ s₁.heap _
            rw [e0]
            exact ⟨(by rw [own_F2, if_pos hc3_2, if_pos hc17_4, if_neg hc31_6, if_neg hc37_21]), N0, rfl⟩
    · have pre36 : ∀ t, Steps p.tables e below (s₁.setTop (mkF m 23 #[.val (.int p1)] [(.int (122 : Int32)), (.int p1)])) t → Steps p.tables e below (s₁.setTop (entryFrame m #[(.int p1)] 1)) t := by
        intro t kt
        refine pre3 _ ?_
        show Steps p.tables e below (s₁.setTop (mkF m 17 #[.val (.int p1)] [(.int (97 : Int32)), (.int p1)])) _
        refine XS.icmpNo X0.here hx rfl (hb hby d2_17) rfl (flt hc17_4).1 ?_
        show Steps p.tables e below (s₁.setTop (mkF m 20 #[.val (.int p1)] [])) _
        refine XS.iloadN X0.here hx rfl (hb hby d2_20) rfl ?_
        show Steps p.tables e below (s₁.setTop (mkF m 21 #[.val (.int p1)] [(.int p1)])) _
        refine XS.bipush X0.here hx rfl (hb hby d2_21) ?_
        exact kt
      by_cases hc23_37 : (122 : Int32) < p1
      · have pre38 : ∀ t, Steps p.tables e below (s₁.setTop (mkF m 31 #[.val (.int p1)] [(.int (48 : Int32)), (.int p1)])) t → Steps p.tables e below (s₁.setTop (entryFrame m #[(.int p1)] 1)) t := by
          intro t kt
          refine pre36 _ ?_
          show Steps p.tables e below (s₁.setTop (mkF m 23 #[.val (.int p1)] [(.int (122 : Int32)), (.int p1)])) _
          refine XS.icmpYes X0.here hx rfl (pc0 := 23) (pc' := 28) rfl (hb hby d2_23) rfl (tlt hc23_37).2.2.1 (by decide) (by decide) ?_
          show Steps p.tables e below (s₁.setTop (mkF m 28 #[.val (.int p1)] [])) _
          refine XS.iloadN X0.here hx rfl (hb hby d2_28) rfl ?_
          show Steps p.tables e below (s₁.setTop (mkF m 29 #[.val (.int p1)] [(.int p1)])) _
          refine XS.bipush X0.here hx rfl (hb hby d2_29) ?_
          exact kt
        by_cases hc31_39 : p1 < (48 : Int32)
        · have pre40 : ∀ t, Steps p.tables e below (s₁.setTop (mkF m 45 #[.val (.int p1)] [(.int (45 : Int32)), (.int p1)])) t → Steps p.tables e below (s₁.setTop (entryFrame m #[(.int p1)] 1)) t := by
            intro t kt
            refine pre38 _ ?_
            show Steps p.tables e below (s₁.setTop (mkF m 31 #[.val (.int p1)] [(.int (48 : Int32)), (.int p1)])) _
            refine XS.icmpYes X0.here hx rfl (pc0 := 31) (pc' := 42) rfl (hb hby d2_31) rfl (tlt hc31_39).1 (by decide) (by decide) ?_
            show Steps p.tables e below (s₁.setTop (mkF m 42 #[.val (.int p1)] [])) _
            refine XS.iloadN X0.here hx rfl (hb hby d2_42) rfl ?_
            show Steps p.tables e below (s₁.setTop (mkF m 43 #[.val (.int p1)] [(.int p1)])) _
            refine XS.bipush X0.here hx rfl (hb hby d2_43) ?_
            exact kt
          by_cases hc45_41 : p1 = (45 : Int32)
          · have pre42 : ∀ t, Steps p.tables e below (s₁.setTop (mkF m 71 #[.val (.int p1)] [(.int (1 : Int32))])) t → Steps p.tables e below (s₁.setTop (entryFrame m #[(.int p1)] 1)) t := by
              intro t kt
              refine pre40 _ ?_
              show Steps p.tables e below (s₁.setTop (mkF m 45 #[.val (.int p1)] [(.int (45 : Int32)), (.int p1)])) _
              refine XS.icmpYes X0.here hx rfl (pc0 := 45) (pc' := 66) rfl (hb hby d2_45) rfl (teq hc45_41).1 (by decide) (by decide) ?_
              show Steps p.tables e below (s₁.setTop (mkF m 66 #[.val (.int p1)] [])) _
              refine XS.iconst X0.here hx rfl (hb hby d2_66) ?_
              show Steps p.tables e below (s₁.setTop (mkF m 67 #[.val (.int p1)] [(.int (1 : Int32))])) _
              refine XS.goto X0.here hx rfl (pc0 := 67) (pc' := 71) rfl (hb hby d2_67) (by decide) (by decide) ?_
              exact kt
            obtain ⟨fs, hr, hrun, hended, hW, hsame⟩ := X0.leave (v := some (.int (1 : Int32))) (fun h => by rw [Bd.returns] at h; cases h)
            refine ⟨_, _, pre42 _ ?_, hrun, hended, _, _, rfl, ?_, ⟨_, rfl⟩, hW, hsame.mono (by decide) (by decide)⟩
            · show Steps p.tables e below (s₁.setTop (mkF m 71 #[.val (.int p1)] [(.int (1 : Int32))])) _
              exact retN X0 hx (t := .boolean) Bd.returns (by simp) (hb hby d2_71) hr
            · show Q2 Z p1 h0 n0 _ s₁.heap _
              rw [e0]
              exact ⟨(by rw [own_F2, if_pos hc3_2, if_neg hc17_4, if_pos hc23_37, if_pos hc31_39, if_pos hc45_41]), N0, rfl⟩
          · have pre43 : ∀ t, Steps p.tables e below (s₁.setTop (mkF m 51 #[.val (.int p1)] [(.int (46 : Int32)), (.int p1)])) t → Steps p.tables e below (s₁.setTop (entryFrame m #[(.int p1)] 1)) t := by
              intro t kt
              refine pre40 _ ?_
              show Steps p.tables e below (s₁.setTop (mkF m 45 #[.val (.int p1)] [(.int (45 : Int32)), (.int p1)])) _
              refine XS.icmpNo X0.here hx rfl (hb hby d2_45) rfl (feq hc45_41).1 ?_
              show Steps p.tables e below (s₁.setTop (mkF m 48 #[.val (.int p1)] [])) _
              refine XS.iloadN X0.here hx rfl (hb hby d2_48) rfl ?_
              show Steps p.tables e below (s₁.setTop (mkF m 49 #[.val (.int p1)] [(.int p1)])) _
              refine XS.bipush X0.here hx rfl (hb hby d2_49) ?_
              exact kt
            by_cases hc51_44 : p1 = (46 : Int32)
            · have pre45 : ∀ t, Steps p.tables e below (s₁.setTop (mkF m 71 #[.val (.int p1)] [(.int (1 : Int32))])) t → Steps p.tables e below (s₁.setTop (entryFrame m #[(.int p1)] 1)) t := by
                intro t kt
                refine pre43 _ ?_
                show Steps p.tables e below (s₁.setTop (mkF m 51 #[.val (.int p1)] [(.int (46 : Int32)), (.int p1)])) _
                refine XS.icmpYes X0.here hx rfl (pc0 := 51) (pc' := 66) rfl (hb hby d2_51) rfl (teq hc51_44).1 (by decide) (by decide) ?_
                show Steps p.tables e below (s₁.setTop (mkF m 66 #[.val (.int p1)] [])) _
                refine XS.iconst X0.here hx rfl (hb hby d2_66) ?_
                show Steps p.tables e below (s₁.setTop (mkF m 67 #[.val (.int p1)] [(.int (1 : Int32))])) _
                refine XS.goto X0.here hx rfl (pc0 := 67) (pc' := 71) rfl (hb hby d2_67) (by decide) (by decide) ?_
                exact kt
              obtain ⟨fs, hr, hrun, hended, hW, hsame⟩ := X0.leave (v := some (.int (1 : Int32))) (fun h => by rw [Bd.returns] at h; cases h)
              refine ⟨_, _, pre45 _ ?_, hrun, hended, _, _, rfl, ?_, ⟨_, rfl⟩, hW, hsame.mono (by decide) (by decide)⟩
              · show Steps p.tables e below (s₁.setTop (mkF m 71 #[.val (.int p1)] [(.int (1 : Int32))])) _
                exact retN X0 hx (t := .boolean) Bd.returns (by simp) (hb hby d2_71) hr
              · show Q2 Z p1 h0 n0 _ s₁.heap _
                rw [e0]
                exact ⟨(by rw [own_F2, if_pos hc3_2, if_neg hc17_4, if_pos hc23_37, if_pos hc31_39, if_neg hc45_41, if_pos hc51_44]), N0, rfl⟩
            · have pre46 : ∀ t, Steps p.tables e below (s₁.setTop (mkF m 57 #[.val (.int p1)] [(.int (95 : Int32)), (.int p1)])) t → Steps p.tables e below (s₁.setTop (entryFrame m #[(.int p1)] 1)) t := by
                intro t kt
                refine pre43 _ ?_
                show Steps p.tables e below (s₁.setTop (mkF m 51 #[.val (.int p1)] [(.int (46 : Int32)), (.int p1)])) _
                refine XS.icmpNo X0.here hx rfl (hb hby d2_51) rfl (feq hc51_44).1 ?_
                show Steps p.tables e below (s₁.setTop (mkF m 54 #[.val (.int p1)] [])) _
                refine XS.iloadN X0.here hx rfl (hb hby d2_54) rfl ?_
                show Steps p.tables e below (s₁.setTop (mkF m 55 #[.val (.int p1)] [(.int p1)])) _
                refine XS.bipush X0.here hx rfl (hb hby d2_55) ?_
                exact kt
              by_cases hc57_47 : p1 = (95 : Int32)
              · have pre48 : ∀ t, Steps p.tables e below (s₁.setTop (mkF m 71 #[.val (.int p1)] [(.int (1 : Int32))])) t → Steps p.tables e below (s₁.setTop (entryFrame m #[(.int p1)] 1)) t := by
                  intro t kt
                  refine pre46 _ ?_
                  show Steps p.tables e below (s₁.setTop (mkF m 57 #[.val (.int p1)] [(.int (95 : Int32)), (.int p1)])) _
                  refine XS.icmpYes X0.here hx rfl (pc0 := 57) (pc' := 66) rfl (hb hby d2_57) rfl (teq hc57_47).1 (by decide) (by decide) ?_
                  show Steps p.tables e below (s₁.setTop (mkF m 66 #[.val (.int p1)] [])) _
                  refine XS.iconst X0.here hx rfl (hb hby d2_66) ?_
                  show Steps p.tables e below (s₁.setTop (mkF m 67 #[.val (.int p1)] [(.int (1 : Int32))])) _
                  refine XS.goto X0.here hx rfl (pc0 := 67) (pc' := 71) rfl (hb hby d2_67) (by decide) (by decide) ?_
                  exact kt
                obtain ⟨fs, hr, hrun, hended, hW, hsame⟩ := X0.leave (v := some (.int (1 : Int32))) (fun h => by rw [Bd.returns] at h; cases h)
                refine ⟨_, _, pre48 _ ?_, hrun, hended, _, _, rfl, ?_, ⟨_, rfl⟩, hW, hsame.mono (by decide) (by decide)⟩
                · show Steps p.tables e below (s₁.setTop (mkF m 71 #[.val (.int p1)] [(.int (1 : Int32))])) _
                  exact retN X0 hx (t := .boolean) Bd.returns (by simp) (hb hby d2_71) hr
                · show Q2 Z p1 h0 n0 _ s₁.heap _
                  rw [e0]
                  exact ⟨(by rw [own_F2, if_pos hc3_2, if_neg hc17_4, if_pos hc23_37, if_pos hc31_39, if_neg hc45_41, if_neg hc51_44, if_pos hc57_47]), N0, rfl⟩
              · have pre49 : ∀ t, Steps p.tables e below (s₁.setTop (mkF m 63 #[.val (.int p1)] [(.int (126 : Int32)), (.int p1)])) t → Steps p.tables e below (s₁.setTop (entryFrame m #[(.int p1)] 1)) t := by
                  intro t kt
                  refine pre46 _ ?_
                  show Steps p.tables e below (s₁.setTop (mkF m 57 #[.val (.int p1)] [(.int (95 : Int32)), (.int p1)])) _
                  refine XS.icmpNo X0.here hx rfl (hb hby d2_57) rfl (feq hc57_47).1 ?_
                  show Steps p.tables e below (s₁.setTop (mkF m 60 #[.val (.int p1)] [])) _
                  refine XS.iloadN X0.here hx rfl (hb hby d2_60) rfl ?_
                  show Steps p.tables e below (s₁.setTop (mkF m 61 #[.val (.int p1)] [(.int p1)])) _
                  refine XS.bipush X0.here hx rfl (hb hby d2_61) ?_
                  exact kt
                by_cases hc63_50 : p1 = (126 : Int32)
                · have pre51 : ∀ t, Steps p.tables e below (s₁.setTop (mkF m 71 #[.val (.int p1)] [(.int (1 : Int32))])) t → Steps p.tables e below (s₁.setTop (entryFrame m #[(.int p1)] 1)) t := by
                    intro t kt
                    refine pre49 _ ?_
                    show Steps p.tables e below (s₁.setTop (mkF m 63 #[.val (.int p1)] [(.int (126 : Int32)), (.int p1)])) _
                    refine XS.icmpNo X0.here hx rfl (hb hby d2_63) rfl (teq hc63_50).2 ?_
                    show Steps p.tables e below (s₁.setTop (mkF m 66 #[.val (.int p1)] [])) _
                    refine XS.iconst X0.here hx rfl (hb hby d2_66) ?_
                    show Steps p.tables e below (s₁.setTop (mkF m 67 #[.val (.int p1)] [(.int (1 : Int32))])) _
                    refine XS.goto X0.here hx rfl (pc0 := 67) (pc' := 71) rfl (hb hby d2_67) (by decide) (by decide) ?_
                    exact kt
                  obtain ⟨fs, hr, hrun, hended, hW, hsame⟩ := X0.leave (v := some (.int (1 : Int32))) (fun h => by rw [Bd.returns] at h; cases h)
                  refine ⟨_, _, pre51 _ ?_, hrun, hended, _, _, rfl, ?_, ⟨_, rfl⟩, hW, hsame.mono (by decide) (by decide)⟩
                  · show Steps p.tables e below (s₁.setTop (mkF m 71 #[.val (.int p1)] [(.int (1 : Int32))])) _
                    exact retN X0 hx (t := .boolean) Bd.returns (by simp) (hb hby d2_71) hr
                  · show Q2 Z p1 h0 n0 _ s₁.heap _
                    rw [e0]
                    exact ⟨(by rw [own_F2, if_pos hc3_2, if_neg hc17_4, if_pos hc23_37, if_pos hc31_39, if_neg hc45_41, if_neg hc51_44, if_neg hc57_47, if_pos hc63_50]), N0, rfl⟩
                · have pre52 : ∀ t, Steps p.tables e below (s₁.setTop (mkF m 71 #[.val (.int p1)] [(.int (0 : Int32))])) t → Steps p.tables e below (s₁.setTop (entryFrame m #[(.int p1)] 1)) t := by
                    intro t kt
                    refine pre49 _ ?_
                    show Steps p.tables e below (s₁.setTop (mkF m 63 #[.val (.int p1)] [(.int (126 : Int32)), (.int p1)])) _
                    refine XS.icmpYes X0.here hx rfl (pc0 := 63) (pc' := 70) rfl (hb hby d2_63) rfl (feq hc63_50).2 (by decide) (by decide) ?_
                    show Steps p.tables e below (s₁.setTop (mkF m 70 #[.val (.int p1)] [])) _
                    refine XS.iconst X0.here hx rfl (hb hby d2_70) ?_
                    exact kt
                  obtain ⟨fs, hr, hrun, hended, hW, hsame⟩ := X0.leave (v := some (.int (0 : Int32))) (fun h => by rw [Bd.returns] at h; cases h)
                  refine ⟨_, _, pre52 _ ?_, hrun, hended, _, _, rfl, ?_, ⟨_, rfl⟩, hW, hsame.mono (by decide) (by decide)⟩
                  · show Steps p.tables e below (s₁.setTop (mkF m 71 #[.val (.int p1)] [(.int (0 : Int32))])) _
                    exact retN X0 hx (t := .boolean) Bd.returns (by simp) (hb hby d2_71) hr
                  · show Q2 Z p1 h0 n0 _ s₁.heap _
                    rw [e0]
                    exact ⟨(by rw [own_F2, if_pos hc3_2, if_neg hc17_4, if_pos hc23_37, if_pos hc31_39, if_neg hc45_41, if_neg hc51_44, if_neg hc57_47, if_neg hc63_50]), N0, rfl⟩
        · have pre53 : ∀ t, Steps p.tables e below (s₁.setTop (mkF m 37 #[.val (.int p1)] [(.int (57 : Int32)), (.int p1)])) t → Steps p.tables e below (s₁.setTop (entryFrame m #[(.int p1)] 1)) t := by
            intro t kt
            refine pre38 _ ?_
            show Steps p.tables e below (s₁.setTop (mkF m 31 #[.val (.int p1)] [(.int (48 : Int32)), (.int p1)])) _
            refine XS.icmpNo X0.here hx rfl (hb hby d2_31) rfl (flt hc31_39).1 ?_
            show Steps p.tables e below (s₁.setTop (mkF m 34 #[.val (.int p1)] [])) _
            refine XS.iloadN X0.here hx rfl (hb hby d2_34) rfl ?_
            show Steps p.tables e below (s₁.setTop (mkF m 35 #[.val (.int p1)] [(.int p1)])) _
            refine XS.bipush X0.here hx rfl (hb hby d2_35) ?_
            exact kt
          by_cases hc37_54 : (57 : Int32) < p1
          · have pre55 : ∀ t, Steps p.tables e below (s₁.setTop (mkF m 45 #[.val (.int p1)] [(.int (45 : Int32)), (.int p1)])) t → Steps p.tables e below (s₁.setTop (entryFrame m #[(.int p1)] 1)) t := by
              intro t kt
              refine pre53 _ ?_
              show Steps p.tables e below (s₁.setTop (mkF m 37 #[.val (.int p1)] [(.int (57 : Int32)), (.int p1)])) _
              refine XS.icmpYes X0.here hx rfl (pc0 := 37) (pc' := 42) rfl (hb hby d2_37) rfl (tlt hc37_54).2.2.1 (by decide) (by decide) ?_
              show Steps p.tables e below (s₁.setTop (mkF m 42 #[.val (.int p1)] [])) _
              refine XS.iloadN X0.here hx rfl (hb hby d2_42) rfl ?_
              show Steps p.tables e below (s₁.setTop (mkF m 43 #[.val (.int p1)] [(.int p1)])) _
              refine XS.bipush X0.here hx rfl (hb hby d2_43) ?_
              exact kt
            by_cases hc45_56 : p1 = (45 : Int32)
            · have pre57 : ∀ t, Steps p.tables e below (s₁.setTop (mkF m 71 #[.val (.int p1)] [(.int (1 : Int32))])) t → Steps p.tables e below (s₁.setTop (entryFrame m #[(.int p1)] 1)) t := by
                intro t kt
                refine pre55 _ ?_
                show Steps p.tables e below (s₁.setTop (mkF m 45 #[.val (.int p1)] [(.int (45 : Int32)), (.int p1)])) _
                refine XS.icmpYes X0.here hx rfl (pc0 := 45) (pc' := 66) rfl (hb hby d2_45) rfl (teq hc45_56).1 (by decide) (by decide) ?_
                show Steps p.tables e below (s₁.setTop (mkF m 66 #[.val (.int p1)] [])) _
                refine XS.iconst X0.here hx rfl (hb hby d2_66) ?_
                show Steps p.tables e below (s₁.setTop (mkF m 67 #[.val (.int p1)] [(.int (1 : Int32))])) _
                refine XS.goto X0.here hx rfl (pc0 := 67) (pc' := 71) rfl (hb hby d2_67) (by decide) (by decide) ?_
                exact kt
              obtain ⟨fs, hr, hrun, hended, hW, hsame⟩ := X0.leave (v := some (.int (1 : Int32))) (fun h => by rw [Bd.returns] at h; cases h)
              refine ⟨_, _, pre57 _ ?_, hrun, hended, _, _, rfl, ?_, ⟨_, rfl⟩, hW, hsame.mono (by decide) (by decide)⟩
              · show Steps p.tables e below (s₁.setTop (mkF m 71 #[.val (.int p1)] [(.int (1 : Int32))])) _
                exact retN X0 hx (t := .boolean) Bd.returns (by simp) (hb hby d2_71) hr
              · show Q2 Z p1 h0 n0 _ s₁.heap _
                rw [e0]
                exact ⟨(by rw [own_F2, if_pos hc3_2, if_neg hc17_4, if_pos hc23_37, if_neg hc31_39, if_pos hc37_54, if_pos hc45_56]), N0, rfl⟩
            · have pre58 : ∀ t, Steps p.tables e below (s₁.setTop (mkF m 51 #[.val (.int p1)] [(.int (46 : Int32)), (.int p1)])) t → Steps p.tables e below (s₁.setTop (entryFrame m #[(.int p1)] 1)) t := by
                intro t kt
                refine pre55 _ ?_
                show Steps p.tables e below (s₁.setTop (mkF m 45 #[.val (.int p1)] [(.int (45 : Int32)), (.int p1)])) _
                refine XS.icmpNo X0.here hx rfl (hb hby d2_45) rfl (feq hc45_56).1 ?_
                show Steps p.tables e below (s₁.setTop (mkF m 48 #[.val (.int p1)] [])) _
                refine XS.iloadN X0.here hx rfl (hb hby d2_48) rfl ?_
                show Steps p.tables e below (s₁.setTop (mkF m 49 #[.val (.int p1)] [(.int p1)])) _
                refine XS.bipush X0.here hx rfl (hb hby d2_49) ?_
                exact kt
              by_cases hc51_59 : p1 = (46 : Int32)
              · have pre60 : ∀ t, Steps p.tables e below (s₁.setTop (mkF m 71 #[.val (.int p1)] [(.int (1 : Int32))])) t → Steps p.tables e below (s₁.setTop (entryFrame m #[(.int p1)] 1)) t := by
                  intro t kt
                  refine pre58 _ ?_
                  show Steps p.tables e below (s₁.setTop (mkF m 51 #[.val (.int p1)] [(.int (46 : Int32)), (.int p1)])) _
                  refine XS.icmpYes X0.here hx rfl (pc0 := 51) (pc' := 66) rfl (hb hby d2_51) rfl (teq hc51_59).1 (by decide) (by decide) ?_
                  show Steps p.tables e below (s₁.setTop (mkF m 66 #[.val (.int p1)] [])) _
                  refine XS.iconst X0.here hx rfl (hb hby d2_66) ?_
                  show Steps p.tables e below (s₁.setTop (mkF m 67 #[.val (.int p1)] [(.int (1 : Int32))])) _
                  refine XS.goto X0.here hx rfl (pc0 := 67) (pc' := 71) rfl (hb hby d2_67) (by decide) (by decide) ?_
                  exact kt
                obtain ⟨fs, hr, hrun, hended, hW, hsame⟩ := X0.leave (v := some (.int (1 : Int32))) (fun h => by rw [Bd.returns] at h; cases h)
                refine ⟨_, _, pre60 _ ?_, hrun, hended, _, _, rfl, ?_, ⟨_, rfl⟩, hW, hsame.mono (by decide) (by decide)⟩
                · show Steps p.tables e below (s₁.setTop (mkF m 71 #[.val (.int p1)] [(.int (1 : Int32))])) _
                  exact retN X0 hx (t := .boolean) Bd.returns (by simp) (hb hby d2_71) hr
                · show Q2 Z p1 h0 n0 _ s₁.heap _
                  rw [e0]
                  exact ⟨(by rw [own_F2, if_pos hc3_2, if_neg hc17_4, if_pos hc23_37, if_neg hc31_39, if_pos hc37_54, if_neg hc45_56, if_pos hc51_59]), N0, rfl⟩
              · have pre61 : ∀ t, Steps p.tables e below (s₁.setTop (mkF m 57 #[.val (.int p1)] [(.int (95 : Int32)), (.int p1)])) t → Steps p.tables e below (s₁.setTop (entryFrame m #[(.int p1)] 1)) t := by
                  intro t kt
                  refine pre58 _ ?_
                  show Steps p.tables e below (s₁.setTop (mkF m 51 #[.val (.int p1)] [(.int (46 : Int32)), (.int p1)])) _
                  refine XS.icmpNo X0.here hx rfl (hb hby d2_51) rfl (feq hc51_59).1 ?_
                  show Steps p.tables e below (s₁.setTop (mkF m 54 #[.val (.int p1)] [])) _
                  refine XS.iloadN X0.here hx rfl (hb hby d2_54) rfl ?_
                  show Steps p.tables e below (s₁.setTop (mkF m 55 #[.val (.int p1)] [(.int p1)])) _
                  refine XS.bipush X0.here hx rfl (hb hby d2_55) ?_
                  exact kt
                by_cases hc57_62 : p1 = (95 : Int32)
                · have pre63 : ∀ t, Steps p.tables e below (s₁.setTop (mkF m 71 #[.val (.int p1)] [(.int (1 : Int32))])) t → Steps p.tables e below (s₁.setTop (entryFrame m #[(.int p1)] 1)) t := by
                    intro t kt
                    refine pre61 _ ?_
                    show Steps p.tables e below (s₁.setTop (mkF m 57 #[.val (.int p1)] [(.int (95 : Int32)), (.int p1)])) _
                    refine XS.icmpYes X0.here hx rfl (pc0 := 57) (pc' := 66) rfl (hb hby d2_57) rfl (teq hc57_62).1 (by decide) (by decide) ?_
                    show Steps p.tables e below (s₁.setTop (mkF m 66 #[.val (.int p1)] [])) _
                    refine XS.iconst X0.here hx rfl (hb hby d2_66) ?_
                    show Steps p.tables e below (s₁.setTop (mkF m 67 #[.val (.int p1)] [(.int (1 : Int32))])) _
                    refine XS.goto X0.here hx rfl (pc0 := 67) (pc' := 71) rfl (hb hby d2_67) (by decide) (by decide) ?_
                    exact kt
                  obtain ⟨fs, hr, hrun, hended, hW, hsame⟩ := X0.leave (v := some (.int (1 : Int32))) (fun h => by rw [Bd.returns] at h; cases h)
                  refine ⟨_, _, pre63 _ ?_, hrun, hended, _, _, rfl, ?_, ⟨_, rfl⟩, hW, hsame.mono (by decide) (by decide)⟩
                  · show Steps p.tables e below (s₁.setTop (mkF m 71 #[.val (.int p1)] [(.int (1 : Int32))])) _
                    exact retN X0 hx (t := .boolean) Bd.returns (by simp) (hb hby d2_71) hr
                  · show Q2 Z p1 h0 n0 _ s₁.heap _
                    rw [e0]
                    exact ⟨(by rw [own_F2, if_pos hc3_2, if_neg hc17_4, if_pos hc23_37, if_neg hc31_39, if_pos hc37_54, if_neg hc45_56, if_neg hc51_59, if_pos hc57_62]), N0, rfl⟩
                · have pre64 : ∀ t, Steps p.tables e below (s₁.setTop (mkF m 63 #[.val (.int p1)] [(.int (126 : Int32)), (.int p1)])) t → Steps p.tables e below (s₁.setTop (entryFrame m #[(.int p1)] 1)) t := by
                    intro t kt
                    refine pre61 _ ?_
                    show Steps p.tables e below (s₁.setTop (mkF m 57 #[.val (.int p1)] [(.int (95 : Int32)), (.int p1)])) _
                    refine XS.icmpNo X0.here hx rfl (hb hby d2_57) rfl (feq hc57_62).1 ?_
                    show Steps p.tables e below (s₁.setTop (mkF m 60 #[.val (.int p1)] [])) _
                    refine XS.iloadN X0.here hx rfl (hb hby d2_60) rfl ?_
                    show Steps p.tables e below (s₁.setTop (mkF m 61 #[.val (.int p1)] [(.int p1)])) _
                    refine XS.bipush X0.here hx rfl (hb hby d2_61) ?_
                    exact kt
                  by_cases hc63_65 : p1 = (126 : Int32)
                  · have pre66 : ∀ t, Steps p.tables e below (s₁.setTop (mkF m 71 #[.val (.int p1)] [(.int (1 : Int32))])) t → Steps p.tables e below (s₁.setTop (entryFrame m #[(.int p1)] 1)) t := by
                      intro t kt
                      refine pre64 _ ?_
                      show Steps p.tables e below (s₁.setTop (mkF m 63 #[.val (.int p1)] [(.int (126 : Int32)), (.int p1)])) _
                      refine XS.icmpNo X0.here hx rfl (hb hby d2_63) rfl (teq hc63_65).2 ?_
                      show Steps p.tables e below (s₁.setTop (mkF m 66 #[.val (.int p1)] [])) _
                      refine XS.iconst X0.here hx rfl (hb hby d2_66) ?_
                      show Steps p.tables e below (s₁.setTop (mkF m 67 #[.val (.int p1)] [(.int (1 : Int32))])) _
                      refine XS.goto X0.here hx rfl (pc0 := 67) (pc' := 71) rfl (hb hby d2_67) (by decide) (by decide) ?_
                      exact kt
                    obtain ⟨fs, hr, hrun, hended, hW, hsame⟩ := X0.leave (v := some (.int (1 : Int32))) (fun h => by rw [Bd.returns] at h; cases h)
                    refine ⟨_, _, pre66 _ ?_, hrun, hended, _, _, rfl, ?_, ⟨_, rfl⟩, hW, hsame.mono (by decide) (by decide)⟩
                    · show Steps p.tables e below (s₁.setTop (mkF m 71 #[.val (.int p1)] [(.int (1 : Int32))])) _
                      exact retN X0 hx (t := .boolean) Bd.returns (by simp) (hb hby d2_71) hr
                    · show Q2 Z p1 h0 n0 _ s₁.heap _
                      rw [e0]
                      exact ⟨(by rw [own_F2, if_pos hc3_2, if_neg hc17_4, if_pos hc23_37, if_neg hc31_39, if_pos hc37_54, if_neg hc45_56, if_neg hc51_59, if_neg hc57_62, if_pos hc63_65]), N0, rfl⟩
                  · have pre67 : ∀ t, Steps p.tables e below (s₁.setTop (mkF m 71 #[.val (.int p1)] [(.int (0 : Int32))])) t → Steps p.tables e below (s₁.setTop (entryFrame m #[(.int p1)] 1)) t := by
                      intro t kt
                      refine pre64 _ ?_
                      show Steps p.tables e below (s₁.setTop (mkF m 63 #[.val (.int p1)] [(.int (126 : Int32)), (.int p1)])) _
                      refine XS.icmpYes X0.here hx rfl (pc0 := 63) (pc' := 70) rfl (hb hby d2_63) rfl (feq hc63_65).2 (by decide) (by decide) ?_
                      show Steps p.tables e below (s₁.setTop (mkF m 70 #[.val (.int p1)] [])) _
                      refine XS.iconst X0.here hx rfl (hb hby d2_70) ?_
                      exact kt
                    obtain ⟨fs, hr, hrun, hended, hW, hsame⟩ := X0.leave (v := some (.int (0 : Int32))) (fun h => by rw [Bd.returns] at h; cases h)
                    refine ⟨_, _, pre67 _ ?_, hrun, hended, _, _, rfl, ?_, ⟨_, rfl⟩, hW, hsame.mono (by decide) (by decide)⟩
                    · show Steps p.tables e below (s₁.setTop (mkF m 71 #[.val (.int p1)] [(.int (0 : Int32))])) _
                      exact retN X0 hx (t := .boolean) Bd.returns (by simp) (hb hby d2_71) hr
                    · show Q2 Z p1 h0 n0 _ s₁.heap _
                      rw [e0]
                      exact ⟨(by rw [own_F2, if_pos hc3_2, if_neg hc17_4, if_pos hc23_37, if_neg hc31_39, if_pos hc37_54, if_neg hc45_56, if_neg hc51_59, if_neg hc57_62, if_neg hc63_65]), N0, rfl⟩
          · have pre68 : ∀ t, Steps p.tables e below (s₁.setTop (mkF m 41 #[.val (.int p1)] [(.int (1 : Int32))])) t → Steps p.tables e below (s₁.setTop (entryFrame m #[(.int p1)] 1)) t := by
              intro t kt
              refine pre53 _ ?_
              show Steps p.tables e below (s₁.setTop (mkF m 37 #[.val (.int p1)] [(.int (57 : Int32)), (.int p1)])) _
              refine XS.icmpNo X0.here hx rfl (hb hby d2_37) rfl (flt hc37_54).2.2.1 ?_
              show Steps p.tables e below (s₁.setTop (mkF m 40 #[.val (.int p1)] [])) _
              refine XS.iconst X0.here hx rfl (hb hby d2_40) ?_
              exact kt
            obtain ⟨fs, hr, hrun, hended, hW, hsame⟩ := X0.leave (v := some (.int (1 : Int32))) (fun h => by rw [Bd.returns] at h; cases h)
            refine ⟨_, _, pre68 _ ?_, hrun, hended, _, _, rfl, ?_, ⟨_, rfl⟩, hW, hsame.mono (by decide) (by decide)⟩
            · show Steps p.tables e below (s₁.setTop (mkF m 41 #[.val (.int p1)] [(.int (1 : Int32))])) _
              exact retN X0 hx (t := .boolean) Bd.returns (by simp) (hb hby d2_41) hr
            · show Q2 Z p1 h0 n0 _ s₁.heap _
              rw [e0]
              exact ⟨(by rw [own_F2, if_pos hc3_2, if_neg hc17_4, if_pos hc23_37, if_neg hc31_39, if_neg hc37_54]), N0, rfl⟩
      · have pre69 : ∀ t, Steps p.tables e below (s₁.setTop (mkF m 27 #[.val (.int p1)] [(.int (1 : Int32))])) t → Steps p.tables e below (s₁.setTop (entryFrame m #[(.int p1)] 1)) t := by
          intro t kt
          refine pre36 _ ?_
          show Steps p.tables e below (s₁.setTop (mkF m 23 #[.val (.int p1)] [(.int (122 : Int32)), (.int p1)])) _
          refine XS.icmpNo X0.here hx rfl (hb hby d2_23) rfl (flt hc23_37).2.2.1 ?_
          show Steps p.tables e below (s₁.setTop (mkF m 26 #[.val (.int p1)] [])) _
          refine XS.iconst X0.here hx rfl (hb hby d2_26) ?_
          exact kt
        obtain ⟨fs, hr, hrun, hended, hW, hsame⟩ := X0.leave (v := some (.int (1 : Int32))) (fun h => by rw [Bd.returns] at h; cases h)
        refine ⟨_, _, pre69 _ ?_, hrun, hended, _, _, rfl, ?_, ⟨_, rfl⟩, hW, hsame.mono (by decide) (by decide)⟩
        · show Steps p.tables e below (s₁.setTop (mkF m 27 #[.val (.int p1)] [(.int (1 : Int32))])) _
          exact retN X0 hx (t := .boolean) Bd.returns (by simp) (hb hby d2_27) hr
        · show Q2 Z p1 h0 n0 _ s₁.heap _
          rw [e0]
          exact ⟨(by rw [own_F2, if_pos hc3_2, if_neg hc17_4, if_neg hc23_37]), N0, rfl⟩
  · have pre70 : ∀ t, Steps p.tables e below (s₁.setTop (mkF m 9 #[.val (.int p1)] [(.int (90 : Int32)), (.int p1)])) t → Steps p.tables e below (s₁.setTop (entryFrame m #[(.int p1)] 1)) t := by
      intro t kt
      refine pre1 _ ?_
      show Steps p.tables e below (s₁.setTop (mkF m 3 #[.val (.int p1)] [(.int (65 : Int32)), (.int p1)])) _
      refine XS.icmpNo X0.here hx rfl (hb hby d2_3) rfl (flt hc3_2).1 ?_
      show Steps p.tables e below (s₁.setTop (mkF m 6 #[.val (.int p1)] [])) _
      refine XS.iloadN X0.here hx rfl (hb hby d2_6) rfl ?_
      show Steps p.tables e below (s₁.setTop (mkF m 7 #[.val (.int p1)] [(.int p1)])) _
      refine XS.bipush X0.here hx rfl (hb hby d2_7) ?_
      exact kt
    by_cases hc9_71 : (90 : Int32) < p1
    · have pre72 : ∀ t, Steps p.tables e below (s₁.setTop (mkF m 17 #[.val (.int p1)] [(.int (97 : Int32)), (.int p1)])) t → Steps p.tables e below (s₁.setTop (entryFrame m #[(.int p1)] 1)) t := by
        intro t kt
        refine pre70 _ ?_
        show Steps p.tables e below (s₁.setTop (mkF m 9 #[.val (.int p1)] [(.int (90 : Int32)), (.int p1)])) _
        refine XS.icmpYes X0.here hx rfl (pc0 := 9) (pc' := 14) rfl (hb hby d2_9) rfl (tlt hc9_71).2.2.1 (by decide) (by decide) ?_
        show Steps p.tables e below (s₁.setTop (mkF m 14 #[.val (.int p1)] [])) _
        refine XS.iloadN X0.here hx rfl (hb hby d2_14) rfl ?_
        show Steps p.tables e below (s₁.setTop (mkF m 15 #[.val (.int p1)] [(.int p1)])) _
        refine XS.bipush X0.here hx rfl (hb hby d2_15) ?_
        exact kt
      by_cases hc17_73 : p1 < (97 : Int32)
      · have pre74 : ∀ t, Steps p.tables e below (s₁.setTop (mkF m 31 #[.val (.int p1)] [(.int (48 : Int32)), (.int p1)])) t → Steps p.tables e below (s₁.setTop (entryFrame m #[(.int p1)] 1)) t := by
          intro t kt
          refine pre72 _ ?_
          show Steps p.tables e below (s₁.setTop (mkF m 17 #[.val (.int p1)] [(.int (97 : Int32)), (.int p1)])) _
          refine XS.icmpYes X0.here hx rfl (pc0 := 17) (pc' := 28) rfl (hb hby d2_17) rfl (tlt hc17_73).1 (by decide) (by decide) ?_
          show Steps p.tables e below (s₁.setTop (mkF m 28 #[.val (.int p1)] [])) _
          refine XS.iloadN X0.here hx rfl (hb hby d2_28) rfl ?_
          show Steps p.tables e below (s₁.setTop (mkF m 29 #[.val (.int p1)] [(.int p1)])) _
          refine XS.bipush X0.here hx rfl (hb hby d2_29) ?_
          exact kt
        by_cases hc31_75 : p1 < (48 : Int32)
        · have pre76 : ∀ t, Steps p.tables e below (s₁.setTop (mkF m 45 #[.val (.int p1)] [(.int (45 : Int32)), (.int p1)])) t → Steps p.tables e below (s₁.setTop (entryFrame m #[(.int p1)] 1)) t := by
            intro t kt
            refine pre74 _ ?_
            show Steps p.tables e below (s₁.setTop (mkF m 31 #[.val (.int p1)] [(.int (48 : Int32)), (.int p1)])) _
            refine XS.icmpYes X0.here hx rfl (pc0 := 31) (pc' := 42) rfl (hb hby d2_31) rfl (tlt hc31_75).1 (by decide) (by decide) ?_
            show Steps p.tables e below (s₁.setTop (mkF m 42 #[.val (.int p1)] [])) _
            refine XS.iloadN X0.here hx rfl (hb hby d2_42) rfl ?_
            show Steps p.tables e below (s₁.setTop (mkF m 43 #[.val (.int p1)] [(.int p1)])) _
            refine XS.bipush X0.here hx rfl (hb hby d2_43) ?_
            exact kt
          by_cases hc45_77 : p1 = (45 : Int32)
          · have pre78 : ∀ t, Steps p.tables e below (s₁.setTop (mkF m 71 #[.val (.int p1)] [(.int (1 : Int32))])) t → Steps p.tables e below (s₁.setTop (entryFrame m #[(.int p1)] 1)) t := by
              intro t kt
              refine pre76 _ ?_
              show Steps p.tables e below (s₁.setTop (mkF m 45 #[.val (.int p1)] [(.int (45 : Int32)), (.int p1)])) _
              refine XS.icmpYes X0.here hx rfl (pc0 := 45) (pc' := 66) rfl (hb hby d2_45) rfl (teq hc45_77).1 (by decide) (by decide) ?_
              show Steps p.tables e below (s₁.setTop (mkF m 66 #[.val (.int p1)] [])) _
              refine XS.iconst X0.here hx rfl (hb hby d2_66) ?_
              show Steps p.tables e below (s₁.setTop (mkF m 67 #[.val (.int p1)] [(.int (1 : Int32))])) _
              refine XS.goto X0.here hx rfl (pc0 := 67) (pc' := 71) rfl (hb hby d2_67) (by decide) (by decide) ?_
              exact kt
            obtain ⟨fs, hr, hrun, hended, hW, hsame⟩ := X0.leave (v := some (.int (1 : Int32))) (fun h => by rw [Bd.returns] at h; cases h)
            refine ⟨_, _, pre78 _ ?_, hrun, hended, _, _, rfl, ?_, ⟨_, rfl⟩, hW, hsame.mono (by decide) (by decide)⟩
            · show Steps p.tables e below (s₁.setTop (mkF m 71 #[.val (.int p1)] [(.int (1 : Int32))])) _
              exact retN X0 hx (t := .boolean) Bd.returns (by simp) (hb hby d2_71) hr
            · show Q2 Z p1 h0 n0 _ s₁.heap _
              rw [e0]
              exact ⟨(by rw [own_F2, if_neg hc3_2, if_pos hc9_71, if_pos hc17_73, if_pos hc31_75, if_pos hc45_77]), N0, rfl⟩
          · have pre79 : ∀ t, Steps p.tables e below (s₁.setTop (mkF m 51 #[.val (.int p1)] [(.int (46 : Int32)), (.int p1)])) t → Steps p.tables e below (s₁.setTop (entryFrame m #[(.int p1)] 1)) t := by
              intro t kt
              refine pre76 _ ?_
              show Steps p.tables e below (s₁.setTop (mkF m 45 #[.val (.int p1)] [(.int (45 : Int32)), (.int p1)])) _
              refine XS.icmpNo X0.here hx rfl (hb hby d2_45) rfl (feq hc45_77).1 ?_
              show Steps p.tables e below (s₁.setTop (mkF m 48 #[.val (.int p1)] [])) _
              refine XS.iloadN X0.here hx rfl (hb hby d2_48) rfl ?_
              show Steps p.tables e below (s₁.setTop (mkF m 49 #[.val (.int p1)] [(.int p1)])) _
              refine XS.bipush X0.here hx rfl (hb hby d2_49) ?_
              exact kt
            by_cases hc51_80 : p1 = (46 : Int32)
            · have pre81 : ∀ t, Steps p.tables e below (s₁.setTop (mkF m 71 #[.val (.int p1)] [(.int (1 : Int32))])) t → Steps p.tables e below (s₁.setTop (entryFrame m #[(.int p1)] 1)) t := by
                intro t kt
                refine pre79 _ ?_
                show Steps p.tables e below (s₁.setTop (mkF m 51 #[.val (.int p1)] [(.int (46 : Int32)), (.int p1)])) _
                refine XS.icmpYes X0.here hx rfl (pc0 := 51) (pc' := 66) rfl (hb hby d2_51) rfl (teq hc51_80).1 (by decide) (by decide) ?_
                show Steps p.tables e below (s₁.setTop (mkF m 66 #[.val (.int p1)] [])) _
                refine XS.iconst X0.here hx rfl (hb hby d2_66) ?_
                show Steps p.tables e below (s₁.setTop (mkF m 67 #[.val (.int p1)] [(.int (1 : Int32))])) _
                refine XS.goto X0.here hx rfl (pc0 := 67) (pc' := 71) rfl (hb hby d2_67) (by decide) (by decide) ?_
                exact kt
              obtain ⟨fs, hr, hrun, hended, hW, hsame⟩ := X0.leave (v := some (.int (1 : Int32))) (fun h => by rw [Bd.returns] at h; cases h)
              refine ⟨_, _, pre81 _ ?_, hrun, hended, _, _, rfl, ?_, ⟨_, rfl⟩, hW, hsame.mono (by decide) (by decide)⟩
              · show Steps p.tables e below (s₁.setTop (mkF m 71 #[.val (.int p1)] [(.int (1 : Int32))])) _
                exact retN X0 hx (t := .boolean) Bd.returns (by simp) (hb hby d2_71) hr
              · show Q2 Z p1 h0 n0 _ s₁.heap _
                rw [e0]
                exact ⟨(by rw [own_F2, if_neg hc3_2, if_pos hc9_71, if_pos hc17_73, if_pos hc31_75, if_neg hc45_77, if_pos hc51_80]), N0, rfl⟩
            · have pre82 : ∀ t, Steps p.tables e below (s₁.setTop (mkF m 57 #[.val (.int p1)] [(.int (95 : Int32)), (.int p1)])) t → Steps p.tables e below (s₁.setTop (entryFrame m #[(.int p1)] 1)) t := by
                intro t kt
                refine pre79 _ ?_
                show Steps p.tables e below (s₁.setTop (mkF m 51 #[.val (.int p1)] [(.int (46 : Int32)), (.int p1)])) _
                refine XS.icmpNo X0.here hx rfl (hb hby d2_51) rfl (feq hc51_80).1 ?_
                show Steps p.tables e below (s₁.setTop (mkF m 54 #[.val (.int p1)] [])) _
                refine XS.iloadN X0.here hx rfl (hb hby d2_54) rfl ?_
                show Steps p.tables e below (s₁.setTop (mkF m 55 #[.val (.int p1)] [(.int p1)])) _
                refine XS.bipush X0.here hx rfl (hb hby d2_55) ?_
                exact kt
              by_cases hc57_83 : p1 = (95 : Int32)
              · have pre84 : ∀ t, Steps p.tables e below (s₁.setTop (mkF m 71 #[.val (.int p1)] [(.int (1 : Int32))])) t → Steps p.tables e below (s₁.setTop (entryFrame m #[(.int p1)] 1)) t := by
                  intro t kt
                  refine pre82 _ ?_
                  show Steps p.tables e below (s₁.setTop (mkF m 57 #[.val (.int p1)] [(.int (95 : Int32)), (.int p1)])) _
                  refine XS.icmpYes X0.here hx rfl (pc0 := 57) (pc' := 66) rfl (hb hby d2_57) rfl (teq hc57_83).1 (by decide) (by decide) ?_
                  show Steps p.tables e below (s₁.setTop (mkF m 66 #[.val (.int p1)] [])) _
                  refine XS.iconst X0.here hx rfl (hb hby d2_66) ?_
                  show Steps p.tables e below (s₁.setTop (mkF m 67 #[.val (.int p1)] [(.int (1 : Int32))])) _
                  refine XS.goto X0.here hx rfl (pc0 := 67) (pc' := 71) rfl (hb hby d2_67) (by decide) (by decide) ?_
                  exact kt
                obtain ⟨fs, hr, hrun, hended, hW, hsame⟩ := X0.leave (v := some (.int (1 : Int32))) (fun h => by rw [Bd.returns] at h; cases h)
                refine ⟨_, _, pre84 _ ?_, hrun, hended, _, _, rfl, ?_, ⟨_, rfl⟩, hW, hsame.mono (by decide) (by decide)⟩
                · show Steps p.tables e below (s₁.setTop (mkF m 71 #[.val (.int p1)] [(.int (1 : Int32))])) _
                  exact retN X0 hx (t := .boolean) Bd.returns (by simp) (hb hby d2_71) hr
                · show Q2 Z p1 h0 n0 _ s₁.heap _
                  rw [e0]
                  exact ⟨(by rw [own_F2, if_neg hc3_2, if_pos hc9_71, if_pos hc17_73, if_pos hc31_75, if_neg hc45_77, if_neg hc51_80, if_pos hc57_83]), N0, rfl⟩
              · have pre85 : ∀ t, Steps p.tables e below (s₁.setTop (mkF m 63 #[.val (.int p1)] [(.int (126 : Int32)), (.int p1)])) t → Steps p.tables e below (s₁.setTop (entryFrame m #[(.int p1)] 1)) t := by
                  intro t kt
                  refine pre82 _ ?_
                  show Steps p.tables e below (s₁.setTop (mkF m 57 #[.val (.int p1)] [(.int (95 : Int32)), (.int p1)])) _
                  refine XS.icmpNo X0.here hx rfl (hb hby d2_57) rfl (feq hc57_83).1 ?_
                  show Steps p.tables e below (s₁.setTop (mkF m 60 #[.val (.int p1)] [])) _
                  refine XS.iloadN X0.here hx rfl (hb hby d2_60) rfl ?_
                  show Steps p.tables e below (s₁.setTop (mkF m 61 #[.val (.int p1)] [(.int p1)])) _
                  refine XS.bipush X0.here hx rfl (hb hby d2_61) ?_
                  exact kt
                by_cases hc63_86 : p1 = (126 : Int32)
                · have pre87 : ∀ t, Steps p.tables e below (s₁.setTop (mkF m 71 #[.val (.int p1)] [(.int (1 : Int32))])) t → Steps p.tables e below (s₁.setTop (entryFrame m #[(.int p1)] 1)) t := by
                    intro t kt
                    refine pre85 _ ?_
                    show Steps p.tables e below (s₁.setTop (mkF m 63 #[.val (.int p1)] [(.int (126 : Int32)), (.int p1)])) _
                    refine XS.icmpNo X0.here hx rfl (hb hby d2_63) rfl (teq hc63_86).2 ?_
                    show Steps p.tables e below (s₁.setTop (mkF m 66 #[.val (.int p1)] [])) _
                    refine XS.iconst X0.here hx rfl (hb hby d2_66) ?_
                    show Steps p.tables e below (s₁.setTop (mkF m 67 #[.val (.int p1)] [(.int (1 : Int32))])) _
                    refine XS.goto X0.here hx rfl (pc0 := 67) (pc' := 71) rfl (hb hby d2_67) (by decide) (by decide) ?_
                    exact kt
                  obtain ⟨fs, hr, hrun, hended, hW, hsame⟩ := X0.leave (v := some (.int (1 : Int32))) (fun h => by rw [Bd.returns] at h; cases h)
                  refine ⟨_, _, pre87 _ ?_, hrun, hended, _, _, rfl, ?_, ⟨_, rfl⟩, hW, hsame.mono (by decide) (by decide)⟩
                  · show Steps p.tables e below (s₁.setTop (mkF m 71 #[.val (.int p1)] [(.int (1 : Int32))])) _
                    exact retN X0 hx (t := .boolean) Bd.returns (by simp) (hb hby d2_71) hr
                  · show Q2 Z p1 h0 n0 _ s₁.heap _
                    rw [e0]
                    exact ⟨(by rw [own_F2, if_neg hc3_2, if_pos hc9_71, if_pos hc17_73, if_pos hc31_75, if_neg hc45_77, if_neg hc51_80, if_neg hc57_83, if_pos hc63_86]), N0, rfl⟩
                · have pre88 : ∀ t, Steps p.tables e below (s₁.setTop (mkF m 71 #[.val (.int p1)] [(.int (0 : Int32))])) t → Steps p.tables e below (s₁.setTop (entryFrame m #[(.int p1)] 1)) t := by
                    intro t kt
                    refine pre85 _ ?_
                    show Steps p.tables e below (s₁.setTop (mkF m 63 #[.val (.int p1)] [(.int (126 : Int32)), (.int p1)])) _
                    refine XS.icmpYes X0.here hx rfl (pc0 := 63) (pc' := 70) rfl (hb hby d2_63) rfl (feq hc63_86).2 (by decide) (by decide) ?_
                    show Steps p.tables e below (s₁.setTop (mkF m 70 #[.val (.int p1)] [])) _
                    refine XS.iconst X0.here hx rfl (hb hby d2_70) ?_
                    exact kt
                  obtain ⟨fs, hr, hrun, hended, hW, hsame⟩ := X0.leave (v := some (.int (0 : Int32))) (fun h => by rw [Bd.returns] at h; cases h)
                  refine ⟨_, _, pre88 _ ?_, hrun, hended, _, _, rfl, ?_, ⟨_, rfl⟩, hW, hsame.mono (by decide) (by decide)⟩
                  · show Steps p.tables e below (s₁.setTop (mkF m 71 #[.val (.int p1)] [(.int (0 : Int32))])) _
                    exact retN X0 hx (t := .boolean) Bd.returns (by simp) (hb hby d2_71) hr
                  · show Q2 Z p1 h0 n0 _ s₁.heap _
                    rw [e0]
                    exact ⟨(by rw [own_F2, if_neg hc3_2, if_pos hc9_71, if_pos hc17_73, if_pos hc31_75, if_neg hc45_77, if_neg hc51_80, if_neg hc57_83, if_neg hc63_86]), N0, rfl⟩
        · have pre89 : ∀ t, Steps p.tables e below (s₁.setTop (mkF m 37 #[.val (.int p1)] [(.int (57 : Int32)), (.int p1)])) t → Steps p.tables e below (s₁.setTop (entryFrame m #[(.int p1)] 1)) t := by
            intro t kt
            refine pre74 _ ?_
            show Steps p.tables e below (s₁.setTop (mkF m 31 #[.val (.int p1)] [(.int (48 : Int32)), (.int p1)])) _
            refine XS.icmpNo X0.here hx rfl (hb hby d2_31) rfl (flt hc31_75).1 ?_
            show Steps p.tables e below (s₁.setTop (mkF m 34 #[.val (.int p1)] [])) _
            refine XS.iloadN X0.here hx rfl (hb hby d2_34) rfl ?_
            show Steps p.tables e below (s₁.setTop (mkF m 35 #[.val (.int p1)] [(.int p1)])) _
            refine XS.bipush X0.here hx rfl (hb hby d2_35) ?_
            exact kt
          by_cases hc37_90 : (57 : Int32) < p1
          · have pre91 : ∀ t, Steps p.tables e below (s₁.setTop (mkF m 45 #[.val (.int p1)] [(.int (45 : Int32)), (.int p1)])) t → Steps p.tables e below (s₁.setTop (entryFrame m #[(.int p1)] 1)) t := by
              intro t kt
              refine pre89 _ ?_
              show Steps p.tables e below (s₁.setTop (mkF m 37 #[.val (.int p1)] [(.int (57 : Int32)), (.int p1)])) _
              refine XS.icmpYes X0.here hx rfl (pc0 := 37) (pc' := 42) rfl (hb hby d2_37) rfl (tlt hc37_90).2.2.1 (by decide) (by decide) ?_
              show Steps p.tables e below (s₁.setTop (mkF m 42 #[.val (.int p1)] [])) _
              refine XS.iloadN X0.here hx rfl (hb hby d2_42) rfl ?_
              show Steps p.tables e below (s₁.setTop (mkF m 43 #[.val (.int p1)] [(.int p1)])) _
              refine XS.bipush X0.here hx rfl (hb hby d2_43) ?_
              exact kt
            by_cases hc45_92 : p1 = (45 : Int32)
            · have pre93 : ∀ t, Steps p.tables e below (s₁.setTop (mkF m 71 #[.val (.int p1)] [(.int (1 : Int32))])) t → Steps p.tables e below (s₁.setTop (entryFrame m #[(.int p1)] 1)) t := by
                intro t kt
                refine pre91 _ ?_
                show Steps p.tables e below (s₁.setTop (mkF m 45 #[.val (.int p1)] [(.int (45 : Int32)), (.int p1)])) _
                refine XS.icmpYes X0.here hx rfl (pc0 := 45) (pc' := 66) rfl (hb hby d2_45) rfl (teq hc45_92).1 (by decide) (by decide) ?_
                show Steps p.tables e below (s₁.setTop (mkF m 66 #[.val (.int p1)] [])) _
                refine XS.iconst X0.here hx rfl (hb hby d2_66) ?_
                show Steps p.tables e below (s₁.setTop (mkF m 67 #[.val (.int p1)] [(.int (1 : Int32))])) _
                refine XS.goto X0.here hx rfl (pc0 := 67) (pc' := 71) rfl (hb hby d2_67) (by decide) (by decide) ?_
                exact kt
              obtain ⟨fs, hr, hrun, hended, hW, hsame⟩ := X0.leave (v := some (.int (1 : Int32))) (fun h => by rw [Bd.returns] at h; cases h)
              refine ⟨_, _, pre93 _ ?_, hrun, hended, _, _, rfl, ?_, ⟨_, rfl⟩, hW, hsame.mono (by decide) (by decide)⟩
              · show Steps p.tables e below (s₁.setTop (mkF m 71 #[.val (.int p1)] [(.int (1 : Int32))])) _
                exact retN X0 hx (t := .boolean) Bd.returns (by simp) (hb hby d2_71) hr
              · show Q2 Z p1 h0 n0 _ s₁.heap _
                rw [e0]
                exact ⟨(by rw [own_F2, if_neg hc3_2, if_pos hc9_71, if_pos hc17_73, if_neg hc31_75, if_pos hc37_90, if_pos hc45_92]), N0, rfl⟩
            · have pre94 : ∀ t, Steps p.tables e below (s₁.setTop (mkF m 51 #[.val (.int p1)] [(.int (46 : Int32)), (.int p1)])) t → Steps p.tables e below (s₁.setTop (entryFrame m #[(.int p1)] 1)) t := by
                intro t kt
                refine pre91 _ ?_
                show Steps p.tables e below (s₁.setTop (mkF m 45 #[.val (.int p1)] [(.int (45 : Int32)), (.int p1)])) _
                refine XS.icmpNo X0.here hx rfl (hb hby d2_45) rfl (feq hc45_92).1 ?_
                show Steps p.tables e below (s₁.setTop (mkF m 48 #[.val (.int p1)] [])) _
                refine XS.iloadN X0.here hx rfl (hb hby d2_48) rfl ?_
                show Steps p.tables e below (s₁.setTop (mkF m 49 #[.val (.int p1)] [(.int p1)])) _
                refine XS.bipush X0.here hx rfl (hb hby d2_49) ?_
                exact kt
              by_cases hc51_95 : p1 = (46 : Int32)
              · have pre96 : ∀ t, Steps p.tables e below (s₁.setTop (mkF m 71 #[.val (.int p1)] [(.int (1 : Int32))])) t → Steps p.tables e below (s₁.setTop (entryFrame m #[(.int p1)] 1)) t := by
                  intro t kt
                  refine pre94 _ ?_
                  show Steps p.tables e below (s₁.setTop (mkF m 51 #[.val (.int p1)] [(.int (46 : Int32)), (.int p1)])) _
                  refine XS.icmpYes X0.here hx rfl (pc0 := 51) (pc' := 66) rfl (hb hby d2_51) rfl (teq hc51_95).1 (by decide) (by decide) ?_
                  show Steps p.tables e below (s₁.setTop (mkF m 66 #[.val (.int p1)] [])) _
                  refine XS.iconst X0.here hx rfl (hb hby d2_66) ?_
                  show Steps p.tables e below (s₁.setTop (mkF m 67 #[.val (.int p1)] [(.int (1 : Int32))])) _
                  refine XS.goto X0.here hx rfl (pc0 := 67) (pc' := 71) rfl (hb hby d2_67) (by decide) (by decide) ?_
                  exact kt
                obtain ⟨fs, hr, hrun, hended, hW, hsame⟩ := X0.leave (v := some (.int (1 : Int32))) (fun h => by rw [Bd.returns] at h; cases h)
                refine ⟨_, _, pre96 _ ?_, hrun, hended, _, _, rfl, ?_, ⟨_, rfl⟩, hW, hsame.mono (by decide) (by decide)⟩
                · show Steps p.tables e below (s₁.setTop (mkF m 71 #[.val (.int p1)] [(.int (1 : Int32))])) _
                  exact retN X0 hx (t := .boolean) Bd.returns (by simp) (hb hby d2_71) hr
                · show Q2 Z p1 h0 n0 _ s₁.heap _
                  rw [e0]
                  exact ⟨(by rw [own_F2, if_neg hc3_2, if_pos hc9_71, if_pos hc17_73, if_neg hc31_75, if_pos hc37_90, if_neg hc45_92, if_pos hc51_95]), N0, rfl⟩
              · have pre97 : ∀ t, Steps p.tables e below (s₁.setTop (mkF m 57 #[.val (.int p1)] [(.int (95 : Int32)), (.int p1)])) t → Steps p.tables e below (s₁.setTop (entryFrame m #[(.int p1)] 1)) t := by
                  intro t kt
                  refine pre94 _ ?_
                  show Steps p.tables e below (s₁.setTop (mkF m 51 #[.val (.int p1)] [(.int (46 : Int32)), (.int p1)])) _
                  refine XS.icmpNo X0.here hx rfl (hb hby d2_51) rfl (feq hc51_95).1 ?_
                  show Steps p.tables e below (s₁.setTop (mkF m 54 #[.val (.int p1)] [])) _
                  refine XS.iloadN X0.here hx rfl (hb hby d2_54) rfl ?_
                  show Steps p.tables e below (s₁.setTop (mkF m 55 #[.val (.int p1)] [(.int p1)])) _
                  refine XS.bipush X0.here hx rfl (hb hby d2_55) ?_
                  exact kt
                by_cases hc57_98 : p1 = (95 : Int32)
                · have pre99 : ∀ t, Steps p.tables e below (s₁.setTop (mkF m 71 #[.val (.int p1)] [(.int (1 : Int32))])) t → Steps p.tables e below (s₁.setTop (entryFrame m #[(.int p1)] 1)) t := by
                    intro t kt
                    refine pre97 _ ?_
                    show Steps p.tables e below (s₁.setTop (mkF m 57 #[.val (.int p1)] [(.int (95 : Int32)), (.int p1)])) _
                    refine XS.icmpYes X0.here hx rfl (pc0 := 57) (pc' := 66) rfl (hb hby d2_57) rfl (teq hc57_98).1 (by decide) (by decide) ?_
                    show Steps p.tables e below (s₁.setTop (mkF m 66 #[.val (.int p1)] [])) _
                    refine XS.iconst X0.here hx rfl (hb hby d2_66) ?_
                    show Steps p.tables e below (s₁.setTop (mkF m 67 #[.val (.int p1)] [(.int (1 : Int32))])) _
                    refine XS.goto X0.here hx rfl (pc0 := 67) (pc' := 71) rfl (hb hby d2_67) (by decide) (by decide) ?_
                    exact kt
                  obtain ⟨fs, hr, hrun, hended, hW, hsame⟩ := X0.leave (v := some (.int (1 : Int32))) (fun h => by rw [Bd.returns] at h; cases h)
                  refine ⟨_, _, pre99 _ ?_, hrun, hended, _, _, rfl, ?_, ⟨_, rfl⟩, hW, hsame.mono (by decide) (by decide)⟩
                  · show Steps p.tables e below (s₁.setTop (mkF m 71 #[.val (.int p1)] [(.int (1 : Int32))])) _
                    exact retN X0 hx (t := .boolean) Bd.returns (by simp) (hb hby d2_71) hr
                  · show Q2 Z p1 h0 n0 _ s₁.heap _
                    rw [e0]
                    exact ⟨(by rw [own_F2, if_neg hc3_2, if_pos hc9_71, if_pos hc17_73, if_neg hc31_75, if_pos hc37_90, if_neg hc45_92, if_neg hc51_95, if_pos hc57_98]), N0, rfl⟩
                · have pre100 : ∀ t, Steps p.tables e below (s₁.setTop (mkF m 63 #[.val (.int p1)] [(.int (126 : Int32)), (.int p1)])) t → Steps p.tables e below (s₁.setTop (entryFrame m #[(.int p1)] 1)) t := by
                    intro t kt
                    refine pre97 _ ?_
                    show Steps p.tables e below (s₁.setTop (mkF m 57 #[.val (.int p1)] [(.int (95 : Int32)), (.int p1)])) _
                    refine XS.icmpNo X0.here hx rfl (hb hby d2_57) rfl (feq hc57_98).1 ?_
                    show Steps p.tables e below (s₁.setTop (mkF m 60 #[.val (.int p1)] [])) _
                    refine XS.iloadN X0.here hx rfl (hb hby d2_60) rfl ?_
                    show Steps p.tables e below (s₁.setTop (mkF m 61 #[.val (.int p1)] [(.int p1)])) _
                    refine XS.bipush X0.here hx rfl (hb hby d2_61) ?_
                    exact kt
                  by_cases hc63_101 : p1 = (126 : Int32)
                  · have pre102 : ∀ t, Steps p.tables e below (s₁.setTop (mkF m 71 #[.val (.int p1)] [(.int (1 : Int32))])) t → Steps p.tables e below (s₁.setTop (entryFrame m #[(.int p1)] 1)) t := by
                      intro t kt
                      refine pre100 _ ?_
                      show Steps p.tables e below (s₁.setTop (mkF m 63 #[.val (.int p1)] [(.int (126 : Int32)), (.int p1)])) _
                      refine XS.icmpNo X0.here hx rfl (hb hby d2_63) rfl (teq hc63_101).2 ?_
                      show Steps p.tables e below (s₁.setTop (mkF m 66 #[.val (.int p1)] [])) _
                      refine XS.iconst X0.here hx rfl (hb hby d2_66) ?_
                      show Steps p.tables e below (s₁.setTop (mkF m 67 #[.val (.int p1)] [(.int (1 : Int32))])) _
                      refine XS.goto X0.here hx rfl (pc0 := 67) (pc' := 71) rfl (hb hby d2_67) (by decide) (by decide) ?_
                      exact kt
                    obtain ⟨fs, hr, hrun, hended, hW, hsame⟩ := X0.leave (v := some (.int (1 : Int32))) (fun h => by rw [Bd.returns] at h; cases h)
                    refine ⟨_, _, pre102 _ ?_, hrun, hended, _, _, rfl, ?_, ⟨_, rfl⟩, hW, hsame.mono (by decide) (by decide)⟩
                    · show Steps p.tables e below (s₁.setTop (mkF m 71 #[.val (.int p1)] [(.int (1 : Int32))])) _
                      exact retN X0 hx (t := .boolean) Bd.returns (by simp) (hb hby d2_71) hr
                    · show Q2 Z p1 h0 n0 _ s₁.heap _
                      rw [e0]
                      exact ⟨(by rw [own_F2, if_neg hc3_2, if_pos hc9_71, if_pos hc17_73, if_neg hc31_75, if_pos hc37_90, if_neg hc45_92, if_neg hc51_95, if_neg hc57_98, if_pos hc63_101]), N0, rfl⟩
                  · have pre103 : ∀ t, Steps p.tables e below (s₁.setTop (mkF m 71 #[.val (.int p1)] [(.int (0 : Int32))])) t → Steps p.tables e below (s₁.setTop (entryFrame m #[(.int p1)] 1)) t := by
                      intro t kt
                      refine pre100 _ ?_
                      show Steps p.tables e below (s₁.setTop (mkF m 63 #[.val (.int p1)] [(.int (126 : Int32)), (.int p1)])) _
                      refine XS.icmpYes X0.here hx rfl (pc0 := 63) (pc' := 70) rfl (hb hby d2_63) rfl (feq hc63_101).2 (by decide) (by decide) ?_
                      show Steps p.tables e below (s₁.setTop (mkF m 70 #[.val (.int p1)] [])) _
                      refine XS.iconst X0.here hx rfl (hb hby d2_70) ?_
                      exact kt
                    obtain ⟨fs, hr, hrun, hended, hW, hsame⟩ := X0.leave (v := some (.int (0 : Int32))) (fun h => by rw [Bd.returns] at h; cases h)
                    refine ⟨_, _, pre103 _ ?_, hrun, hended, _, _, rfl, ?_, ⟨_, rfl⟩, hW, hsame.mono (by decide) (by decide)⟩
                    · show Steps p.tables e below (s₁.setTop (mkF m 71 #[.val (.int p1)] [(.int (0 : Int32))])) _
                      exact retN X0 hx (t := .boolean) Bd.returns (by simp) (hb hby d2_71) hr
                    · show Q2 Z p1 h0 n0 _ s₁.heap _
                      rw [e0]
                      exact ⟨(by rw [own_F2, if_neg hc3_2, if_pos hc9_71, if_pos hc17_73, if_neg hc31_75, if_pos hc37_90, if_neg hc45_92, if_neg hc51_95, if_neg hc57_98, if_neg hc63_101]), N0, rfl⟩
          · have pre104 : ∀ t, Steps p.tables e below (s₁.setTop (mkF m 41 #[.val (.int p1)] [(.int (1 : Int32))])) t → Steps p.tables e below (s₁.setTop (entryFrame m #[(.int p1)] 1)) t := by
              intro t kt
              refine pre89 _ ?_
              show Steps p.tables e below (s₁.setTop (mkF m 37 #[.val (.int p1)] [(.int (57 : Int32)), (.int p1)])) _
              refine XS.icmpNo X0.here hx rfl (hb hby d2_37) rfl (flt hc37_90).2.2.1 ?_
              show Steps p.tables e below (s₁.setTop (mkF m 40 #[.val (.int p1)] [])) _
              refine XS.iconst X0.here hx rfl (hb hby d2_40) ?_
              exact kt
            obtain ⟨fs, hr, hrun, hended, hW, hsame⟩ := X0.leave (v := some (.int (1 : Int32))) (fun h => by rw [Bd.returns] at h; cases h)
            refine ⟨_, _, pre104 _ ?_, hrun, hended, _, _, rfl, ?_, ⟨_, rfl⟩, hW, hsame.mono (by decide) (by decide)⟩
            · show Steps p.tables e below (s₁.setTop (mkF m 41 #[.val (.int p1)] [(.int (1 : Int32))])) _
              exact retN X0 hx (t := .boolean) Bd.returns (by simp) (hb hby d2_41) hr
            · show Q2 Z p1 h0 n0 _ s₁.heap _
              rw [e0]
              exact ⟨(by rw [own_F2, if_neg hc3_2, if_pos hc9_71, if_pos hc17_73, if_neg hc31_75, if_neg hc37_90]), N0, rfl⟩
      · have pre105 : ∀ t, Steps p.tables e below (s₁.setTop (mkF m 23 #[.val (.int p1)] [(.int (122 : Int32)), (.int p1)])) t → Steps p.tables e below (s₁.setTop (entryFrame m #[(.int p1)] 1)) t := by
          intro t kt
          refine pre72 _ ?_
          show Steps p.tables e below (s₁.setTop (mkF m 17 #[.val (.int p1)] [(.int (97 : Int32)), (.int p1)])) _
          refine XS.icmpNo X0.here hx rfl (hb hby d2_17) rfl (flt hc17_73).1 ?_
          show Steps p.tables e below (s₁.setTop (mkF m 20 #[.val (.int p1)] [])) _
          refine XS.iloadN X0.here hx rfl (hb hby d2_20) rfl ?_
          show Steps p.tables e below (s₁.setTop (mkF m 21 #[.val (.int p1)] [(.int p1)])) _
          refine XS.bipush X0.here hx rfl (hb hby d2_21) ?_
          exact kt
        by_cases hc23_106 : (122 : Int32) < p1
        · have pre107 : ∀ t, Steps p.tables e below (s₁.setTop (mkF m 31 #[.val (.int p1)] [(.int (48 : Int32)), (.int p1)])) t → Steps p.tables e below (s₁.setTop (entryFrame m #[(.int p1)] 1)) t := by
            intro t kt
            refine pre105 _ ?_
            show Steps p.tables e below (s₁.setTop (mkF m 23 #[.val (.int p1)] [(.int (122 : Int32)), (.int p1)])) _
            refine XS.icmpYes X0.here hx rfl (pc0 := 23) (pc' := 28) rfl (hb hby d2_23) rfl (tlt hc23_106).2.2.1 (by decide) (by decide) ?_
            show Steps p.tables e below (s₁.setTop (mkF m 28 #[.val (.int p1)] [])) _
            refine XS.iloadN X0.here hx rfl (hb hby d2_28) rfl ?_
            show Steps p.tables e below (s₁.setTop (mkF m 29 #[.val (.int p1)] [(.int p1)])) _
            refine XS.bipush X0.here hx rfl (hb hby d2_29) ?_
            exact kt
          by_cases hc31_108 : p1 < (48 : Int32)
          · have pre109 : ∀ t, Steps p.tables e below (s₁.setTop (mkF m 45 #[.val (.int p1)] [(.int (45 : Int32)), (.int p1)])) t → Steps p.tables e below (s₁.setTop (entryFrame m #[(.int p1)] 1)) t := by
              intro t kt
              refine pre107 _ ?_
              show Steps p.tables e below (s₁.setTop (mkF m 31 #[.val (.int p1)] [(.int (48 : Int32)), (.int p1)])) _
              refine XS.icmpYes X0.here hx rfl (pc0 := 31) (pc' := 42) rfl (hb hby d2_31) rfl (tlt hc31_108).1 (by decide) (by decide) ?_
              show Steps p.tables e below (s₁.setTop (mkF m 42 #[.val (.int p1)] [])) _
              refine XS.iloadN X0.here hx rfl (hb hby d2_42) rfl ?_
              show Steps p.tables e below (s₁.setTop (mkF m 43 #[.val (.int p1)] [(.int p1)])) _
              refine XS.bipush X0.here hx rfl (hb hby d2_43) ?_
              exact kt
            by_cases hc45_110 : p1 = (45 : Int32)
            · have pre111 : ∀ t, Steps p.tables e below (s₁.setTop (mkF m 71 #[.val (.int p1)] [(.int (1 : Int32))])) t → Steps p.tables e below (s₁.setTop (entryFrame m #[(.int p1)] 1)) t := by
                intro t kt
                refine pre109 _ ?_
                show Steps p.tables e below (s₁.setTop (mkF m 45 #[.val (.int p1)] [(.int (45 : Int32)), (.int p1)])) _
                refine XS.icmpYes X0.here hx rfl (pc0 := 45) (pc' := 66) rfl (hb hby d2_45) rfl (teq hc45_110).1 (by decide) (by decide) ?_
                show Steps p.tables e below (s₁.setTop (mkF m 66 #[.val (.int p1)] [])) _
                refine XS.iconst X0.here hx rfl (hb hby d2_66) ?_
                show Steps p.tables e below (s₁.setTop (mkF m 67 #[.val (.int p1)] [(.int (1 : Int32))])) _
                refine XS.goto X0.here hx rfl (pc0 := 67) (pc' := 71) rfl (hb hby d2_67) (by decide) (by decide) ?_
                exact kt
              obtain ⟨fs, hr, hrun, hended, hW, hsame⟩ := X0.leave (v := some (.int (1 : Int32))) (fun h => by rw [Bd.returns] at h; cases h)
              refine ⟨_, _, pre111 _ ?_, hrun, hended, _, _, rfl, ?_, ⟨_, rfl⟩, hW, hsame.mono (by decide) (by decide)⟩
              · show Steps p.tables e below (s₁.setTop (mkF m 71 #[.val (.int p1)] [(.int (1 : Int32))])) _
                exact retN X0 hx (t := .boolean) Bd.returns (by simp) (hb hby d2_71) hr
              · show Q2 Z p1 h0 n0 _ s₁.heap _
                rw [e0]
                exact ⟨(by rw [own_F2, if_neg hc3_2, if_pos hc9_71, if_neg hc17_73, if_pos hc23_106, if_pos hc31_108, if_pos hc45_110]), N0, rfl⟩
            · have pre112 : ∀ t, Steps p.tables e below (s₁.setTop (mkF m 51 #[.val (.int p1)] [(.int (46 : Int32)), (.int p1)])) t → Steps p.tables e below (s₁.setTop (entryFrame m #[(.int p1)] 1)) t := by
                intro t kt
                refine pre109 _ ?_
                show Steps p.tables e below (s₁.setTop (mkF m 45 #[.val (.int p1)] [(.int (45 : Int32)), (.int p1)])) _
                refine XS.icmpNo X0.here hx rfl (hb hby d2_45) rfl (feq hc45_110).1 ?_
                show Steps p.tables e below (s₁.setTop (mkF m 48 #[.val (.int p1)] [])) _
                refine XS.iloadN X0.here hx rfl (hb hby d2_48) rfl ?_
                show Steps p.tables e below (s₁.setTop (mkF m 49 #[.val (.int p1)] [(.int p1)])) _
                refine XS.bipush X0.here hx rfl (hb hby d2_49) ?_
                exact kt
              by_cases hc51_113 : p1 = (46 : Int32)
              · have pre114 : ∀ t, Steps p.tables e below (s₁.setTop (mkF m 71 #[.val (.int p1)] [(.int (1 : Int32))])) t → Steps p.tables e below (s₁.setTop (entryFrame m #[(.int p1)] 1)) t := by
                  intro t kt
                  refine pre112 _ ?_
                  show Steps p.tables e below (s₁.setTop (mkF m 51 #[.val (.int p1)] [(.int (46 : Int32)), (.int p1)])) _
                  refine XS.icmpYes X0.here hx rfl (pc0 := 51) (pc' := 66) rfl (hb hby d2_51) rfl (teq hc51_113).1 (by decide) (by decide) ?_
                  show Steps p.tables e below (s₁.setTop (mkF m 66 #[.val (.int p1)] [])) _
                  refine XS.iconst X0.here hx rfl (hb hby d2_66) ?_
                  show Steps p.tables e below (s₁.setTop (mkF m 67 #[.val (.int p1)] [(.int (1 : Int32))])) _
                  refine XS.goto X0.here hx rfl (pc0 := 67) (pc' := 71) rfl (hb hby d2_67) (by decide) (by decide) ?_
                  exact kt
                obtain ⟨fs, hr, hrun, hended, hW, hsame⟩ := X0.leave (v := some (.int (1 : Int32))) (fun h => by rw [Bd.returns] at h; cases h)
                refine ⟨_, _, pre114 _ ?_, hrun, hended, _, _, rfl, ?_, ⟨_, rfl⟩, hW, hsame.mono (by decide) (by decide)⟩
                · show Steps p.tables e below (s₁.setTop (mkF m 71 #[.val (.int p1)] [(.int (1 : Int32))])) _
                  exact retN X0 hx (t := .boolean) Bd.returns (by simp) (hb hby d2_71) hr
                · show Q2 Z p1 h0 n0 _ s₁.heap _
                  rw [e0]
                  exact ⟨(by rw [own_F2, if_neg hc3_2, if_pos hc9_71, if_neg hc17_73, if_pos hc23_106, if_pos hc31_108, if_neg hc45_110, if_pos hc51_113]), N0, rfl⟩
              · have pre115 : ∀ t, Steps p.tables e below (s₁.setTop (mkF m 57 #[.val (.int p1)] [(.int (95 : Int32)), (.int p1)])) t → Steps p.tables e below (s₁.setTop (entryFrame m #[(.int p1)] 1)) t := by
                  intro t kt
                  refine pre112 _ ?_
                  show Steps p.tables e below (s₁.setTop (mkF m 51 #[.val (.int p1)] [(.int (46 : Int32)), (.int p1)])) _
                  refine XS.icmpNo X0.here hx rfl (hb hby d2_51) rfl (feq hc51_113).1 ?_
                  show Steps p.tables e below (s₁.setTop (mkF m 54 #[.val (.int p1)] [])) _
                  refine XS.iloadN X0.here hx rfl (hb hby d2_54) rfl ?_
                  show Steps p.tables e below (s₁.setTop (mkF m 55 #[.val (.int p1)] [(.int p1)])) _
                  refine XS.bipush X0.here hx rfl (hb hby d2_55) ?_
                  exact kt
                by_cases hc57_116 : p1 = (95 : Int32)
                · have pre117 : ∀ t, Steps p.tables e below (s₁.setTop (mkF m 71 #[.val (.int p1)] [(.int (1 : Int32))])) t → Steps p.tables e below (s₁.setTop (entryFrame m #[(.int p1)] 1)) t := by
                    intro t kt
                    refine pre115 _ ?_
                    show Steps p.tables e below (s₁.setTop (mkF m 57 #[.val (.int p1)] [(.int (95 : Int32)), (.int p1)])) _
                    refine XS.icmpYes X0.here hx rfl (pc0 := 57) (pc' := 66) rfl (hb hby d2_57) rfl (teq hc57_116).1 (by decide) (by decide) ?_
                    show Steps p.tables e below (s₁.setTop (mkF m 66 #[.val (.int p1)] [])) _
                    refine XS.iconst X0.here hx rfl (hb hby d2_66) ?_
                    show Steps p.tables e below (s₁.setTop (mkF m 67 #[.val (.int p1)] [(.int (1 : Int32))])) _
                    refine XS.goto X0.here hx rfl (pc0 := 67) (pc' := 71) rfl (hb hby d2_67) (by decide) (by decide) ?_
                    exact kt
                  obtain ⟨fs, hr, hrun, hended, hW, hsame⟩ := X0.leave (v := some (.int (1 : Int32))) (fun h => by rw [Bd.returns] at h; cases h)
                  refine ⟨_, _, pre117 _ ?_, hrun, hended, _, _, rfl, ?_, ⟨_, rfl⟩, hW, hsame.mono (by decide) (by decide)⟩
                  · show Steps p.tables e below (s₁.setTop (mkF m 71 #[.val (.int p1)] [(.int (1 : Int32))])) _
                    exact retN X0 hx (t := .boolean) Bd.returns (by simp) (hb hby d2_71) hr
                  · show Q2 Z p1 h0 n0 _ s₁.heap _
                    rw [e0]
                    exact ⟨(by rw [own_F2, if_neg hc3_2, if_pos hc9_71, if_neg hc17_73, if_pos hc23_106, if_pos hc31_108, if_neg hc45_110, if_neg hc51_113, if_pos hc57_116]), N0, rfl⟩
                · have pre118 : ∀ t, Steps p.tables e below (s₁.setTop (mkF m 63 #[.val (.int p1)] [(.int (126 : Int32)), (.int p1)])) t → Steps p.tables e below (s₁.setTop (entryFrame m #[(.int p1)] 1)) t := by
                    intro t kt
                    refine pre115 _ ?_
                    show Steps p.tables e below (s₁.setTop (mkF m 57 #[.val (.int p1)] [(.int (95 : Int32)), (.int p1)])) _
                    refine XS.icmpNo X0.here hx rfl (hb hby d2_57) rfl (feq hc57_116).1 ?_
                    show Steps p.tables e below (s₁.setTop (mkF m 60 #[.val (.int p1)] [])) _
                    refine XS.iloadN X0.here hx rfl (hb hby d2_60) rfl ?_
                    show Steps p.tables e below (s₁.setTop (mkF m 61 #[.val (.int p1)] [(.int p1)])) _
                    refine XS.bipush X0.here hx rfl (hb hby d2_61) ?_
                    exact kt
                  by_cases hc63_119 : p1 = (126 : Int32)
                  · have pre120 : ∀ t, Steps p.tables e below (s₁.setTop (mkF m 71 #[.val (.int p1)] [(.int (1 : Int32))])) t → Steps p.tables e below (s₁.setTop (entryFrame m #[(.int p1)] 1)) t := by
                      intro t kt
                      refine pre118 _ ?_
                      show Steps p.tables e below (s₁.setTop (mkF m 63 #[.val (.int p1)] [(.int (126 : Int32)), (.int p1)])) _
                      refine XS.icmpNo X0.here hx rfl (hb hby d2_63) rfl (teq hc63_119).2 ?_
                      show Steps p.tables e below (s₁.setTop (mkF m 66 #[.val (.int p1)] [])) _
                      refine XS.iconst X0.here hx rfl (hb hby d2_66) ?_
                      show Steps p.tables e below (s₁.setTop (mkF m 67 #[.val (.int p1)] [(.int (1 : Int32))])) _
                      refine XS.goto X0.here hx rfl (pc0 := 67) (pc' := 71) rfl (hb hby d2_67) (by decide) (by decide) ?_
                      exact kt
                    obtain ⟨fs, hr, hrun, hended, hW, hsame⟩ := X0.leave (v := some (.int (1 : Int32))) (fun h => by rw [Bd.returns] at h; cases h)
                    refine ⟨_, _, pre120 _ ?_, hrun, hended, _, _, rfl, ?_, ⟨_, rfl⟩, hW, hsame.mono (by decide) (by decide)⟩
                    · show Steps p.tables e below (s₁.setTop (mkF m 71 #[.val (.int p1)] [(.int (1 : Int32))])) _
                      exact retN X0 hx (t := .boolean) Bd.returns (by simp) (hb hby d2_71) hr
                    · show Q2 Z p1 h0 n0 _ s₁.heap _
                      rw [e0]
                      exact ⟨(by rw [own_F2, if_neg hc3_2, if_pos hc9_71, if_neg hc17_73, if_pos hc23_106, if_pos hc31_108, if_neg hc45_110, if_neg hc51_113, if_neg hc57_116, if_pos hc63_119]), N0, rfl⟩
                  · have pre121 : ∀ t, Steps p.tables e below (s₁.setTop (mkF m 71 #[.val (.int p1)] [(.int (0 : Int32))])) t → Steps p.tables e below (s₁.setTop (entryFrame m #[(.int p1)] 1)) t := by
                      intro t kt
                      refine pre118 _ ?_
                      show Steps p.tables e below (s₁.setTop (mkF m 63 #[.val (.int p1)] [(.int (126 : Int32)), (.int p1)])) _
                      refine XS.icmpYes X0.here hx rfl (pc0 := 63) (pc' := 70) rfl (hb hby d2_63) rfl (feq hc63_119).2 (by decide) (by decide) ?_
                      show Steps p.tables e below (s₁.setTop (mkF m 70 #[.val (.int p1)] [])) _
                      refine XS.iconst X0.here hx rfl (hb hby d2_70) ?_
                      exact kt
                    obtain ⟨fs, hr, hrun, hended, hW, hsame⟩ := X0.leave (v := some (.int (0 : Int32))) (fun h => by rw [Bd.returns] at h; cases h)
                    refine ⟨_, _, pre121 _ ?_, hrun, hended, _, _, rfl, ?_, ⟨_, rfl⟩, hW, hsame.mono (by decide) (by decide)⟩
                    · show Steps p.tables e below (s₁.setTop (mkF m 71 #[.val (.int p1)] [(.int (0 : Int32))])) _
                      exact retN X0 hx (t := .boolean) Bd.returns (by simp) (hb hby d2_71) hr
                    · show Q2 Z p1 h0 n0 _ s₁.heap _
                      rw [e0]
                      exact ⟨(by rw [own_F2, if_neg hc3_2, if_pos hc9_71, if_neg hc17_73, if_pos hc23_106, if_pos hc31_108, if_neg hc45_110, if_neg hc51_113, if_neg hc57_116, if_neg hc63_119]), N0, rfl⟩
          · have pre122 : ∀ t, Steps p.tables e below (s₁.setTop (mkF m 37 #[.val (.int p1)] [(.int (57 : Int32)), (.int p1)])) t → Steps p.tables e below (s₁.setTop (entryFrame m #[(.int p1)] 1)) t := by
              intro t kt
              refine pre107 _ ?_
              show Steps p.tables e below (s₁.setTop (mkF m 31 #[.val (.int p1)] [(.int (48 : Int32)), (.int p1)])) _
              refine XS.icmpNo X0.here hx rfl (hb hby d2_31) rfl (flt hc31_108).1 ?_
              show Steps p.tables e below (s₁.setTop (mkF m 34 #[.val (.int p1)] [])) _
              refine XS.iloadN X0.here hx rfl (hb hby d2_34) rfl ?_
              show Steps p.tables e below (s₁.setTop (mkF m 35 #[.val (.int p1)] [(.int p1)])) _
              refine XS.bipush X0.here hx rfl (hb hby d2_35) ?_
              exact kt
            by_cases hc37_123 : (57 : Int32) < p1
            · have pre124 : ∀ t, Steps p.tables e below (s₁.setTop (mkF m 45 #[.val (.int p1)] [(.int (45 : Int32)), (.int p1)])) t → Steps p.tables e below (s₁.setTop (entryFrame m #[(.int p1)] 1)) t := by
                intro t kt
                refine pre122 _ ?_
                show Steps p.tables e below (s₁.setTop (mkF m 37 #[.val (.int p1)] [(.int (57 : Int32)), (.int p1)])) _
                refine XS.icmpYes X0.here hx rfl (pc0 := 37) (pc' := 42) rfl (hb hby d2_37) rfl (tlt hc37_123).2.2.1 (by decide) (by decide) ?_
                show Steps p.tables e below (s₁.setTop (mkF m 42 #[.val (.int p1)] [])) _
                refine XS.iloadN X0.here hx rfl (hb hby d2_42) rfl ?_
                show Steps p.tables e below (s₁.setTop (mkF m 43 #[.val (.int p1)] [(.int p1)])) _
                refine XS.bipush X0.here hx rfl (hb hby d2_43) ?_
                exact kt
              by_cases hc45_125 : p1 = (45 : Int32)
              · have pre126 : ∀ t, Steps p.tables e below (s₁.setTop (mkF m 71 #[.val (.int p1)] [(.int (1 : Int32))])) t → Steps p.tables e below (s₁.setTop (entryFrame m #[(.int p1)] 1)) t := by
                  intro t kt
                  refine pre124 _ ?_
                  show Steps p.tables e below (s₁.setTop (mkF m 45 #[.val (.int p1)] [(.int (45 : Int32)), (.int p1)])) _
                  refine XS.icmpYes X0.here hx rfl (pc0 := 45) (pc' := 66) rfl (hb hby d2_45) rfl (teq hc45_125).1 (by decide) (by decide) ?_
                  show Steps p.tables e below (s₁.setTop (mkF m 66 #[.val (.int p1)] [])) _
                  refine XS.iconst X0.here hx rfl (hb hby d2_66) ?_
                  show Steps p.tables e below (s₁.setTop (mkF m 67 #[.val (.int p1)] [(.int (1 : Int32))])) _
                  refine XS.goto X0.here hx rfl (pc0 := 67) (pc' := 71) rfl (hb hby d2_67) (by decide) (by decide) ?_
                  exact kt
                obtain ⟨fs, hr, hrun, hended, hW, hsame⟩ := X0.leave (v := some (.int (1 : Int32))) (fun h => by rw [Bd.returns] at h; cases h)
                refine ⟨_, _, pre126 _ ?_, hrun, hended, _, _, rfl, ?_, ⟨_, rfl⟩, hW, hsame.mono (by decide) (by decide)⟩
                · show Steps p.tables e below (s₁.setTop (mkF m 71 #[.val (.int p1)] [(.int (1 : Int32))])) _
                  exact retN X0 hx (t := .boolean) Bd.returns (by simp) (hb hby d2_71) hr
                · show Q2 Z p1 h0 n0 _ s₁.heap _
                  rw [e0]
                  exact ⟨(by rw [own_F2, if_neg hc3_2, if_pos hc9_71, if_neg hc17_73, if_pos hc23_106, if_neg hc31_108, if_pos hc37_123, if_pos hc45_125]), N0, rfl⟩
              · have pre127 : ∀ t, Steps p.tables e below (s₁.setTop (mkF m 51 #[.val (.int p1)] [(.int (46 : Int32)), (.int p1)])) t → Steps p.tables e below (s₁.setTop (entryFrame m #[(.int p1)] 1)) t := by
                  intro t kt
                  refine pre124 _ ?_
                  show Steps p.tables e below (s₁.setTop (mkF m 45 #[.val (.int p1)] [(.int (45 : Int32)), (.int p1)])) _
                  refine XS.icmpNo X0.here hx rfl (hb hby d2_45) rfl (feq hc45_125).1 ?_
                  show Steps p.tables e below (s₁.setTop (mkF m 48 #[.val (.int p1)] [])) _
                  refine XS.iloadN X0.here hx rfl (hb hby d2_48) rfl ?_
                  show Steps p.tables e below (s₁.setTop (mkF m 49 #[.val (.int p1)] [(.int p1)])) _
                  refine XS.bipush X0.here hx rfl (hb hby d2_49) ?_
                  exact kt
                by_cases hc51_128 : p1 = (46 : Int32)
                · have pre129 : ∀ t, Steps p.tables e below (s₁.setTop (mkF m 71 #[.val (.int p1)] [(.int (1 : Int32))])) t → Steps p.tables e below (s₁.setTop (entryFrame m #[(.int p1)] 1)) t := by
                    intro t kt
                    refine pre127 _ ?_
                    show Steps p.tables e below (s₁.setTop (mkF m 51 #[.val (.int p1)] [(.int (46 : Int32)), (.int p1)])) _
                    refine XS.icmpYes X0.here hx rfl (pc0 := 51) (pc' := 66) rfl (hb hby d2_51) rfl (teq hc51_128).1 (by decide) (by decide) ?_
                    show Steps p.tables e below (s₁.setTop (mkF m 66 #[.val (.int p1)] [])) _
                    refine XS.iconst X0.here hx rfl (hb hby d2_66) ?_
                    show Steps p.tables e below (s₁.setTop (mkF m 67 #[.val (.int p1)] [(.int (1 : Int32))])) _
                    refine XS.goto X0.here hx rfl (pc0 := 67) (pc' := 71) rfl (hb hby d2_67) (by decide) (by decide) ?_
                    exact kt
                  obtain ⟨fs, hr, hrun, hended, hW, hsame⟩ := X0.leave (v := some (.int (1 : Int32))) (fun h => by rw [Bd.returns] at h; cases h)
                  refine ⟨_, _, pre129 _ ?_, hrun, hended, _, _, rfl, ?_, ⟨_, rfl⟩, hW, hsame.mono (by decide) (by decide)⟩
                  · show Steps p.tables e below (s₁.setTop (mkF m 71 #[.val (.int p1)] [(.int (1 : Int32))])) _
                    exact retN X0 hx (t := .boolean) Bd.returns (by simp) (hb hby d2_71) hr
                  · show Q2 Z p1 h0 n0 _ s₁.heap _
                    rw [e0]
                    exact ⟨(by rw [own_F2, if_neg hc3_2, if_pos hc9_71, if_neg hc17_73, if_pos hc23_106, if_neg hc31_108, if_pos hc37_123, if_neg hc45_125, if_pos hc51_128]), N0, rfl⟩
                · have pre130 : ∀ t, Steps p.tables e below (s₁.setTop (mkF m 57 #[.val (.int p1)] [(.int (95 : Int32)), (.int p1)])) t → Steps p.tables e below (s₁.setTop (entryFrame m #[(.int p1)] 1)) t := by
                    intro t kt
                    refine pre127 _ ?_
                    show Steps p.tables e below (s₁.setTop (mkF m 51 #[.val (.int p1)] [(.int (46 : Int32)), (.int p1)])) _
                    refine XS.icmpNo X0.here hx rfl (hb hby d2_51) rfl (feq hc51_128).1 ?_
                    show Steps p.tables e below (s₁.setTop (mkF m 54 #[.val (.int p1)] [])) _
                    refine XS.iloadN X0.here hx rfl (hb hby d2_54) rfl ?_
                    show Steps p.tables e below (s₁.setTop (mkF m 55 #[.val (.int p1)] [(.int p1)])) _
                    refine XS.bipush X0.here hx rfl (hb hby d2_55) ?_
                    exact kt
                  by_cases hc57_131 : p1 = (95 : Int32)
                  · have pre132 : ∀ t, Steps p.tables e below (s₁.setTop (mkF m 71 #[.val (.int p1)] [(.int (1 : Int32))])) t → Steps p.tables e below (s₁.setTop (entryFrame m #[(.int p1)] 1)) t := by
                      intro t kt
                      refine pre130 _ ?_
                      show Steps p.tables e below (s₁.setTop (mkF m 57 #[.val (.int p1)] [(.int (95 : Int32)), (.int p1)])) _
                      refine XS.icmpYes X0.here hx rfl (pc0 := 57) (pc' := 66) rfl (hb hby d2_57) rfl (teq hc57_131).1 (by decide) (by decide) ?_
                      show Steps p.tables e below (s₁.setTop (mkF m 66 #[.val (.int p1)] [])) _
                      refine XS.iconst X0.here hx rfl (hb hby d2_66) ?_
                      show Steps p.tables e below (s₁.setTop (mkF m 67 #[.val (.int p1)] [(.int (1 : Int32))])) _
                      refine XS.goto X0.here hx rfl (pc0 := 67) (pc' := 71) rfl (hb hby d2_67) (by decide) (by decide) ?_
                      exact kt
                    obtain ⟨fs, hr, hrun, hended, hW, hsame⟩ := X0.leave (v := some (.int (1 : Int32))) (fun h => by rw [Bd.returns] at h; cases h)
                    refine ⟨_, _, pre132 _ ?_, hrun, hended, _, _, rfl, ?_, ⟨_, rfl⟩, hW, hsame.mono (by decide) (by decide)⟩
                    · show Steps p.tables e below (s₁.setTop (mkF m 71 #[.val (.int p1)] [(.int (1 : Int32))])) _
                      exact retN X0 hx (t := .boolean) Bd.returns (by simp) (hb hby d2_71) hr
                    · show Q2 Z p1 h0 n0 _ s₁.heap _
                      rw [e0]
                      exact ⟨(by rw [own_F2, if_neg hc3_2, if_pos hc9_71, if_neg hc17_73, if_pos hc23_106, if_neg hc31_108, if_pos hc37_123, if_neg hc45_125, if_neg hc51_128, if_pos hc57_131]), N0, rfl⟩
                  · have pre133 : ∀ t, Steps p.tables e below (s₁.setTop (mkF m 63 #[.val (.int p1)] [(.int (126 : Int32)), (.int p1)])) t → Steps p.tables e below (s₁.setTop (entryFrame m #[(.int p1)] 1)) t := by
                      intro t kt
                      refine pre130 _ ?_
                      show Steps p.tables e below (s₁.setTop (mkF m 57 #[.val (.int p1)] [(.int (95 : Int32)), (.int p1)])) _
                      refine XS.icmpNo X0.here hx rfl (hb hby d2_57) rfl (feq hc57_131).1 ?_
                      show Steps p.tables e below (s₁.setTop (mkF m 60 #[.val (.int p1)] [])) _
                      refine XS.iloadN X0.here hx rfl (hb hby d2_60) rfl ?_
                      show Steps p.tables e below (s₁.setTop (mkF m 61 #[.val (.int p1)] [(.int p1)])) _
                      refine XS.bipush X0.here hx rfl (hb hby d2_61) ?_
                      exact kt
                    by_cases hc63_134 : p1 = (126 : Int32)
                    · have pre135 : ∀ t, Steps p.tables e below (s₁.setTop (mkF m 71 #[.val (.int p1)] [(.int (1 : Int32))])) t → Steps p.tables e below (s₁.setTop (entryFrame m #[(.int p1)] 1)) t := by
                        intro t kt
                        refine pre133 _ ?_
                        show Steps p.tables e below (s₁.setTop (mkF m 63 #[.val (.int p1)] [(.int (126 : Int32)), (.int p1)])) _
                        refine XS.icmpNo X0.here hx rfl (hb hby d2_63) rfl (teq hc63_134).2 ?_
                        show Steps p.tables e below (s₁.setTop (mkF m 66 #[.val (.int p1)] [])) _
                        refine XS.iconst X0.here hx rfl (hb hby d2_66) ?_
                        show Steps p.tables e below (s₁.setTop (mkF m 67 #[.val (.int p1)] [(.int (1 : Int32))])) _
                        refine XS.goto X0.here hx rfl (pc0 := 67) (pc' := 71) rfl (hb hby d2_67) (by decide) (by decide) ?_
                        exact kt
                      obtain ⟨fs, hr, hrun, hended, hW, hsame⟩ := X0.leave (v := some (.int (1 : Int32))) (fun h => by rw [Bd.returns] at h; cases h)
                      refine ⟨_, _, pre135 _ ?_, hrun, hended, _, _, rfl, ?_, ⟨_, rfl⟩, hW, hsame.mono (by decide) (by decide)⟩
                      · show Steps p.tables e below (s₁.setTop (mkF m 71 #[.val (.int p1)] [(.int (1 : Int32))])) _
                        exact retN X0 hx (t := .boolean) Bd.returns (by simp) (hb hby d2_71) hr
                      · show Q2 Z p1 h0 n0 _ s₁.heap _
                        rw [e0]
                        exact ⟨(by rw [own_F2, if_neg hc3_2, if_pos hc9_71, if_neg hc17_73, if_pos hc23_106, if_neg hc31_108, if_pos hc37_123, if_neg hc45_125, if_neg hc51_128, if_neg hc57_131, if_pos hc63_134]), N0, rfl⟩
                    · have pre136 : ∀ t, Steps p.tables e below (s₁.setTop (mkF m 71 #[.val (.int p1)] [(.int (0 : Int32))])) t → Steps p.tables e below (s₁.setTop (entryFrame m #[(.int p1)] 1)) t := by
                        intro t kt
                        refine pre133 _ ?_
                        show Steps p.tables e below (s₁.setTop (mkF m 63 #[.val (.int p1)] [(.int (126 : Int32)), (.int p1)])) _
                        refine XS.icmpYes X0.here hx rfl (pc0 := 63) (pc' := 70) rfl (hb hby d2_63) rfl (feq hc63_134).2 (by decide) (by decide) ?_
                        show Steps p.tables e below (s₁.setTop (mkF m 70 #[.val (.int p1)] [])) _
                        refine XS.iconst X0.here hx rfl (hb hby d2_70) ?_
                        exact kt
                      obtain ⟨fs, hr, hrun, hended, hW, hsame⟩ := X0.leave (v := some (.int (0 : Int32))) (fun h => by rw [Bd.returns] at h; cases h)
                      refine ⟨_, _, pre136 _ ?_, hrun, hended, _, _, rfl, ?_, ⟨_, rfl⟩, hW, hsame.mono (by decide) (by decide)⟩
                      · show Steps p.tables e below (s₁.setTop (mkF m 71 #[.val (.int p1)] [(.int (0 : Int32))])) _
                        exact retN X0 hx (t := .boolean) Bd.returns (by simp) (hb hby d2_71) hr
                      · show Q2 Z p1 h0 n0 _ s₁.heap _
                        rw [e0]
                        exact ⟨(by rw [own_F2, if_neg hc3_2, if_pos hc9_71, if_neg hc17_73, if_pos hc23_106, if_neg hc31_108, if_pos hc37_123, if_neg hc45_125, if_neg hc51_128, if_neg hc57_131, if_neg hc63_134]), N0, rfl⟩
            · have pre137 : ∀ t, Steps p.tables e below (s₁.setTop (mkF m 41 #[.val (.int p1)] [(.int (1 : Int32))])) t → Steps p.tables e below (s₁.setTop (entryFrame m #[(.int p1)] 1)) t := by
                intro t kt
                refine pre122 _ ?_
                show Steps p.tables e below (s₁.setTop (mkF m 37 #[.val (.int p1)] [(.int (57 : Int32)), (.int p1)])) _
                refine XS.icmpNo X0.here hx rfl (hb hby d2_37) rfl (flt hc37_123).2.2.1 ?_
                show Steps p.tables e below (s₁.setTop (mkF m 40 #[.val (.int p1)] [])) _
                refine XS.iconst X0.here hx rfl (hb hby d2_40) ?_
                exact kt
              obtain ⟨fs, hr, hrun, hended, hW, hsame⟩ := X0.leave (v := some (.int (1 : Int32))) (fun h => by rw [Bd.returns] at h; cases h)
              refine ⟨_, _, pre137 _ ?_, hrun, hended, _, _, rfl, ?_, ⟨_, rfl⟩, hW, hsame.mono (by decide) (by decide)⟩
              · show Steps p.tables e below (s₁.setTop (mkF m 41 #[.val (.int p1)] [(.int (1 : Int32))])) _
                exact retN X0 hx (t := .boolean) Bd.returns (by simp) (hb hby d2_41) hr
              · show Q2 Z p1 h0 n0 _ s₁.heap _
                rw [e0]
                exact ⟨(by rw [own_F2, if_neg hc3_2, if_pos hc9_71, if_neg hc17_73, if_pos hc23_106, if_neg hc31_108, if_neg hc37_123]), N0, rfl⟩
        · have pre138 : ∀ t, Steps p.tables e below (s₁.setTop (mkF m 27 #[.val (.int p1)] [(.int (1 : Int32))])) t → Steps p.tables e below (s₁.setTop (entryFrame m #[(.int p1)] 1)) t := by
            intro t kt
            refine pre105 _ ?_
            show Steps p.tables e below (s₁.setTop (mkF m 23 #[.val (.int p1)] [(.int (122 : Int32)), (.int p1)])) _
            refine XS.icmpNo X0.here hx rfl (hb hby d2_23) rfl (flt hc23_106).2.2.1 ?_
            show Steps p.tables e below (s₁.setTop (mkF m 26 #[.val (.int p1)] [])) _
            refine XS.iconst X0.here hx rfl (hb hby d2_26) ?_
            exact kt
          obtain ⟨fs, hr, hrun, hended, hW, hsame⟩ := X0.leave (v := some (.int (1 : Int32))) (fun h => by rw [Bd.returns] at h; cases h)
          refine ⟨_, _, pre138 _ ?_, hrun, hended, _, _, rfl, ?_, ⟨_, rfl⟩, hW, hsame.mono (by decide) (by decide)⟩
          · show Steps p.tables e below (s₁.setTop (mkF m 27 #[.val (.int p1)] [(.int (1 : Int32))])) _
            exact retN X0 hx (t := .boolean) Bd.returns (by simp) (hb hby d2_27) hr
          · show Q2 Z p1 h0 n0 _ s₁.heap _
            rw [e0]
            exact ⟨(by rw [own_F2, if_neg hc3_2, if_pos hc9_71, if_neg hc17_73, if_neg hc23_106]), N0, rfl⟩
    · have pre139 : ∀ t, Steps p.tables e below (s₁.setTop (mkF m 13 #[.val (.int p1)] [(.int (1 : Int32))])) t → Steps p.tables e below (s₁.setTop (entryFrame m #[(.int p1)] 1)) t := by
        intro t kt
        refine pre70 _ ?_
        show Steps p.tables e below (s₁.setTop (mkF m 9 #[.val (.int p1)] [(.int (90 : Int32)), (.int p1)])) _
        refine XS.icmpNo X0.here hx rfl (hb hby d2_9) rfl (flt hc9_71).2.2.1 ?_
        show Steps p.tables e below (s₁.setTop (mkF m 12 #[.val (.int p1)] [])) _
        refine XS.iconst X0.here hx rfl (hb hby d2_12) ?_
        exact kt
      obtain ⟨fs, hr, hrun, hended, hW, hsame⟩ := X0.leave (v := some (.int (1 : Int32))) (fun h => by rw [Bd.returns] at h; cases h)
      refine ⟨_, _, pre139 _ ?_, hrun, hended, _, _, rfl, ?_, ⟨_, rfl⟩, hW, hsame.mono (by decide) (by decide)⟩
      · show Steps p.tables e below (s₁.setTop (mkF m 13 #[.val (.int p1)] [(.int (1 : Int32))])) _
        exact retN X0 hx (t := .boolean) Bd.returns (by simp) (hb hby d2_13) hr
      · show Q2 Z p1 h0 n0 _ s₁.heap _
        rw [e0]
        exact ⟨(by rw [own_F2, if_neg hc3_2, if_neg hc9_71]), N0, rfl⟩
theorem d1_0 : decode prog_55_method_4_code 0 = .ok (.iload_n 0, 1) := by decide +kernel
theorem d1_1 : decode prog_55_method_4_code 1 = .ok (.sipush 128, 3) := by decide +kernel
theorem d1_4 : decode prog_55_method_4_code 4 = .ok (.if_icmp .ge 15, 3) := by decide +kernel
theorem d1_7 : decode prog_55_method_4_code 7 = .ok (.getstatic 33, 3) := by decide +kernel
theorem d1_10 : decode prog_55_method_4_code 10 = .ok (.iload_n 0, 1) := by decide +kernel
theorem d1_11 : decode prog_55_method_4_code 11 = .ok (.baload, 1) := by decide +kernel
theorem d1_12 : decode prog_55_method_4_code 12 = .ok (.ifCond .eq 7, 3) := by decide +kernel
theorem d1_15 : decode prog_55_method_4_code 15 = .ok (.iconst 1, 1) := by decide +kernel
theorem d1_16 : decode prog_55_method_4_code 16 = .ok (.goto 4, 3) := by decide +kernel
theorem d1_19 : decode prog_55_method_4_code 19 = .ok (.iconst 0, 1) := by decide +kernel
theorem d1_20 : decode prog_55_method_4_code 20 = .ok (.ireturn, 1) := by decide +kernel
theorem pn_1 : plainName "com/example/elemento/elemento/UriSyntax" = true := by first | (simp [plainName, overriddenIn]; done) | decide +kernel
theorem ef_1 (m : MethodId) (x0 : Int32) : entryFrame m #[(.int x0)] 1 = mkF m 0 #[.val (.int x0)] [] := by first | (simp [entryFrame, mkF, argsToLocals, Value.category]; done) | rfl
def own_F1 (p1 : Int32) (wA : Addr) (cl : Cell) (w : Int32) : Int32 := if p1 < (128 : Int32) then if w = (0 : Int32) then (0 : Int32) else (1 : Int32) else (0 : Int32)
def Q1 (Z : State) (p1 : Int32) (wA : Addr) (cl : Cell) (w : Int32) (h0 : Heap) (n0 : Nat) (v : Option Value) (h : Heap) (L : List Loc) : Prop := v = some (.int (own_F1 p1 wA cl w)) ∧ Fr n0 L ∧ h = h0
set_option maxRecDepth 65536 in
set_option maxHeartbeats 40000000 in
theorem rm1 (l : Launch) (Z : State) (a0 : Array Value) (hw : ∀ d ∈ tables_1, d.before a0 Z = true) (ws : List Jvm.Cond) (p1 : Int32) (wA : Addr) (cl : Cell) (w : Int32) (h0 : Heap) (n0 : Nat) (Z0 : n0 ≤ h0.size) (S1 : Sta Z h0 "com/example/elemento/elemento/UriSyntax" "UNRESERVED_CHARACTERS" "[Z" (.ref wA)) (Ar : Arr Z h0 wA cl .boolean) (hat : p1 < (128 : Int32) → (¬ (p1 < 0 ∨ cl.slots.size ≤ p1.toNatClampNeg) ∧ cl.slots[p1.toNatClampNeg]? = some (.int w))) :
    MetFree l (⟨"com/example/elemento/elemento/UriSyntax", "isUnreserved", "(C)Z"⟩ : MethodName) (head1 (Jvm.Cond.code (⟨"com/example/elemento/elemento/UriSyntax", "isUnreserved", "(C)Z"⟩ : MethodName) prog_55_method_4_code 1 (some .boolean) :: ws) ({ frames := 0, cells := 0, slots := 0, locals := 0 } : Room)) (fun a U => a = #[(.int p1)] ∧ Z.Warmed39 U.vm ∧ U.heap = h0) (fun _ _ _ _ _ => True) (fun _ U o U' => ∃ v L, o = .returned v ∧ Q1 Z p1 wA cl w h0 n0 v U'.heap L ∧ FrameEnd U o U' L ({ frames := 0, cells := 0, slots := 0, locals := 0 } : Room).cells ({ frames := 0, cells := 0, slots := 0, locals := 0 } : Room).slots) := by
  refine MetFree.of_bodySF (plainFor_of_name pn_1) hisR ?_
  intro p e s m args below meth c s₁ Bd hml0 hP hK
  obtain ⟨rfl, hZ, hh⟩ := hP
  have hx := Bd.exec
  have hby := Bd.bytes
  have hml : c.maxLocals = 1 := hml0
  have hown : s.vm.findClass "com/example/elemento/elemento/UriSyntax" = some m.cls := findClass_of_methodNamed Bd.named
  have hnm := (name_of_methodNamed Bd.named Bd.method).1
  have X0 : Stand p l e ({ frames := 0, cells := 0, slots := 0, locals := 0 } : Room) s m #[(.int p1)] below meth c s₁ [] 0 0 := Stand.of_body Bd
  have e0 : s₁.heap = h0 := by rw [← hh, Bd.state]; rfl
  have N0 := Fr.nil n0
  have pre0 : ∀ t, Steps p.tables e below (s₁.setTop (mkF m 0 #[.val (.int p1)] [])) t → Steps p.tables e below (s₁.setTop (entryFrame m #[(.int p1)] 1)) t := fun t k => castTop (ef_1 m p1) k
  have pre140 : ∀ t, Steps p.tables e below (s₁.setTop (mkF m 4 #[.val (.int p1)] [(.int (128 : Int32)), (.int p1)])) t → Steps p.tables e below (s₁.setTop (entryFrame m #[(.int p1)] 1)) t := by
    intro t kt
    refine pre0 _ ?_
    show Steps p.tables e below (s₁.setTop (mkF m 0 #[.val (.int p1)] [])) _
    refine XS.iloadN X0.here hx rfl (hb hby d1_0) rfl ?_
    show Steps p.tables e below (s₁.setTop (mkF m 1 #[.val (.int p1)] [(.int p1)])) _
    refine XS.sipush X0.here hx rfl (hb hby d1_1) ?_
    exact kt
  by_cases hc4_141 : p1 < (128 : Int32)
  · obtain ⟨T142, X142, e142, st142⟩ := getS2 X0 hx hZ hown (host := "") (Or.inl (hw _ (List.mem_of_getElem? (i := 4) rfl))) Via.refl e0 S1 (g := (mkF m 7 #[.val (.int p1)] [])) rfl (hb hby d1_7)
    have pre143 : ∀ t, Steps p.tables e below (T142.setTop (mkF m 12 #[.val (.int p1)] [(.int w)])) t → Steps p.tables e below (s₁.setTop (entryFrame m #[(.int p1)] 1)) t := by
      intro t kt
      refine pre140 _ ?_
      show Steps p.tables e below (s₁.setTop (mkF m 4 #[.val (.int p1)] [(.int (128 : Int32)), (.int p1)])) _
      refine XS.icmpNo X0.here hx rfl (hb hby d1_4) rfl (tlt hc4_141).2.1 ?_
      show Steps p.tables e below (s₁.setTop (mkF m 7 #[.val (.int p1)] [])) _
      refine st142 _ ?_
      show Steps p.tables e below (T142.setTop (mkF m 10 #[.val (.int p1)] [(.ref wA)])) _
      refine XS.iloadN X142.here hx rfl (hb hby d1_10) rfl ?_
      show Steps p.tables e below (T142.setTop (mkF m 11 #[.val (.int p1)] [(.int p1), (.ref wA)])) _
      refine X142.baloadBooleans hx (j := p1) (v := .int w) (by rw [e142]; exact Ar.1) (State.isArrayOf_alike hZ.alike Ar.2.1) Ar.2.2 (hat hc4_141).1 (hat hc4_141).2 (g := (mkF m 11 #[.val (.int p1)] [(.int p1), (.ref wA)])) rfl rfl (hb hby d1_11) _ ?_
      exact kt
    by_cases hc12_144 : w = (0 : Int32)
    · have pre145 : ∀ t, Steps p.tables e below (T142.setTop (mkF m 20 #[.val (.int p1)] [(.int (0 : Int32))])) t → Steps p.tables e below (s₁.setTop (entryFrame m #[(.int p1)] 1)) t := by
        intro t kt
        refine pre143 _ ?_
        show Steps p.tables e below (T142.setTop (mkF m 12 #[.val (.int p1)] [(.int w)])) _
        refine XS.ifYes X142.here hx rfl (pc0 := 12) (pc' := 19) rfl (hb hby d1_12) rfl ((if0 _ _).trans (teq hc12_144).1) (by decide) (by decide) ?_
        show Steps p.tables e below (T142.setTop (mkF m 19 #[.val (.int p1)] [])) _
        refine XS.iconst X142.here hx rfl (hb hby d1_19) ?_
        exact kt
      obtain ⟨fs, hr, hrun, hended, hW, hsame⟩ := X142.leave (v := some (.int (0 : Int32))) (fun h => by rw [Bd.returns] at h; cases h)
      refine ⟨_, _, pre145 _ ?_, hrun, hended, _, _, rfl, ?_, ⟨_, rfl⟩, hW, hsame.mono (by decide) (by decide)⟩
      · show Steps p.tables e below (T142.setTop (mkF m 20 #[.val (.int p1)] [(.int (0 : Int32))])) _
        exact retN X142 hx (t := .boolean) Bd.returns (by simp) (hb hby d1_20) hr
      · show Q1 Z p1 wA cl w h0 n0 _ T142.heap _
        rw [e142]
        exact ⟨(by rw [own_F1, if_pos hc4_141, if_pos hc12_144]), N0, rfl⟩
    · have pre146 : ∀ t, Steps p.tables e below (T142.setTop (mkF m 20 #[.val (.int p1)] [(.int (1 : Int32))])) t → Steps p.tables e below (s₁.setTop (entryFrame m #[(.int p1)] 1)) t := by
        intro t kt
        refine pre143 _ ?_
        show Steps p.tables e below (T142.setTop (mkF m 12 #[.val (.int p1)] [(.int w)])) _
        refine XS.ifNo X142.here hx rfl (hb hby d1_12) rfl ((if0 _ _).trans (feq hc12_144).1) ?_
        show Steps p.tables e below (T142.setTop (mkF m 15 #[.val (.int p1)] [])) _
        refine XS.iconst X142.here hx rfl (hb hby d1_15) ?_
        show Steps p.tables e below (T142.setTop (mkF m 16 #[.val (.int p1)] [(.int (1 : Int32))])) _
        refine XS.goto X142.here hx rfl (pc0 := 16) (pc' := 20) rfl (hb hby d1_16) (by decide) (by decide) ?_
        exact kt
      obtain ⟨fs, hr, hrun, hended, hW, hsame⟩ := X142.leave (v := some (.int (1 : Int32))) (fun h => by rw [Bd.returns] at h; cases h)
      refine ⟨_, _, pre146 _ ?_, hrun, hended, _, _, rfl, ?_, ⟨_, rfl⟩, hW, hsame.mono (by decide) (by decide)⟩
      · show Steps p.tables e below (T142.setTop (mkF m 20 #[.val (.int p1)] [(.int (1 : Int32))])) _
        exact retN X142 hx (t := .boolean) Bd.returns (by simp) (hb hby d1_20) hr
      · show Q1 Z p1 wA cl w h0 n0 _ T142.heap _
        rw [e142]
        exact ⟨(by rw [own_F1, if_pos hc4_141, if_neg hc12_144]), N0, rfl⟩
  · have pre147 : ∀ t, Steps p.tables e below (s₁.setTop (mkF m 20 #[.val (.int p1)] [(.int (0 : Int32))])) t → Steps p.tables e below (s₁.setTop (entryFrame m #[(.int p1)] 1)) t := by
      intro t kt
      refine pre140 _ ?_
      show Steps p.tables e below (s₁.setTop (mkF m 4 #[.val (.int p1)] [(.int (128 : Int32)), (.int p1)])) _
      refine XS.icmpYes X0.here hx rfl (pc0 := 4) (pc' := 19) rfl (hb hby d1_4) rfl (flt hc4_141).2.1 (by decide) (by decide) ?_
      show Steps p.tables e below (s₁.setTop (mkF m 19 #[.val (.int p1)] [])) _
      refine XS.iconst X0.here hx rfl (hb hby d1_19) ?_
      exact kt
    obtain ⟨fs, hr, hrun, hended, hW, hsame⟩ := X0.leave (v := some (.int (0 : Int32))) (fun h => by rw [Bd.returns] at h; cases h)
    refine ⟨_, _, pre147 _ ?_, hrun, hended, _, _, rfl, ?_, ⟨_, rfl⟩, hW, hsame.mono (by decide) (by decide)⟩
    · show Steps p.tables e below (s₁.setTop (mkF m 20 #[.val (.int p1)] [(.int (0 : Int32))])) _
      exact retN X0 hx (t := .boolean) Bd.returns (by simp) (hb hby d1_20) hr
    · show Q1 Z p1 wA cl w h0 n0 _ s₁.heap _
      rw [e0]
      exact ⟨(by rw [own_F1, if_neg hc4_141]), N0, rfl⟩
theorem own_F2_two (j : Int32) : own_F2 j = 0 ∨ own_F2 j = 1 := by
  unfold own_F2
  repeat' split
  all_goals first | exact Or.inl rfl | exact Or.inr rfl
set_option maxHeartbeats 40000000 in
theorem own_F2_far (j : Int32) (h : ¬ j < (128 : Int32)) : own_F2 j = 0 := by
  have e128 : (128 : Int32).toInt = 128 := rfl
  have e65 : (65 : Int32).toInt = 65 := rfl
  have e90 : (90 : Int32).toInt = 90 := rfl
  have e97 : (97 : Int32).toInt = 97 := rfl
  have e122 : (122 : Int32).toInt = 122 := rfl
  have e48 : (48 : Int32).toInt = 48 := rfl
  have e57 : (57 : Int32).toInt = 57 := rfl
  have e45 : (45 : Int32).toInt = 45 := rfl
  have e46 : (46 : Int32).toInt = 46 := rfl
  have e95 : (95 : Int32).toInt = 95 := rfl
  have e126 : (126 : Int32).toInt = 126 := rfl
  rw [Int32.lt_iff_toInt_lt, e128] at h
  unfold own_F2
  simp only [Int32.lt_iff_toInt_lt, ← Int32.toInt_inj, e65, e90, e97, e122, e48, e57, e45, e46, e95, e126]
  repeat' split
  all_goals first | rfl | omega
theorem own_same (c : Int32) (wA : Addr) (cl : Cell) : own_F1 c wA cl (own_F2 c) = own_F2 c := by
  unfold own_F1
  by_cases h : c < (128 : Int32)
  · rw [if_pos h]
    rcases own_F2_two c with q | q <;> rw [q] <;> decide
  · rw [if_neg h, own_F2_far c h]
theorem own_c0 (x : Int32) : ¬ (x.toUInt32.toUInt16.toUInt32.toInt32) < (0 : Int32) := by
  have h := c_i2c x
  have e0 : (0 : Int32).toInt = 0 := rfl
  rw [Int32.lt_iff_toInt_lt, e0]
  omega
theorem pd_0 : parseMethodDescriptor "(C)Z" = some ⟨[.char], some .boolean⟩ := by decide +kernel
theorem pn_0 : plainName "com/example/elemento/elemento/UriSyntaxIsUnreservedPinLaw" = true := by first | (simp [plainName, overriddenIn]; done) | decide +kernel
theorem ef_0 (m : MethodId) (x0 : Int32) : entryFrame m #[(.int x0)] maxLocals = mkF m 0 #[.val (.int x0), .unset] [] := by first | (simp [entryFrame, mkF, argsToLocals, Value.category, maxLocals]; done) | rfl
def Q0 (Z : State) (p1 : Int32) (wA : Addr) (cl : Cell) (h0 : Heap) (n0 : Nat) (v : Option Value) (h : Heap) (L : List Loc) : Prop := v = some (.int (1 : Int32)) ∧ Fr n0 L ∧ h = h0
set_option maxRecDepth 65536 in
set_option maxHeartbeats 40000000 in
theorem rm0 (l : Launch) (Z : State) (a0 : Array Value) (hw : ∀ d ∈ tables_1, d.before a0 Z = true) (ws : List Jvm.Cond) (p1 : Int32) (wA : Addr) (cl : Cell) (h0 : Heap) (n0 : Nat) (Z0 : n0 ≤ h0.size) (S1 : Sta Z h0 "com/example/elemento/elemento/UriSyntax" "UNRESERVED_CHARACTERS" "[Z" (.ref wA)) (Ar : Arr Z h0 wA cl .boolean) (hT : ∀ j : Int32, ¬ j < (0 : Int32) → j < (128 : Int32) → (¬ (j < 0 ∨ cl.slots.size ≤ j.toNatClampNeg) ∧ cl.slots[j.toNatClampNeg]? = some (.int (own_F2 j)))) :
    MetFree l x (head1 (Jvm.Cond.code x code maxLocals ret :: ws) room_1) (fun a U => a = #[(.int p1)] ∧ Z.Warmed39 U.vm ∧ U.heap = h0) (fun _ _ _ _ _ => True) (fun _ U o U' => ∃ v L, o = .returned v ∧ Q0 Z p1 wA cl h0 n0 v U'.heap L ∧ FrameEnd U o U' L room_1.cells room_1.slots) := by
  refine MetFree.of_bodySF (plainFor_of_name pn_0) hisR ?_
  intro p e s m args below meth c s₁ Bd hml0 hP hK
  obtain ⟨rfl, hZ, hh⟩ := hP
  have hx := Bd.exec
  have hby := Bd.bytes
  have hml : c.maxLocals = 2 := hml0
  have hown : s.vm.findClass "com/example/elemento/elemento/UriSyntaxIsUnreservedPinLaw" = some m.cls := findClass_of_methodNamed Bd.named
  have hnm := (name_of_methodNamed Bd.named Bd.method).1
  have X0 : Stand p l e room_1 s m #[(.int p1)] below meth c s₁ [] 0 0 := Stand.of_body Bd
  have e0 : s₁.heap = h0 := by rw [← hh, Bd.state]; rfl
  have N0 := Fr.nil n0
  have pre0 : ∀ t, Steps p.tables e below (s₁.setTop (mkF m 0 #[.val (.int p1), .unset] [])) t → Steps p.tables e below (s₁.setTop (entryFrame m #[(.int p1)] maxLocals)) t := fun t k => castTop (ef_0 m p1) k
  obtain ⟨_, _, ⟨T148, L148, k148, n148⟩, -, X148, ⟨Lc148, hQ148, l148, y148, z148⟩, st148⟩ := Jvm.LawKit.callS X0 hx (y := (⟨"com/example/elemento/elemento/UriSyntax", "isUnreserved", "(C)Z"⟩ : MethodName)) hown (mvT hZ (hw _ (List.mem_of_getElem? (i := 0) rfl))) (mvT hZ (hw _ (List.mem_of_getElem? (i := 1) rfl))) (mvT hZ (hw _ (List.mem_of_getElem? (i := 2) rfl))) (mvT hZ (hw _ (List.mem_of_getElem? (i := 3) rfl))) (by decide) (backOf (W := 0) (rm1 l Z a0 hw [] (p1.toUInt32.toUInt16.toUInt32.toInt32) wA cl (own_F2 (p1.toUInt32.toUInt16.toUInt32.toInt32)) h0 n0 Z0 S1 Ar (hT _ (own_c0 p1))) hZ (hw _ (List.mem_of_getElem? (i := 3) rfl)) (hw _ (List.mem_of_getElem? (i := 2) rfl)) (by decide) (by decide)) (g := (mkF m 4 #[.val (.int p1), .val (.int (p1.toUInt32.toUInt16.toUInt32.toInt32))] [(.int (p1.toUInt32.toUInt16.toUInt32.toInt32))])) rfl (by rw [hml]; rfl) (argsL := [(.int (p1.toUInt32.toUInt16.toUInt32.toInt32))]) (rest := []) (lenOf pd_0 rfl) rfl (by show 2 * 0 + _ ≤ _; exact Nat.le_of_eq rfl) (hb hby at_4) (fun _ _ => ⟨rfl, e0, (by decide : 0 + 0 ≤ _), (by decide : 0 + 0 ≤ _)⟩)
  dsimp only [Pt.U, Pt.locs, Pt.cells, Pt.slots] at X148 l148 y148 z148 st148 hQ148
  subst l148 y148 z148
  obtain ⟨rfl, N148q, e148⟩ := hQ148
  have N148 := Fr.app N0 N148q
  obtain ⟨_, _, ⟨T149, L149, k149, n149⟩, -, X149, ⟨Lc149, hQ149, l149, y149, z149⟩, st149⟩ := Jvm.LawKit.callS X148 hx (y := (⟨"com/example/elemento/elemento/UriSyntaxIsUnreservedPinLaw", "expected", "(C)Z"⟩ : MethodName)) hown (mvT hZ (hw _ (List.mem_of_getElem? (i := 6) rfl))) (mvT hZ (hw _ (List.mem_of_getElem? (i := 7) rfl))) (mvT hZ (hw _ (List.mem_of_getElem? (i := 8) rfl))) (mvT hZ (hw _ (List.mem_of_getElem? (i := 9) rfl))) (by decide) (backOf (W := 1) (rm2 l Z a0 hw [] (p1.toUInt32.toUInt16.toUInt32.toInt32) h0 n0 Z0) hZ (hw _ (List.mem_of_getElem? (i := 9) rfl)) (hw _ (List.mem_of_getElem? (i := 8) rfl)) (by decide) (by decide)) (g := (mkF m 8 #[.val (.int p1), .val (.int (p1.toUInt32.toUInt16.toUInt32.toInt32))] [(.int (p1.toUInt32.toUInt16.toUInt32.toInt32)), (.int (own_F1 (p1.toUInt32.toUInt16.toUInt32.toInt32) wA cl (own_F2 (p1.toUInt32.toUInt16.toUInt32.toInt32))))])) rfl (by rw [hml]; rfl) (argsL := [(.int (p1.toUInt32.toUInt16.toUInt32.toInt32))]) (rest := [(.int (own_F1 (p1.toUInt32.toUInt16.toUInt32.toInt32) wA cl (own_F2 (p1.toUInt32.toUInt16.toUInt32.toInt32))))]) (lenOf pd_0 rfl) rfl (by show 2 * 0 + _ ≤ _; exact Nat.le_of_eq rfl) (hb hby at_8) (fun _ _ => ⟨rfl, e148, (by decide : 0 + 0 ≤ _), (by decide : 0 + 0 ≤ _)⟩)
  dsimp only [Pt.U, Pt.locs, Pt.cells, Pt.slots] at X149 l149 y149 z149 st149 hQ149
  subst l149 y149 z149
  obtain ⟨rfl, N149q, e149⟩ := hQ149
  have N149 := Fr.app N148 N149q
  have pre150 : ∀ t, Steps p.tables e below (T149.setTop (mkF m 19 #[.val (.int p1), .val (.int (p1.toUInt32.toUInt16.toUInt32.toInt32))] [(.int (1 : Int32))])) t → Steps p.tables e below (s₁.setTop (entryFrame m #[(.int p1)] maxLocals)) t := by
    intro t kt
    refine pre0 _ ?_
    show Steps p.tables e below (s₁.setTop (mkF m 0 #[.val (.int p1), .unset] [])) _
    refine XS.iloadN X0.here hx rfl (hb hby at_0) rfl ?_
    show Steps p.tables e below (s₁.setTop (mkF m 1 #[.val (.int p1), .unset] [(.int p1)])) _
    refine XS.i2c X0.here hx rfl (hb hby at_1) rfl ?_
    show Steps p.tables e below (s₁.setTop (mkF m 2 #[.val (.int p1), .unset] [(.int (p1.toUInt32.toUInt16.toUInt32.toInt32))])) _
    refine XS.istoreN X0.here hx rfl (hb hby at_2) rfl (l' := #[.val (.int p1), .val (.int (p1.toUInt32.toUInt16.toUInt32.toInt32))]) rfl ?_
    show Steps p.tables e below (s₁.setTop (mkF m 3 #[.val (.int p1), .val (.int (p1.toUInt32.toUInt16.toUInt32.toInt32))] [])) _
    refine XS.iloadN X0.here hx rfl (hb hby at_3) rfl ?_
    show Steps p.tables e below (s₁.setTop (mkF m 4 #[.val (.int p1), .val (.int (p1.toUInt32.toUInt16.toUInt32.toInt32))] [(.int (p1.toUInt32.toUInt16.toUInt32.toInt32))])) _
    refine st148 _ ?_
    show Steps p.tables e below (T148.setTop (mkF m 7 #[.val (.int p1), .val (.int (p1.toUInt32.toUInt16.toUInt32.toInt32))] [(.int (own_F1 (p1.toUInt32.toUInt16.toUInt32.toInt32) wA cl (own_F2 (p1.toUInt32.toUInt16.toUInt32.toInt32))))])) _
    refine XS.iloadN X148.here hx rfl (hb hby at_7) rfl ?_
    show Steps p.tables e below (T148.setTop (mkF m 8 #[.val (.int p1), .val (.int (p1.toUInt32.toUInt16.toUInt32.toInt32))] [(.int (p1.toUInt32.toUInt16.toUInt32.toInt32)), (.int (own_F1 (p1.toUInt32.toUInt16.toUInt32.toInt32) wA cl (own_F2 (p1.toUInt32.toUInt16.toUInt32.toInt32))))])) _
    refine st149 _ ?_
    show Steps p.tables e below (T149.setTop (mkF m 11 #[.val (.int p1), .val (.int (p1.toUInt32.toUInt16.toUInt32.toInt32))] [(.int (own_F2 (p1.toUInt32.toUInt16.toUInt32.toInt32))), (.int (own_F1 (p1.toUInt32.toUInt16.toUInt32.toInt32) wA cl (own_F2 (p1.toUInt32.toUInt16.toUInt32.toInt32))))])) _
    refine XS.icmpNo X149.here hx rfl (hb hby at_11) rfl (teq ((own_same _ _ _) : (own_F1 (p1.toUInt32.toUInt16.toUInt32.toInt32) wA cl (own_F2 (p1.toUInt32.toUInt16.toUInt32.toInt32))) = (own_F2 (p1.toUInt32.toUInt16.toUInt32.toInt32)))).2 ?_
    show Steps p.tables e below (T149.setTop (mkF m 14 #[.val (.int p1), .val (.int (p1.toUInt32.toUInt16.toUInt32.toInt32))] [])) _
    refine XS.iconst X149.here hx rfl (hb hby at_14) ?_
    show Steps p.tables e below (T149.setTop (mkF m 15 #[.val (.int p1), .val (.int (p1.toUInt32.toUInt16.toUInt32.toInt32))] [(.int (1 : Int32))])) _
    refine XS.goto X149.here hx rfl (pc0 := 15) (pc' := 19) rfl (hb hby at_15) (by decide) (by decide) ?_
    exact kt
  obtain ⟨fs, hr, hrun, hended, hW, hsame⟩ := X149.leave (v := some (.int (1 : Int32))) (fun h => by rw [Bd.returns] at h; cases h)
  refine ⟨_, _, pre150 _ ?_, hrun, hended, _, _, rfl, ?_, ⟨_, rfl⟩, hW, hsame.mono (by decide) (by decide)⟩
  · show Steps p.tables e below (T149.setTop (mkF m 19 #[.val (.int p1), .val (.int (p1.toUInt32.toUInt16.toUInt32.toInt32))] [(.int (1 : Int32))])) _
    exact retN X149 hx (t := .boolean) Bd.returns (by simp) (hb hby at_19) hr
  · show Q0 Z p1 wA cl h0 n0 _ T149.heap _
    rw [e149]
    exact ⟨rfl, N149, rfl⟩
theorem own_fold (f : Nat → Option Bool) (L : List Nat) : ∀ acc : Option Bool, L.foldl (fun acc i => match acc with | some true => f i | x => x) acc = some true → acc = some true ∧ ∀ i ∈ L, f i = some true := by
  induction L with
  | nil => intro acc h; exact ⟨h, fun _ q => nomatch q⟩
  | cons a L ih =>
    intro acc h
    obtain ⟨h1, h2⟩ := ih _ h
    have hacc : acc = some true := by
      cases acc with
      | none => cases h1
      | some b => cases b with
        | true => rfl
        | false => cases h1
    subst hacc
    refine ⟨rfl, fun i hi => ?_⟩
    rcases List.mem_cons.mp hi with rfl | hi
    · exact h1
    · exact h2 i hi
theorem own_all {Z : State} {args : Array Value} {t : Term} {c : Jvm.Cond} {a : Addr} {cell : Cell} (h : (Jvm.Cond.all t c).value args Z none Z [] = some true) (ev : t.eval args Z none [] Z = some (.ref a)) (ha : Z.arrayAt? a = some cell) : ∀ i, i < cell.slots.size → c.value args Z none Z [i] = some true := by
  simp only [Cond.value, ev, ha] at h
  intro i hi
  exact (own_fold (fun i => c.value args Z none Z [i]) _ _ h).2 i (List.mem_range.mpr hi)
theorem own_el {Z : State} {args : Array Value} {t i : Term} {a : Addr} {cl : Cell} {j v : Int32} {idx : List Nat} (h : (Jvm.Cond.eq (.elem t i) (.int v)).value args Z none Z idx = some true) (ht : t.eval args Z none idx Z = some (.ref a)) (hj : i.eval args Z none idx Z = some (.int j)) (hc : Z.heap[a]? = some cl) :
    ¬ (j < 0 ∨ cl.slots.size ≤ j.toNatClampNeg) ∧ cl.slots[j.toNatClampNeg]? = some (.int v) := by
  obtain ⟨x, y, h1, h2, h3, -⟩ := cmp_v (Or.inl h)
  have e2 : y = .int v := (Option.some.inj (h2.symm.trans (Term.int_eval v)))
  subst e2
  have e1 : x = .int v := by
    cases x with
    | int z => simpa [Cond.value, h1, h2] using h
    | _ => simp [Cond.value, h1, h2] at h
  subst e1
  exact elem_in h1 ht hj hc
theorem own_or {Z : State} {args : Array Value} {a b : Jvm.Cond} {idx : List Nat} (h : (Jvm.Cond.or a b).value args Z none Z idx = some true) (ha : a.value args Z none Z idx = some false) : b.value args Z none Z idx = some true := by
  simpa [Cond.value, ha] using h
theorem own_lt {Z : State} {args : Array Value} {a b : Term} {x y : Int32} {idx : List Nat} (ha : a.eval args Z none idx Z = some (.int x)) (hb : b.eval args Z none idx Z = some (.int y)) (h : ¬ x < y) : (Jvm.Cond.lt a b).value args Z none Z idx = some false := by
  simp [Cond.value, ha, hb, h]
theorem own_le {Z : State} {args : Array Value} {a b : Term} {x y : Int32} {idx : List Nat} (ha : a.eval args Z none idx Z = some (.int x)) (hb : b.eval args Z none idx Z = some (.int y)) (h : ¬ x ≤ y) : (Jvm.Cond.le a b).value args Z none Z idx = some false := by
  simp [Cond.value, ha, hb, h]
set_option maxHeartbeats 40000000 in
theorem own_v0 (j : Int32) (h1 : ¬ j < (0 : Int32)) (h2 : j < (45 : Int32)) : own_F2 j = (0 : Int32) := by
  have e0 : (0 : Int32).toInt = 0 := rfl
  have e45 : (45 : Int32).toInt = 45 := rfl
  have e46 : (46 : Int32).toInt = 46 := rfl
  have e48 : (48 : Int32).toInt = 48 := rfl
  have e57 : (57 : Int32).toInt = 57 := rfl
  have e65 : (65 : Int32).toInt = 65 := rfl
  have e90 : (90 : Int32).toInt = 90 := rfl
  have e95 : (95 : Int32).toInt = 95 := rfl
  have e97 : (97 : Int32).toInt = 97 := rfl
  have e122 : (122 : Int32).toInt = 122 := rfl
  have e126 : (126 : Int32).toInt = 126 := rfl
  rw [Int32.lt_iff_toInt_lt, e0] at h1
  rw [Int32.lt_iff_toInt_lt, e45] at h2
  unfold own_F2
  simp only [Int32.lt_iff_toInt_lt, ← Int32.toInt_inj, e65, e90, e97, e122, e48, e57, e45, e46, e95, e126]
  repeat' split
  all_goals first | rfl | omega
set_option maxHeartbeats 40000000 in
theorem own_v4 (j : Int32) (h1 : ¬ j < (48 : Int32)) (h2 : j < (58 : Int32)) : own_F2 j = (1 : Int32) := by
  have e45 : (45 : Int32).toInt = 45 := rfl
  have e46 : (46 : Int32).toInt = 46 := rfl
  have e48 : (48 : Int32).toInt = 48 := rfl
  have e57 : (57 : Int32).toInt = 57 := rfl
  have e58 : (58 : Int32).toInt = 58 := rfl
  have e65 : (65 : Int32).toInt = 65 := rfl
  have e90 : (90 : Int32).toInt = 90 := rfl
  have e95 : (95 : Int32).toInt = 95 := rfl
  have e97 : (97 : Int32).toInt = 97 := rfl
  have e122 : (122 : Int32).toInt = 122 := rfl
  have e126 : (126 : Int32).toInt = 126 := rfl
  rw [Int32.lt_iff_toInt_lt, e48] at h1
  rw [Int32.lt_iff_toInt_lt, e58] at h2
  unfold own_F2
  simp only [Int32.lt_iff_toInt_lt, ← Int32.toInt_inj, e65, e90, e97, e122, e48, e57, e45, e46, e95, e126]
  repeat' split
  all_goals first | rfl | omega
set_option maxHeartbeats 40000000 in
theorem own_v5 (j : Int32) (h1 : ¬ j < (58 : Int32)) (h2 : j < (65 : Int32)) : own_F2 j = (0 : Int32) := by
  have e45 : (45 : Int32).toInt = 45 := rfl
  have e46 : (46 : Int32).toInt = 46 := rfl
  have e48 : (48 : Int32).toInt = 48 := rfl
  have e57 : (57 : Int32).toInt = 57 := rfl
  have e58 : (58 : Int32).toInt = 58 := rfl
  have e65 : (65 : Int32).toInt = 65 := rfl
  have e90 : (90 : Int32).toInt = 90 := rfl
  have e95 : (95 : Int32).toInt = 95 := rfl
  have e97 : (97 : Int32).toInt = 97 := rfl
  have e122 : (122 : Int32).toInt = 122 := rfl
  have e126 : (126 : Int32).toInt = 126 := rfl
  rw [Int32.lt_iff_toInt_lt, e58] at h1
  rw [Int32.lt_iff_toInt_lt, e65] at h2
  unfold own_F2
  simp only [Int32.lt_iff_toInt_lt, ← Int32.toInt_inj, e65, e90, e97, e122, e48, e57, e45, e46, e95, e126]
  repeat' split
  all_goals first | rfl | omega
set_option maxHeartbeats 40000000 in
theorem own_v6 (j : Int32) (h1 : ¬ j < (65 : Int32)) (h2 : j < (91 : Int32)) : own_F2 j = (1 : Int32) := by
  have e45 : (45 : Int32).toInt = 45 := rfl
  have e46 : (46 : Int32).toInt = 46 := rfl
  have e48 : (48 : Int32).toInt = 48 := rfl
  have e57 : (57 : Int32).toInt = 57 := rfl
  have e65 : (65 : Int32).toInt = 65 := rfl
  have e90 : (90 : Int32).toInt = 90 := rfl
  have e91 : (91 : Int32).toInt = 91 := rfl
  have e95 : (95 : Int32).toInt = 95 := rfl
  have e97 : (97 : Int32).toInt = 97 := rfl
  have e122 : (122 : Int32).toInt = 122 := rfl
  have e126 : (126 : Int32).toInt = 126 := rfl
  rw [Int32.lt_iff_toInt_lt, e65] at h1
  rw [Int32.lt_iff_toInt_lt, e91] at h2
  unfold own_F2
  simp only [Int32.lt_iff_toInt_lt, ← Int32.toInt_inj, e65, e90, e97, e122, e48, e57, e45, e46, e95, e126]
  repeat' split
  all_goals first | rfl | omega
set_option maxHeartbeats 40000000 in
theorem own_v7 (j : Int32) (h1 : ¬ j < (91 : Int32)) (h2 : j < (95 : Int32)) : own_F2 j = (0 : Int32) := by
  have e45 : (45 : Int32).toInt = 45 := rfl
  have e46 : (46 : Int32).toInt = 46 := rfl
  have e48 : (48 : Int32).toInt = 48 := rfl
  have e57 : (57 : Int32).toInt = 57 := rfl
  have e65 : (65 : Int32).toInt = 65 := rfl
  have e90 : (90 : Int32).toInt = 90 := rfl
  have e91 : (91 : Int32).toInt = 91 := rfl
  have e95 : (95 : Int32).toInt = 95 := rfl
  have e97 : (97 : Int32).toInt = 97 := rfl
  have e122 : (122 : Int32).toInt = 122 := rfl
  have e126 : (126 : Int32).toInt = 126 := rfl
  rw [Int32.lt_iff_toInt_lt, e91] at h1
  rw [Int32.lt_iff_toInt_lt, e95] at h2
  unfold own_F2
  simp only [Int32.lt_iff_toInt_lt, ← Int32.toInt_inj, e65, e90, e97, e122, e48, e57, e45, e46, e95, e126]
  repeat' split
  all_goals first | rfl | omega
set_option maxHeartbeats 40000000 in
theorem own_v10 (j : Int32) (h1 : ¬ j < (97 : Int32)) (h2 : j < (123 : Int32)) : own_F2 j = (1 : Int32) := by
  have e45 : (45 : Int32).toInt = 45 := rfl
  have e46 : (46 : Int32).toInt = 46 := rfl
  have e48 : (48 : Int32).toInt = 48 := rfl
  have e57 : (57 : Int32).toInt = 57 := rfl
  have e65 : (65 : Int32).toInt = 65 := rfl
  have e90 : (90 : Int32).toInt = 90 := rfl
  have e95 : (95 : Int32).toInt = 95 := rfl
  have e97 : (97 : Int32).toInt = 97 := rfl
  have e122 : (122 : Int32).toInt = 122 := rfl
  have e123 : (123 : Int32).toInt = 123 := rfl
  have e126 : (126 : Int32).toInt = 126 := rfl
  rw [Int32.lt_iff_toInt_lt, e97] at h1
  rw [Int32.lt_iff_toInt_lt, e123] at h2
  unfold own_F2
  simp only [Int32.lt_iff_toInt_lt, ← Int32.toInt_inj, e65, e90, e97, e122, e48, e57, e45, e46, e95, e126]
  repeat' split
  all_goals first | rfl | omega
set_option maxRecDepth 65536 in
set_option maxHeartbeats 40000000 in
theorem comes_1 {Post : Tables → Env → Array Value → State → Outcome → State → Prop} (hpost : ∀ tb e args s v u, (limb_1_1.after args s (.returned v) u = true ∧ limb_1_2.after args s (.returned v) u = true ∧ True) → FrameEnd s (.returned v) u (Jvm.fieldLocs frame_1_writes args s ++ Jvm.arrayLocs frame_1_arrays args s ++ Jvm.staticLocs frame_1_statics s) 0 0 → Post tb e args s (.returned v) u) :
    ArmFor flags0 classFile x code maxLocals ret World_1 tables_1 room_1 Calls_1 rest_1 Pre_1 Post := by
  intro l hfl _ _ p e ha hc hk s m args below hf hA hF happ hP
  obtain ⟨hcalls, hrest, hpre⟩ := hP
  obtain ⟨-, -, -, hnamed, -, -, -, hat⟩ := (Spec.applies_iff hf).mp happ
  obtain ⟨hg, hn⟩ := and_e (Cond.before_iff.mp (show (Jvm.Cond.and given_1 narrow_1).before args s = true from hpre))
  obtain ⟨gc, gr0⟩ := and_e hg
  obtain ⟨w0, rfl⟩ : ∃ w0 : Value, args = #[w0] := by
    have hs : args.size = 1 := by simpa [Cond.value, given_1] using gc
    obtain ⟨L⟩ := args
    match L, hs with
    | [w0], _ => exact ⟨w0, rfl⟩
  have hw := fun d (hd : d ∈ tables_1) => atoms_spec (ws := Jvm.Cond.code x code maxLocals ret :: tables_1) hat d (List.mem_cons_of_mem _ hd)
  have hfit : Fit s := fun {y c} hc i hi => by
    obtain ⟨ha, rfl⟩ := Array.getElem?_eq_some_iff.mp hc
    have q := List.all_eq_true.mp ((Array.all_eq_true_iff_forall_mem.mp hF) _ (Array.getElem_mem ha)) i (List.mem_range.mpr hi)
    simpa [Array.getElem?_eq_getElem hi] using q
  obtain ⟨i0, ei0⟩ := is_v gr0
  obtain rfl : w0 = (.int i0) := Option.some.inj ei0
  obtain ⟨nn0, nnr0⟩ := and_e hn
  obtain ⟨nn1, nnr1⟩ := and_e nnr0
  obtain ⟨nn2, nnr2⟩ := and_e nnr1
  obtain ⟨nn3, nnr3⟩ := and_e nnr2
  obtain ⟨nn4, nnr4⟩ := and_e nnr3
  obtain ⟨nn5, nnr5⟩ := and_e nnr4
  obtain ⟨nn6, nnr6⟩ := and_e nnr5
  obtain ⟨nn7, nnr7⟩ := and_e nnr6
  obtain ⟨nn8, nnr8⟩ := and_e nnr7
  obtain ⟨nn9, nnr9⟩ := and_e nnr8
  obtain ⟨nn10, nnr10⟩ := and_e nnr9
  obtain ⟨nn11, nnr11⟩ := and_e nnr10
  obtain ⟨nn12, nnr12⟩ := and_e nnr11
  obtain ⟨nn13, nnr13⟩ := and_e nnr12
  obtain ⟨nn14, nnr14⟩ := and_e nnr13
  obtain ⟨nn15, nnr15⟩ := and_e nnr14
  obtain ⟨nn16, nnr16⟩ := and_e nnr15
  have nn17 := nnr16
  obtain ⟨wA, evA⟩ := arr_v nn0
  have SA := Sta.start evA (Or.inr ⟨(hw _ (List.mem_of_getElem? (i := 2) rfl)), (hw _ (List.mem_of_getElem? (i := 5) rfl))⟩)
  obtain ⟨cl, Ar⟩ := Arr.start evA nn0
  have hcell := Ar.1
  have harr : s.arrayAt? wA = some cl := Arr.fin (Vm.Alike.refl _) Ar
  have hsz : ∀ j : Int32, ¬ j < (0 : Int32) → j < (128 : Int32) → j.toNatClampNeg < cl.slots.size ∧ j.toNatClampNeg.toInt32 = j := by
    intro j h1 h2
    have hb127 := (own_el nn17 evA (Term.int_eval (127)) hcell).1
    have e127 : (127 : Int32).toNatClampNeg = 127 := by decide
    rw [e127] at hb127
    have q := nat_of h1
    have e128 : (128 : Int32).toInt = 128 := rfl
    rw [Int32.lt_iff_toInt_lt, e128] at h2
    refine ⟨by omega, ?_⟩
    apply Int32.toInt_inj.mp
    rw [len_toInt (by omega)]
    exact q.symm
  have hT : ∀ j : Int32, ¬ j < (0 : Int32) → j < (128 : Int32) → (¬ (j < 0 ∨ cl.slots.size ≤ j.toNatClampNeg) ∧ cl.slots[j.toNatClampNeg]? = some (.int (own_F2 j))) := by
    intro j h1 h2
    obtain ⟨k1, k2⟩ := hsz j h1 h2
    have ei : (Term.index 0).eval #[Value.int i0] s none [j.toNatClampNeg] s = some (.int j) := by simp [Term.eval, k2]
    have hlo0 : ¬ j < (0 : Int32) := h1
    by_cases hh0 : j < (45 : Int32)
    · have q := own_all nn2 evA harr _ k1
      have q := own_or q (own_le (Term.int_eval (45)) ei (by rw [Int32.le_iff_toInt_le]; rw [Int32.lt_iff_toInt_lt] at hh0; omega))
      have q := own_el q (show (Term.static "com/example/elemento/elemento/UriSyntax" "UNRESERVED_CHARACTERS" "[Z").eval #[Value.int i0] s none [j.toNatClampNeg] s = some (.ref wA) from evA) ei hcell
      have ev : own_F2 j = (0 : Int32) := own_v0 j hlo0 hh0
      rw [ev]
      exact q
    have hlo1 : ¬ j < (45 : Int32) := hh0
    by_cases hh1 : j < (46 : Int32)
    · have ej : j = (45 : Int32) := by apply Int32.toInt_inj.mp; rw [Int32.lt_iff_toInt_lt] at hlo1 hh1; have z1 : (45 : Int32).toInt = 45 := rfl; have z2 : (46 : Int32).toInt = 46 := rfl; omega
      subst ej
      have q := own_el nn3 evA (Term.int_eval (45)) hcell
      have ev : own_F2 (45 : Int32) = (1 : Int32) := by decide
      rw [ev]
      exact q
    have hlo2 : ¬ j < (46 : Int32) := hh1
    by_cases hh2 : j < (47 : Int32)
    · have ej : j = (46 : Int32) := by apply Int32.toInt_inj.mp; rw [Int32.lt_iff_toInt_lt] at hlo2 hh2; have z1 : (46 : Int32).toInt = 46 := rfl; have z2 : (47 : Int32).toInt = 47 := rfl; omega
      subst ej
      have q := own_el nn4 evA (Term.int_eval (46)) hcell
      have ev : own_F2 (46 : Int32) = (1 : Int32) := by decide
      rw [ev]
      exact q
    have hlo3 : ¬ j < (47 : Int32) := hh2
    by_cases hh3 : j < (48 : Int32)
    · have ej : j = (47 : Int32) := by apply Int32.toInt_inj.mp; rw [Int32.lt_iff_toInt_lt] at hlo3 hh3; have z1 : (47 : Int32).toInt = 47 := rfl; have z2 : (48 : Int32).toInt = 48 := rfl; omega
      subst ej
      have q := own_el nn5 evA (Term.int_eval (47)) hcell
      have ev : own_F2 (47 : Int32) = (0 : Int32) := by decide
      rw [ev]
      exact q
    have hlo4 : ¬ j < (48 : Int32) := hh3
    by_cases hh4 : j < (58 : Int32)
    · have q := own_all nn6 evA harr _ k1
      have q := own_or q (own_lt ei (Term.int_eval (48)) hlo4)
      have q := own_or q (own_le (Term.int_eval (58)) ei (by rw [Int32.le_iff_toInt_le]; rw [Int32.lt_iff_toInt_lt] at hh4; omega))
      have q := own_el q (show (Term.static "com/example/elemento/elemento/UriSyntax" "UNRESERVED_CHARACTERS" "[Z").eval #[Value.int i0] s none [j.toNatClampNeg] s = some (.ref wA) from evA) ei hcell
      have ev : own_F2 j = (1 : Int32) := own_v4 j hlo4 hh4
      rw [ev]
      exact q
    have hlo5 : ¬ j < (58 : Int32) := hh4
    by_cases hh5 : j < (65 : Int32)
    · have q := own_all nn7 evA harr _ k1
      have q := own_or q (own_lt ei (Term.int_eval (58)) hlo5)
      have q := own_or q (own_le (Term.int_eval (65)) ei (by rw [Int32.le_iff_toInt_le]; rw [Int32.lt_iff_toInt_lt] at hh5; omega))
      have q := own_el q (show (Term.static "com/example/elemento/elemento/UriSyntax" "UNRESERVED_CHARACTERS" "[Z").eval #[Value.int i0] s none [j.toNatClampNeg] s = some (.ref wA) from evA) ei hcell
      have ev : own_F2 j = (0 : Int32) := own_v5 j hlo5 hh5
      rw [ev]
      exact q
    have hlo6 : ¬ j < (65 : Int32) := hh5
    by_cases hh6 : j < (91 : Int32)
    · have q := own_all nn8 evA harr _ k1
      have q := own_or q (own_lt ei (Term.int_eval (65)) hlo6)
      have q := own_or q (own_le (Term.int_eval (91)) ei (by rw [Int32.le_iff_toInt_le]; rw [Int32.lt_iff_toInt_lt] at hh6; omega))
      have q := own_el q (show (Term.static "com/example/elemento/elemento/UriSyntax" "UNRESERVED_CHARACTERS" "[Z").eval #[Value.int i0] s none [j.toNatClampNeg] s = some (.ref wA) from evA) ei hcell
      have ev : own_F2 j = (1 : Int32) := own_v6 j hlo6 hh6
      rw [ev]
      exact q
    have hlo7 : ¬ j < (91 : Int32) := hh6
    by_cases hh7 : j < (95 : Int32)
    · have q := own_all nn9 evA harr _ k1
      have q := own_or q (own_lt ei (Term.int_eval (91)) hlo7)
      have q := own_or q (own_le (Term.int_eval (95)) ei (by rw [Int32.le_iff_toInt_le]; rw [Int32.lt_iff_toInt_lt] at hh7; omega))
      have q := own_el q (show (Term.static "com/example/elemento/elemento/UriSyntax" "UNRESERVED_CHARACTERS" "[Z").eval #[Value.int i0] s none [j.toNatClampNeg] s = some (.ref wA) from evA) ei hcell
      have ev : own_F2 j = (0 : Int32) := own_v7 j hlo7 hh7
      rw [ev]
      exact q
    have hlo8 : ¬ j < (95 : Int32) := hh7
    by_cases hh8 : j < (96 : Int32)
    · have ej : j = (95 : Int32) := by apply Int32.toInt_inj.mp; rw [Int32.lt_iff_toInt_lt] at hlo8 hh8; have z1 : (95 : Int32).toInt = 95 := rfl; have z2 : (96 : Int32).toInt = 96 := rfl; omega
      subst ej
      have q := own_el nn10 evA (Term.int_eval (95)) hcell
      have ev : own_F2 (95 : Int32) = (1 : Int32) := by decide
      rw [ev]
      exact q
    have hlo9 : ¬ j < (96 : Int32) := hh8
    by_cases hh9 : j < (97 : Int32)
    · have ej : j = (96 : Int32) := by apply Int32.toInt_inj.mp; rw [Int32.lt_iff_toInt_lt] at hlo9 hh9; have z1 : (96 : Int32).toInt = 96 := rfl; have z2 : (97 : Int32).toInt = 97 := rfl; omega
      subst ej
      have q := own_el nn11 evA (Term.int_eval (96)) hcell
      have ev : own_F2 (96 : Int32) = (0 : Int32) := by decide
      rw [ev]
      exact q
    have hlo10 : ¬ j < (97 : Int32) := hh9
    by_cases hh10 : j < (123 : Int32)
    · have q := own_all nn12 evA harr _ k1
      have q := own_or q (own_lt ei (Term.int_eval (97)) hlo10)
      have q := own_or q (own_le (Term.int_eval (123)) ei (by rw [Int32.le_iff_toInt_le]; rw [Int32.lt_iff_toInt_lt] at hh10; omega))
      have q := own_el q (show (Term.static "com/example/elemento/elemento/UriSyntax" "UNRESERVED_CHARACTERS" "[Z").eval #[Value.int i0] s none [j.toNatClampNeg] s = some (.ref wA) from evA) ei hcell
      have ev : own_F2 j = (1 : Int32) := own_v10 j hlo10 hh10
      rw [ev]
      exact q
    have hlo11 : ¬ j < (123 : Int32) := hh10
    by_cases hh11 : j < (124 : Int32)
    · have ej : j = (123 : Int32) := by apply Int32.toInt_inj.mp; rw [Int32.lt_iff_toInt_lt] at hlo11 hh11; have z1 : (123 : Int32).toInt = 123 := rfl; have z2 : (124 : Int32).toInt = 124 := rfl; omega
      subst ej
      have q := own_el nn13 evA (Term.int_eval (123)) hcell
      have ev : own_F2 (123 : Int32) = (0 : Int32) := by decide
      rw [ev]
      exact q
    have hlo12 : ¬ j < (124 : Int32) := hh11
    by_cases hh12 : j < (125 : Int32)
    · have ej : j = (124 : Int32) := by apply Int32.toInt_inj.mp; rw [Int32.lt_iff_toInt_lt] at hlo12 hh12; have z1 : (124 : Int32).toInt = 124 := rfl; have z2 : (125 : Int32).toInt = 125 := rfl; omega
      subst ej
      have q := own_el nn14 evA (Term.int_eval (124)) hcell
      have ev : own_F2 (124 : Int32) = (0 : Int32) := by decide
      rw [ev]
      exact q
    have hlo13 : ¬ j < (125 : Int32) := hh12
    by_cases hh13 : j < (126 : Int32)
    · have ej : j = (125 : Int32) := by apply Int32.toInt_inj.mp; rw [Int32.lt_iff_toInt_lt] at hlo13 hh13; have z1 : (125 : Int32).toInt = 125 := rfl; have z2 : (126 : Int32).toInt = 126 := rfl; omega
      subst ej
      have q := own_el nn15 evA (Term.int_eval (125)) hcell
      have ev : own_F2 (125 : Int32) = (0 : Int32) := by decide
      rw [ev]
      exact q
    have hlo14 : ¬ j < (126 : Int32) := hh13
    by_cases hh14 : j < (127 : Int32)
    · have ej : j = (126 : Int32) := by apply Int32.toInt_inj.mp; rw [Int32.lt_iff_toInt_lt] at hlo14 hh14; have z1 : (126 : Int32).toInt = 126 := rfl; have z2 : (127 : Int32).toInt = 127 := rfl; omega
      subst ej
      have q := own_el nn16 evA (Term.int_eval (126)) hcell
      have ev : own_F2 (126 : Int32) = (1 : Int32) := by decide
      rw [ev]
      exact q
    have hlo15 : ¬ j < (127 : Int32) := hh14
    have hh15 : j < (128 : Int32) := h2
    have ej : j = (127 : Int32) := by apply Int32.toInt_inj.mp; rw [Int32.lt_iff_toInt_lt] at hlo15 hh15; have z1 : (127 : Int32).toInt = 127 := rfl; have z2 : (128 : Int32).toInt = 128 := rfl; omega
    subst ej
    have q := own_el nn17 evA (Term.int_eval (127)) hcell
    have ev : own_F2 (127 : Int32) = (0 : Int32) := by decide
    rw [ev]
    exact q
  obtain ⟨n, o, h1, h2, h3, _, L, rfl, ⟨rfl, N, -⟩, hq⟩ := rm0 l s _ hw tables_1 i0 wA cl s.heap s.heap.size (Nat.le_refl _) SA Ar hT p e ha hc hk s m _ below hf ((Spec.applies_iff_loose hf).mp happ).1 ⟨rfl, State.Warmed39.refl s, rfl⟩ trivial
  refine ⟨n, _, h1, h2, h3, hpost _ _ _ _ _ _ ⟨Cond.after_iff.mpr rfl, Cond.after_iff.mpr (eq_i res_at (Term.int_eval (1)) rfl), trivial⟩ ⟨hq.1, hq.2.1, (hq.2.2.sift fun y hy => Or.inr (N y hy)).mono (by decide) (by decide)⟩⟩
theorem main_1_1 : Claimed_1_1 := comes_1 fun _ _ _ _ _ _ h hF => ⟨h.1, hF⟩
theorem main_1_2 : Claimed_1_2 := comes_1 fun _ _ _ _ _ _ h hF => ⟨h.2.1, hF⟩
end Jvm.Pilot.@@N@@
namespace Jvm.Pilot.@@N@@
open Jvm Jvm.ClassFile Sem Op Lib Jvm.Free Jvm.Stand Jvm.Pilot.@@N@@.Jvm.D
/-! MADE BY PROGRAM (witnessworld.py) out of the Statement's table words and the real class files: 11 classes; the members and pool entries that the words name. The judged class is class 1, her method 2. -/
namespace start1
open Jvm.ClassFile
def u (s : String) : CpInfo := .utf8 (stringToUtf16 s)
/-- a pool by its gaps: so many unusable entries, then the entry; so many at the end -/
def gap : Nat → List CpInfo → List CpInfo
  | 0, r => r
  | n + 1, r => .unusable :: gap n r
def poolList (es : List (Nat × CpInfo)) (last : Nat) : List CpInfo := es.foldr (fun e r => gap e.1 (e.2 :: r)) (gap last [])
def pool (es : List (Nat × CpInfo)) (last : Nat) : Array CpInfo := ⟨poolList es last⟩
def fileOf (pool : Array CpInfo) (this : Nat) (attrs : Array Attribute := #[]) (ms : Array MethodInfo := #[]) (fl : Nat := 33) (sup : Nat := 0) (ifs : Array Nat := #[]) (fds : Array FieldInfo := #[]) : ClassFile where
  minorVersion := 0
  majorVersion := 65
  constantPool := pool
  accessFlags := fl
  thisClass := this
  superClass := sup
  interfaces := ifs
  fields := fds
  methods := ms
  attributes := attrs
def plain (name : String) (sup : Option ClassId) : Class where
  name := name
  kind := .ordinary
  loader := none
  accessFlags := 33
  super := sup
  interfaces := #[]
  cf := none
  fields := #[]
  methods := #[]
  instanceTypes := #[]
  staticTypes := #[]
  resolved := #[]
  callSites := []
  init := .initialized
  statics := none
  mirror := none

def pool0 : Array CpInfo := pool [(5, u "<init>"), (0, u "()V"), (1, .class_ 10), (1, u "java/lang/Object")] 113

def k0m0 : Method := { name := "<init>", desc := "()V", sig := { parameters := [], returnType := none }, accessFlags := 1, code := none }
/-- java/lang/Object -/
def k0 : Class := { plain "java/lang/Object" none with
  accessFlags := 33
  interfaces := #[]
  cf := some (fileOf pool0 8 #[] #[{ accessFlags := 1, nameIndex := 5, descriptorIndex := 6, attributes := #[] }] 33 0 #[] #[])
  fields := #[]
  methods := #[k0m0]
  instanceTypes := #[]
  staticTypes := #[]
  resolved := Array.replicate 124 none
  statics := none }

def pool1 : Array CpInfo := pool [(2, .class_ 4), (1, u "java/lang/Object"), (0, u "<init>"), (0, u "()V"), (0, .methodref 8 9), (0, .class_ 10), (0, .nameAndType 11 12), (0, u "com/example/elemento/elemento/UriSyntax"), (0, u "isUnreserved"), (0, u "(C)Z"), (0, .methodref 14 15), (0, .class_ 16), (0, .nameAndType 17 12), (0, u "com/example/elemento/elemento/UriSyntaxIsUnreservedPinLaw"), (0, u "expected"), (3, u "law"), (0, u "(I)Z")] 2

def k1m0 : Method := { name := "<init>", desc := "()V", sig := { parameters := [], returnType := none }, accessFlags := 2, code := none }
def k1c1 : Code := { maxStack := 2, maxLocals := 1, code := method_2_code, exceptionTable := #[], attributes := #[] }
def k1m1 : Method := { name := "expected", desc := "(C)Z", sig := { parameters := [.char], returnType := some .boolean }, accessFlags := 10, code := some k1c1 }
def k1c2 : Code := { maxStack := 2, maxLocals := 2, code := code, exceptionTable := #[], attributes := #[] }
def k1m2 : Method := { name := "law", desc := "(I)Z", sig := { parameters := [.int], returnType := some .boolean }, accessFlags := 9, code := some k1c2 }
/-- com/example/elemento/elemento/UriSyntaxIsUnreservedPinLaw -/
def k1 : Class := { plain "com/example/elemento/elemento/UriSyntaxIsUnreservedPinLaw" (some 0) with
  accessFlags := 49
  interfaces := #[]
  cf := some (fileOf pool1 14 #[] #[{ accessFlags := 2, nameIndex := 5, descriptorIndex := 6, attributes := #[] }, { accessFlags := 10, nameIndex := 17, descriptorIndex := 12, attributes := #[] }, { accessFlags := 9, nameIndex := 21, descriptorIndex := 22, attributes := #[] }] 49 2 #[] #[])
  fields := #[]
  methods := #[k1m0, k1m1, k1m2]
  instanceTypes := #[]
  staticTypes := #[]
  resolved := Array.replicate 25 none
  statics := none }

def pool2 : Array CpInfo := pool [(1, .class_ 2), (0, u "com/example/elemento/elemento/UriSyntax"), (1, .class_ 6), (1, u "java/lang/Object"), (0, u "<init>"), (0, u "()V"), (2, u "URI_CHARACTERS"), (0, u "[Z"), (19, u "(C)Z"), (0, .fieldref 1 34), (0, .nameAndType 35 12), (0, u "UNRESERVED_CHARACTERS"), (53, u "HOST_CHARACTERS"), (10, u "LETTERS_AND_DIGITS"), (0, u "Ljava/lang/String;"), (3, u "PUNCTUATION"), (2, u "UNRESERVED"), (2, u "SUB_DELIMITERS"), (2, u "PERCENT"), (0, u "C"), (1, u "ENCODED_LENGTH"), (0, u "I"), (1, u "LITERAL_START"), (1, u "LITERAL_END"), (1, u "COLON"), (1, u "DOT"), (1, u "FUTURE"), (1, u "IPV6_GROUPS"), (1, u "GROUP_DIGITS"), (1, u "IPV4_GROUPS"), (1, u "IPV4_PARTS"), (0, u "PART_DIGITS"), (0, u "PART_MAX"), (1, u "ASCII"), (1, u "PATH_EXCEPTIONS"), (7, u "isUnreserved")] 5

def k2m0 : Method := { name := "<init>", desc := "()V", sig := { parameters := [], returnType := none }, accessFlags := 2, code := none }
def k2c1 : Code := { maxStack := 2, maxLocals := 1, code := prog_55_method_4_code, exceptionTable := #[], attributes := #[] }
def k2m1 : Method := { name := "isUnreserved", desc := "(C)Z", sig := { parameters := [.char], returnType := some .boolean }, accessFlags := 8, code := some k2c1 }
/-- com/example/elemento/elemento/UriSyntax -/
def k2 : Class := { plain "com/example/elemento/elemento/UriSyntax" (some 0) with
  accessFlags := 48
  interfaces := #[]
  cf := some (fileOf pool2 1 #[] #[{ accessFlags := 2, nameIndex := 7, descriptorIndex := 8, attributes := #[] }, { accessFlags := 8, nameIndex := 150, descriptorIndex := 32, attributes := #[] }] 48 4 #[] #[{ accessFlags := 26, nameIndex := 100, descriptorIndex := 101, attributes := #[] }, { accessFlags := 24, nameIndex := 105, descriptorIndex := 101, attributes := #[] }, { accessFlags := 26, nameIndex := 108, descriptorIndex := 101, attributes := #[] }, { accessFlags := 26, nameIndex := 111, descriptorIndex := 101, attributes := #[] }, { accessFlags := 26, nameIndex := 114, descriptorIndex := 115, attributes := #[] }, { accessFlags := 26, nameIndex := 117, descriptorIndex := 118, attributes := #[] }, { accessFlags := 26, nameIndex := 120, descriptorIndex := 115, attributes := #[] }, { accessFlags := 26, nameIndex := 122, descriptorIndex := 115, attributes := #[] }, { accessFlags := 26, nameIndex := 124, descriptorIndex := 115, attributes := #[] }, { accessFlags := 26, nameIndex := 126, descriptorIndex := 115, attributes := #[] }, { accessFlags := 26, nameIndex := 128, descriptorIndex := 115, attributes := #[] }, { accessFlags := 26, nameIndex := 130, descriptorIndex := 118, attributes := #[] }, { accessFlags := 26, nameIndex := 132, descriptorIndex := 118, attributes := #[] }, { accessFlags := 26, nameIndex := 134, descriptorIndex := 118, attributes := #[] }, { accessFlags := 26, nameIndex := 136, descriptorIndex := 118, attributes := #[] }, { accessFlags := 26, nameIndex := 137, descriptorIndex := 118, attributes := #[] }, { accessFlags := 26, nameIndex := 138, descriptorIndex := 118, attributes := #[] }, { accessFlags := 26, nameIndex := 140, descriptorIndex := 118, attributes := #[] }, { accessFlags := 24, nameIndex := 142, descriptorIndex := 101, attributes := #[] }, { accessFlags := 26, nameIndex := 11, descriptorIndex := 12, attributes := #[] }, { accessFlags := 26, nameIndex := 89, descriptorIndex := 12, attributes := #[] }, { accessFlags := 26, nameIndex := 35, descriptorIndex := 12, attributes := #[] }])
  fields := #[{ name := "LETTERS_AND_DIGITS", type := (.object "java/lang/String"), accessFlags := 26, slot := 0, constantValue := 0 }, { name := "PUNCTUATION", type := (.object "java/lang/String"), accessFlags := 24, slot := 1, constantValue := 0 }, { name := "UNRESERVED", type := (.object "java/lang/String"), accessFlags := 26, slot := 2, constantValue := 0 }, { name := "SUB_DELIMITERS", type := (.object "java/lang/String"), accessFlags := 26, slot := 3, constantValue := 0 }, { name := "PERCENT", type := .char, accessFlags := 26, slot := 4, constantValue := 0 }, { name := "ENCODED_LENGTH", type := .int, accessFlags := 26, slot := 5, constantValue := 0 }, { name := "LITERAL_START", type := .char, accessFlags := 26, slot := 6, constantValue := 0 }, { name := "LITERAL_END", type := .char, accessFlags := 26, slot := 7, constantValue := 0 }, { name := "COLON", type := .char, accessFlags := 26, slot := 8, constantValue := 0 }, { name := "DOT", type := .char, accessFlags := 26, slot := 9, constantValue := 0 }, { name := "FUTURE", type := .char, accessFlags := 26, slot := 10, constantValue := 0 }, { name := "IPV6_GROUPS", type := .int, accessFlags := 26, slot := 11, constantValue := 0 }, { name := "GROUP_DIGITS", type := .int, accessFlags := 26, slot := 12, constantValue := 0 }, { name := "IPV4_GROUPS", type := .int, accessFlags := 26, slot := 13, constantValue := 0 }, { name := "IPV4_PARTS", type := .int, accessFlags := 26, slot := 14, constantValue := 0 }, { name := "PART_DIGITS", type := .int, accessFlags := 26, slot := 15, constantValue := 0 }, { name := "PART_MAX", type := .int, accessFlags := 26, slot := 16, constantValue := 0 }, { name := "ASCII", type := .int, accessFlags := 26, slot := 17, constantValue := 0 }, { name := "PATH_EXCEPTIONS", type := (.object "java/lang/String"), accessFlags := 24, slot := 18, constantValue := 0 }, { name := "URI_CHARACTERS", type := (.array .boolean), accessFlags := 26, slot := 19, constantValue := 0 }, { name := "HOST_CHARACTERS", type := (.array .boolean), accessFlags := 26, slot := 20, constantValue := 0 }, { name := "UNRESERVED_CHARACTERS", type := (.array .boolean), accessFlags := 26, slot := 21, constantValue := 0 }]
  methods := #[k2m0, k2m1]
  instanceTypes := #[]
  staticTypes := #[(.object "java/lang/String"), (.object "java/lang/String"), (.object "java/lang/String"), (.object "java/lang/String"), .char, .int, .char, .char, .char, .char, .char, .int, .int, .int, .int, .int, .int, .int, (.object "java/lang/String"), (.array .boolean), (.array .boolean), (.array .boolean)]
  resolved := Array.replicate 156 none
  statics := some 0 }

def pool3 : Array CpInfo := pool [(1, u "java/lang/Cloneable"), (0, .class_ 1), (0, u "java/lang/Object"), (0, .class_ 3)] 3

/-- java/lang/Cloneable -/
def k3 : Class := { plain "java/lang/Cloneable" (some 0) with
  accessFlags := 1537
  interfaces := #[]
  cf := some (fileOf pool3 2 #[] #[] 1537 4 #[] #[])
  fields := #[]
  methods := #[]
  instanceTypes := #[]
  staticTypes := #[]
  resolved := Array.replicate 8 none
  statics := none }

def pool4 : Array CpInfo := pool [(1, u "java/io/Serializable"), (0, .class_ 1), (0, u "java/lang/Object"), (0, .class_ 3)] 3

/-- java/io/Serializable -/
def k4 : Class := { plain "java/io/Serializable" (some 0) with
  accessFlags := 1537
  interfaces := #[]
  cf := some (fileOf pool4 2 #[] #[] 1537 4 #[] #[])
  fields := #[]
  methods := #[]
  instanceTypes := #[]
  staticTypes := #[]
  resolved := Array.replicate 8 none
  statics := none }

/-- the primitive boolean -/
def k5 : Class := { plain "boolean" none with kind := .primitive 'Z', accessFlags := 0x411 }
/-- [Z -/
def k6 : Class := { plain "[Z" (some 0) with kind := .array 5 .boolean, interfaces := #[3, 4], accessFlags := 1041 }

/-- the primitive byte -/
def k7 : Class := { plain "byte" none with kind := .primitive 'B', accessFlags := 0x411 }
/-- [B -/
def k8 : Class := { plain "[B" (some 0) with kind := .array 7 .byte, interfaces := #[3, 4], accessFlags := 1041 }

/-- the primitive int -/
def k9 : Class := { plain "int" none with kind := .primitive 'I', accessFlags := 0x411 }
/-- [I -/
def k10 : Class := { plain "[I" (some 0) with kind := .array 9 .int, interfaces := #[3, 4], accessFlags := 1041 }

def heap : Heap := #[{ cls := 2, slots := #[.null, .null, .null, .null, .int 0, .int 0, .int 0, .int 0, .int 0, .int 0, .int 0, .int 0, .int 0, .int 0, .int 0, .int 0, .int 0, .int 0, .null, .null, .null, .ref 1], vm := .statics 2 },
  { cls := 6, slots := #[.int 0, .int 0, .int 0, .int 0, .int 0, .int 0, .int 0, .int 0, .int 0, .int 0, .int 0, .int 0, .int 0, .int 0, .int 0, .int 0, .int 0, .int 0, .int 0, .int 0, .int 0, .int 0, .int 0, .int 0, .int 0, .int 0, .int 0, .int 0, .int 0, .int 0, .int 0, .int 0, .int 0, .int 0, .int 0, .int 0, .int 0, .int 0, .int 0, .int 0, .int 0, .int 0, .int 0, .int 0, .int 0, .int 1, .int 1, .int 0, .int 1, .int 1, .int 1, .int 1, .int 1, .int 1, .int 1, .int 1, .int 1, .int 1, .int 0, .int 0, .int 0, .int 0, .int 0, .int 0, .int 0, .int 1, .int 1, .int 1, .int 1, .int 1, .int 1, .int 1, .int 1, .int 1, .int 1, .int 1, .int 1, .int 1, .int 1, .int 1, .int 1, .int 1, .int 1, .int 1, .int 1, .int 1, .int 1, .int 1, .int 1, .int 1, .int 1, .int 0, .int 0, .int 0, .int 0, .int 1, .int 0, .int 1, .int 1, .int 1, .int 1, .int 1, .int 1, .int 1, .int 1, .int 1, .int 1, .int 1, .int 1, .int 1, .int 1, .int 1, .int 1, .int 1, .int 1, .int 1, .int 1, .int 1, .int 1, .int 1, .int 1, .int 1, .int 1, .int 0, .int 0, .int 0, .int 1, .int 0], vm := .none }]
def classes : Array Class := #[k0, k1, k2, k3, k4, k5, k6, k7, k8, k9, k10]
def interned : List (Array UInt16 × Addr) := []
def slotsUsed : Nat := 150
def theMethod : MethodId := ⟨1, 2⟩
def args0 : Array Value := #[.int 7]
def aboutOver (below : List Frame) : State where
  vm := { classes := classes, interned := interned.toArray }
  heap := heap
  slotsUsed := slotsUsed
  threads := #[{ frames := .invoking theMethod args0 :: below }]
def below0 : List Frame := [.native { method := ⟨0, 0⟩, args := #[] }]
def about1 : State := aboutOver below0
def p0 : Program := .bare "" "" ""
def e0 : Env := launch0.env 0 0 0
theorem w_frames : about1.frames = Frame.invoking theMethod args0 :: below0 := rfl
set_option maxRecDepth 65536 in
theorem w_args : argsFit about1.vm theMethod args0 = true := by decide +kernel
set_option maxRecDepth 65536 in
theorem w_heap : heapFits about1 = true := by decide +kernel
set_option maxRecDepth 65536 in
theorem w_runnable : about1.curStatus? = some .runnable := by decide +kernel
set_option maxRecDepth 65536 in
theorem w_alone : about1.alone = true := by decide +kernel
set_option maxRecDepth 65536 in
theorem w_named : about1.methodNamed? x = some theMethod := by decide +kernel
set_option maxRecDepth 65536 in
theorem w_hears : about1.hears theMethod below0 = true := by decide +kernel
set_option maxRecDepth 65536 in
theorem w_ripe : about1.ripe theMethod args0 below0 = true := by decide +kernel
theorem w_running : about1.status = .running := rfl
set_option maxRecDepth 65536 in
theorem w_room : about1.hasRoom e0.platform room_1 = true :=
  launch0.hasRoom_least _ room_1 (by decide +kernel) (by decide +kernel) (by decide +kernel) (by decide +kernel) (by decide +kernel) (by decide +kernel)
theorem allAtoms_all (ts : List Jvm.Cond) (a : Array Jvm.Value) (st : Jvm.State) : (allAtoms ts).before a st = ts.all (fun c => c.before a st) := by
  induction ts with
  | nil => rfl
  | cons c t ih =>
    show (Jvm.Cond.and c (allAtoms t)).before a st = _
    rw [Jvm.Cond.before_and, ih, List.all_cons]
def words1 : List Jvm.Cond := Jvm.Cond.code x code maxLocals ret :: tables_1
/-- a 'code' word, met by the world's own term for the bytes: nothing is compared byte by byte -/
theorem code_word {y : MethodName} {bytes : ByteArray} {mx : Nat} {rt : Option FieldType} {a : Array Value} {s : State} {m : MethodId} {meth : Method} {c : Code} (h1 : s.methodNamed? y = some m) (h2 : s.vm.method? m = some meth) (h3 : meth.code = some c) (h4 : c.code = bytes)
    (h5 : (c.maxLocals == mx && c.exceptionTable.isEmpty && decide (c.maxStack ≤ mostOperands) && decide (meth.sig.returnType = rt) && !meth.locks && decide (parseMethodDescriptor y.desc = some meth.sig)) = true) : (Jvm.Cond.code y bytes mx rt).before a s = true := by
  simp only [Bool.and_eq_true, beq_iff_eq, Bool.not_eq_true', decide_eq_true_eq] at h5
  obtain ⟨⟨⟨⟨⟨g1, g2⟩, g3⟩, g4⟩, g5⟩, g6⟩ := h5
  simp [Cond.before, Cond.holds, Cond.value, h1, h2, h3, h4, g1, g2, g3, g4, g5, g6]
def isCode : Jvm.Cond → Bool
  | .code _ _ _ _ => true
  | _ => false
theorem all_split {L : List Jvm.Cond} {P : Jvm.Cond → Bool} (h1 : L.all (fun c => isCode c || P c) = true) (h2 : ∀ c ∈ L.filter isCode, P c = true) : L.all P = true := by
  refine List.all_eq_true.mpr fun c hc => ?_
  have h := List.all_eq_true.mp h1 c hc
  rcases Bool.eq_false_or_eq_true (isCode c) with hi | hi
  · exact h2 c (List.mem_filter.mpr ⟨hc, hi⟩)
  · simpa [hi] using h
set_option maxRecDepth 65536 in
theorem w_c0 : (Jvm.Cond.code x code maxLocals ret).before args0 about1 = true := code_word (m := ⟨1, 2⟩) (meth := k1m2) (c := k1c2) (by decide +kernel) rfl rfl rfl (by decide +kernel)
set_option maxRecDepth 65536 in
theorem w_c1 : (Jvm.Cond.code ({ cls := "com/example/elemento/elemento/UriSyntax", name := "isUnreserved", desc := "(C)Z" } : Jvm.MethodName) prog_55_method_4_code (1 : Nat) (Option.some Jvm.ClassFile.FieldType.boolean)).before args0 about1 = true := code_word (m := ⟨2, 1⟩) (meth := k2m1) (c := k2c1) (by decide +kernel) rfl rfl rfl (by decide +kernel)
set_option maxRecDepth 65536 in
theorem w_c2 : (Jvm.Cond.code ({ cls := "com/example/elemento/elemento/UriSyntaxIsUnreservedPinLaw", name := "expected", desc := "(C)Z" } : Jvm.MethodName) method_2_code (1 : Nat) (Option.some Jvm.ClassFile.FieldType.boolean)).before args0 about1 = true := code_word (m := ⟨1, 1⟩) (meth := k1m1) (c := k1c1) (by decide +kernel) rfl rfl rfl (by decide +kernel)
def codes1 : List Jvm.Cond := [Jvm.Cond.code x code maxLocals ret, Jvm.Cond.code ({ cls := "com/example/elemento/elemento/UriSyntax", name := "isUnreserved", desc := "(C)Z" } : Jvm.MethodName) prog_55_method_4_code (1 : Nat) (Option.some Jvm.ClassFile.FieldType.boolean), Jvm.Cond.code ({ cls := "com/example/elemento/elemento/UriSyntaxIsUnreservedPinLaw", name := "expected", desc := "(C)Z" } : Jvm.MethodName) method_2_code (1 : Nat) (Option.some Jvm.ClassFile.FieldType.boolean)]
set_option maxRecDepth 65536 in
theorem codes_eq : words1.filter isCode = codes1 := rfl
theorem w_codes : ∀ c ∈ words1.filter isCode, c.before args0 about1 = true := by
  rw [codes_eq]
  intro c hc
  simp only [codes1, List.mem_cons, List.not_mem_nil, or_false] at hc
  rcases hc with rfl | rfl | rfl
  · exact w_c0
  · exact w_c1
  · exact w_c2
set_option maxRecDepth 65536 in
theorem w_t1 : words1.all (fun c => isCode c || c.before args0 about1) = true := by decide +kernel
theorem w_tables : (allAtoms (Jvm.Cond.code x code maxLocals ret :: tables_1)).before args0 about1 = true := by
  rw [allAtoms_all]
  show words1.all (fun c => c.before args0 about1) = true
  refine all_split ?_ w_codes
  rw [w_t1]
set_option maxRecDepth 65536 in
theorem w_case : (Jvm.Cond.and given_1 narrow_1).before args0 about1 = true := by decide +kernel
theorem w_applies : (headSpec (Jvm.Cond.code x code maxLocals ret :: tables_1) room_1).applies x e0.platform about1 = true :=
  (Spec.applies_iff w_frames).mpr ⟨w_running, w_runnable, w_alone, w_named, w_hears, w_ripe, w_room, w_tables⟩
theorem atStart : AtStart classFile x code maxLocals ret World_1 tables_1 room_1 Calls_1 rest_1 Pre_1 launch0 p0 e0 about1 theMethod args0 below0 :=
  ⟨lists_1, trivial, launch0.admits_env _ _ _, launch0.least_env, fairChoices_fair.cas, fairChoices_fair.clock, w_frames, w_args, w_heap, w_applies, trivial, trivial, w_case⟩
end start1
theorem witness_1 : WitnessClaimed_1 := ⟨start1.p0, start1.e0, start1.about1, start1.theMethod, start1.args0, start1.below0, start1.atStart⟩
end Jvm.Pilot.@@N@@
