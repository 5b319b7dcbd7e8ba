import JvmDerived
import JvmDerived.Pilot.@@N@@Statement
import JvmDerived.Pilot.@@N@@Code
set_option linter.unusedVariables false
set_option linter.unusedSimpArgs false
namespace Jvm.RoadKit
open Sem ClassFile Op Lib Jvm.Stand Jvm.Free Jvm.LawKit
section New
variable {p : Program} {l : Launch} {e : Env} {R : Room} {s : State} {m : MethodId} {args : Array Value} {below : List Frame} {meth : Method} {c : Code} {T : State} {locs : List Loc} {cells slots : Nat}
theorem retI (X : Stand p l e R s m args below meth c T locs cells slots) (hx : p.tables.exec = Jvm.exec) {pc : Nat} {Ls : Array Slot} {z : Int32} {rest : List Value} (hret : meth.sig.returnType = some .int) (hd : decode c.code pc = .ok (.ireturn, 1)) {fs : List Frame}
    (hl : ∀ (f : JFrame) (acts : List Action), f.method = m → f.locked = none → f.entered = [] → (doReturn e (T.setTop f) acts (some (.int z))).1 = T.setFrames fs) : Steps p.tables e below (T.setTop (mkF m pc Ls (.int z :: rest))) (T.setFrames fs) := by
  have hm' : T.vm.method? m = some meth := X.method'
  have hn : narrow .int (.int z) = .int z := rfl
  show Steps p.tables e below (T.setTop { method := m, pc := pc, locals := Ls, stack := _ :: rest, locked := none }) _
  jvm_step X.here [X.here.top, hx, hd, hm', hret, hn]
  first | (intro acts; rw [hl _ acts rfl rfl rfl]) | rw [hl _ _ rfl rfl rfl]
  exact Steps.refl _
theorem own_retL (X : Stand p l e R s m args below meth c T locs cells slots) (hx : p.tables.exec = Jvm.exec) {pc : Nat} {Ls : Array Slot} {z : Int64} {rest : List Value} (hret : meth.sig.returnType = some .long) (hd : decode c.code pc = .ok (.lreturn, 1)) {fs : List Frame}
    (hl : ∀ (f : JFrame) (acts : List Action), f.method = m → f.locked = none → f.entered = [] → (doReturn e (T.setTop f) acts (some (.long z))).1 = T.setFrames fs) : Steps p.tables e below (T.setTop (mkF m pc Ls (.long z :: rest))) (T.setFrames fs) := by
  have hm' : T.vm.method? m = some meth := X.method'
  have hn : narrow .long (.long z) = .long z := rfl
  show Steps p.tables e below (T.setTop { method := m, pc := pc, locals := Ls, stack := _ :: rest, locked := none }) _
  jvm_step X.here [X.here.top, hx, hd, hm', hret, hn]
  first | (intro acts; rw [hl _ acts rfl rfl rfl]) | rw [hl _ _ rfl rfl rfl]
  exact Steps.refl _
end New
end Jvm.RoadKit
namespace Jvm.Pilot.@@N@@
open Jvm Jvm.ClassFile Sem Op Lib Jvm.Free Jvm.Stand Jvm.LawKit Jvm.RoadKit Bundle Jvm.Pilot.@@N@@.Jvm.D
theorem own_fref {v : Value} (n : String) (h : v.isRef = true) : fits (.object n) v = true := by
  cases v <;> first | rfl | (simp [Value.isRef] at h)
theorem own_ifr {P : Prop} [Decidable P] {x y : Value} (h1 : x.isRef = true) (h2 : y.isRef = true) : (if P then x else y).isRef = true := by
  split <;> assumption
theorem own_ke {h h' : Heap} (K : Keep h h' []) : Ext h h' := ⟨K.1, fun a c q => K.2.1 a c q nin0⟩
theorem own_nref {v : Value} (t : FieldType) (h : v.isRef = true) : narrow t v = v := by
  cases v <;> first | (simp [Value.isRef] at h; done) | (cases t <;> rfl)
theorem own_store {l l2 : Array Slot} {i : Nat} {v : Value} {o : Slot} (hold : l[i]? = some o) (ho : o = .unset ∨ ∃ w, o = .val w ∧ w.category = 1) (hv : v.category = 1) (e : l.setIfInBounds i (.val v) = l2) : storeLocals l i v = some l2 := by
  rw [XS.store1 hold ho hv, e]
def own_chr (w : Int32) : Int32 := nar .char ((w &&& (255 : Int32)).toUInt32.toUInt16.toUInt32.toInt32)
theorem d6_0 : decode jdk_41_method_11_code 0 = .ok (.iload_n 0, 1) := by decide +kernel
theorem d6_1 : decode jdk_41_method_11_code 1 = .ok (.ifCond .lt 8, 3) := by decide +kernel
theorem d6_4 : decode jdk_41_method_11_code 4 = .ok (.iload_n 0, 1) := by decide +kernel
theorem d6_5 : decode jdk_41_method_11_code 5 = .ok (.iload_n 1, 1) := by decide +kernel
theorem d6_6 : decode jdk_41_method_11_code 6 = .ok (.if_icmp .lt 10, 3) := by decide +kernel
theorem d6_16 : decode jdk_41_method_11_code 16 = .ok (.iload_n 0, 1) := by decide +kernel
theorem d6_17 : decode jdk_41_method_11_code 17 = .ok (.ireturn, 1) := by decide +kernel
theorem pn_6 : plainName "jdk/internal/util/Preconditions" = true := by first | (simp [plainName, overriddenIn]; done) | decide +kernel
theorem ef_6 (m : MethodId) (x0 : Int32) (x1 : Int32) (x2 : Value) (hx2 : x2.isRef = true) : entryFrame m #[(.int x0), (.int x1), x2] 3 = mkF m 0 #[.val (.int x0), .val (.int x1), .val x2] [] := by
  rcases XT.refc hx2 with rfl | ⟨_, rfl⟩ <;>
  rfl
def Q6 (Z : State) (p1 : Int32) (p2 : Int32) (v3 : Value) (h0 : Heap) (n0 : Nat) (v : Option Value) (h : Heap) (L : List Loc) : Prop := v = some (.int p1) ∧ Fr n0 L ∧ h = h0
set_option maxRecDepth 65536 in
set_option maxHeartbeats 40000000 in
theorem rm6 (l : Launch) (Z : State) (a0 : Array Value) (hw : ∀ d ∈ tables_1, d.before a0 Z = true) (ws : List Jvm.Cond) (p1 : Int32) (p2 : Int32) (v3 : Value) (h0 : Heap) (n0 : Nat) (Z0 : n0 ≤ h0.size) (hv : v3.isRef = true) (h1 : ¬ p1 < (0 : Int32)) (h2 : p1 < p2) :
    MetFree l (⟨"jdk/internal/util/Preconditions", "checkIndex", "(IILjava/util/function/BiFunction;)I"⟩ : MethodName) (head1 (Jvm.Cond.code (⟨"jdk/internal/util/Preconditions", "checkIndex", "(IILjava/util/function/BiFunction;)I"⟩ : MethodName) jdk_41_method_11_code 3 (some .int) :: ws) ({ frames := 0, cells := 0, slots := 0, locals := 0 } : Room)) (fun a U => a = #[(.int p1), (.int p2), v3] ∧ Z.Warmed39 U.vm ∧ U.heap = h0) (fun _ _ _ _ _ => True) (fun _ U o U' => ∃ v L, o = .returned v ∧ Q6 Z p1 p2 v3 h0 n0 v U'.heap L ∧ FrameEnd U o U' L ({ frames := 0, cells := 0, slots := 0, locals := 0 } : Room).cells ({ frames := 0, cells := 0, slots := 0, locals := 0 } : Room).slots) := by
  refine MetFree.of_bodySF (plainFor_of_name pn_6) hisR ?_
  intro p e s m args below meth c s₁ Bd hml0 hP hK
  obtain ⟨rfl, hZ, hh⟩ := hP
  have hx := Bd.exec
  have hby := Bd.bytes
  have hml : c.maxLocals = 3 := hml0
  have hown : s.vm.findClass "jdk/internal/util/Preconditions" = some m.cls := findClass_of_methodNamed Bd.named
  have hnm := (name_of_methodNamed Bd.named Bd.method).1
  have X0 : Stand p l e ({ frames := 0, cells := 0, slots := 0, locals := 0 } : Room) s m #[(.int p1), (.int p2), v3] below meth c s₁ [] 0 0 := Stand.of_body Bd
  have e0 : s₁.heap = h0 := by rw [← hh, Bd.state]; rfl
  have N0 := Fr.nil n0
  have pre0 : ∀ t, Steps p.tables e below (s₁.setTop (mkF m 0 #[.val (.int p1), .val (.int p2), .val v3] [])) t → Steps p.tables e below (s₁.setTop (entryFrame m #[(.int p1), (.int p2), v3] 3)) t := fun t k => castTop (ef_6 m p1 p2 v3 hv) k
  have pre1 : ∀ t, Steps p.tables e below (s₁.setTop (mkF m 17 #[.val (.int p1), .val (.int p2), .val v3] [(.int p1)])) t → Steps p.tables e below (s₁.setTop (entryFrame m #[(.int p1), (.int p2), v3] 3)) t := by
    intro t kt
    refine pre0 _ ?_
    show Steps p.tables e below (s₁.setTop (mkF m 0 #[.val (.int p1), .val (.int p2), .val v3] [])) _
    refine XS.iloadN X0.here hx rfl (hb hby d6_0) rfl ?_
    show Steps p.tables e below (s₁.setTop (mkF m 1 #[.val (.int p1), .val (.int p2), .val v3] [(.int p1)])) _
    refine XS.ifNo X0.here hx rfl (hb hby d6_1) rfl ((if0 _ _).trans (flt (h1 : ¬ (p1 < (0 : Int32)))).1) ?_
    show Steps p.tables e below (s₁.setTop (mkF m 4 #[.val (.int p1), .val (.int p2), .val v3] [])) _
    refine XS.iloadN X0.here hx rfl (hb hby d6_4) rfl ?_
    show Steps p.tables e below (s₁.setTop (mkF m 5 #[.val (.int p1), .val (.int p2), .val v3] [(.int p1)])) _
    refine XS.iloadN X0.here hx rfl (hb hby d6_5) rfl ?_
    show Steps p.tables e below (s₁.setTop (mkF m 6 #[.val (.int p1), .val (.int p2), .val v3] [(.int p2), (.int p1)])) _
    refine XS.icmpYes X0.here hx rfl (pc0 := 6) (pc' := 16) rfl (hb hby d6_6) rfl (tlt (h2 : p1 < p2)).1 (by decide) (by decide) ?_
    show Steps p.tables e below (s₁.setTop (mkF m 16 #[.val (.int p1), .val (.int p2), .val v3] [])) _
    refine XS.iloadN X0.here hx rfl (hb hby d6_16) rfl ?_
    exact kt
  obtain ⟨fs, hr, hrun, hended, hW, hsame⟩ := X0.leave (v := some (.int p1)) (fun h => by rw [Bd.returns] at h; cases h)
  refine ⟨_, _, pre1 _ ?_, hrun, hended, _, _, rfl, ?_, ⟨_, rfl⟩, hW, hsame.mono (by decide) (by decide)⟩
  · show Steps p.tables e below (s₁.setTop (mkF m 17 #[.val (.int p1), .val (.int p2), .val v3] [(.int p1)])) _
    exact retI X0 hx Bd.returns (hb hby d6_17) hr
  · show Q6 Z p1 p2 v3 h0 n0 _ s₁.heap _
    rw [e0]
    exact ⟨rfl, N0, rfl⟩
theorem pd_0 : parseMethodDescriptor "(IILjava/util/function/BiFunction;)I" = some ⟨[.int, .int, (.object "java/util/function/BiFunction")], some .int⟩ := by decide +kernel
theorem d5_0 : decode jdk_42_method_155_code 0 = .ok (.iload_n 0, 1) := by decide +kernel
theorem d5_1 : decode jdk_42_method_155_code 1 = .ok (.iload_n 1, 1) := by decide +kernel
theorem d5_2 : decode jdk_42_method_155_code 2 = .ok (.getstatic 1053, 3) := by decide +kernel
theorem d5_5 : decode jdk_42_method_155_code 5 = .ok (.invokestatic 1059, 3) := by decide +kernel
theorem d5_8 : decode jdk_42_method_155_code 8 = .ok (.pop, 1) := by decide +kernel
theorem d5_9 : decode jdk_42_method_155_code 9 = .ok (.return_, 1) := by decide +kernel
theorem pn_5 : plainName "java/lang/String" = true := by first | (simp [plainName, overriddenIn]; done) | decide +kernel
theorem ef_5 (m : MethodId) (x0 : Int32) (x1 : Int32) : entryFrame m #[(.int x0), (.int x1)] 2 = mkF m 0 #[.val (.int x0), .val (.int x1)] [] := by first | (simp [entryFrame, mkF, argsToLocals, Value.category]; done) | rfl
def Q5 (Z : State) (p1 : Int32) (p2 : Int32) (vf : Value) (h0 : Heap) (n0 : Nat) (v : Option Value) (h : Heap) (L : List Loc) : Prop := v = none ∧ Fr n0 L ∧ h = h0
set_option maxRecDepth 65536 in
set_option maxHeartbeats 40000000 in
theorem rm5 (l : Launch) (Z : State) (a0 : Array Value) (hw : ∀ d ∈ tables_1, d.before a0 Z = true) (ws : List Jvm.Cond) (p1 : Int32) (p2 : Int32) (vf : Value) (h0 : Heap) (n0 : Nat) (Z0 : n0 ≤ h0.size) (SF : Sta Z h0 "jdk/internal/util/Preconditions" "SIOOBE_FORMATTER" "Ljava/util/function/BiFunction;" vf) (hvf : vf.isRef = true) (h1 : ¬ p1 < (0 : Int32)) (h2 : p1 < p2) :
    MetFree l (⟨"java/lang/String", "checkIndex", "(II)V"⟩ : MethodName) (head1 (Jvm.Cond.code (⟨"java/lang/String", "checkIndex", "(II)V"⟩ : MethodName) jdk_42_method_155_code 2 none :: ws) ({ frames := 1, cells := 0, slots := 0, locals := 14 } : Room)) (fun a U => a = #[(.int p1), (.int p2)] ∧ Z.Warmed39 U.vm ∧ U.heap = h0) (fun _ _ _ _ _ => True) (fun _ U o U' => ∃ v L, o = .returned v ∧ Q5 Z p1 p2 vf h0 n0 v U'.heap L ∧ FrameEnd U o U' L ({ frames := 1, cells := 0, slots := 0, locals := 14 } : Room).cells ({ frames := 1, cells := 0, slots := 0, locals := 14 } : Room).slots) := by
  refine MetFree.of_bodySF (plainFor_of_name pn_5) hisR ?_
  intro p e s m args below meth c s₁ Bd hml0 hP hK
  obtain ⟨rfl, hZ, hh⟩ := hP
  have hx := Bd.exec
  have hby := Bd.bytes
  have hml : c.maxLocals = 2 := hml0
  have hown : s.vm.findClass "java/lang/String" = some m.cls := findClass_of_methodNamed Bd.named
  have hnm := (name_of_methodNamed Bd.named Bd.method).1
  have X0 : Stand p l e ({ frames := 1, cells := 0, slots := 0, locals := 14 } : Room) s m #[(.int p1), (.int p2)] below meth c s₁ [] 0 0 := Stand.of_body Bd
  have e0 : s₁.heap = h0 := by rw [← hh, Bd.state]; rfl
  have N0 := Fr.nil n0
  have pre0 : ∀ t, Steps p.tables e below (s₁.setTop (mkF m 0 #[.val (.int p1), .val (.int p2)] [])) t → Steps p.tables e below (s₁.setTop (entryFrame m #[(.int p1), (.int p2)] 2)) t := fun t k => castTop (ef_5 m p1 p2) k
  obtain ⟨T2, X2, e2, st2⟩ := getS2 X0 hx hZ hown (host := "") (Or.inl (hw _ (List.mem_of_getElem? (i := 34) rfl))) Via.refl e0 SF (g := (mkF m 2 #[.val (.int p1), .val (.int p2)] [(.int p2), (.int p1)])) rfl (hb hby d5_2)
  obtain ⟨_, _, ⟨T3, L3, k3, n3⟩, -, X3, ⟨Lc3, hQ3, l3, y3, z3⟩, st3⟩ := Jvm.LawKit.callS X2 hx (y := (⟨"jdk/internal/util/Preconditions", "checkIndex", "(IILjava/util/function/BiFunction;)I"⟩ : MethodName)) hown (mvT hZ (hw _ (List.mem_of_getElem? (i := 36) rfl))) (mvT hZ (hw _ (List.mem_of_getElem? (i := 37) rfl))) (mvT hZ (hw _ (List.mem_of_getElem? (i := 35) rfl))) (mvT hZ (hw _ (List.mem_of_getElem? (i := 38) rfl))) (by decide) (backOf (W := 0) (rm6 l Z a0 hw [] p1 p2 vf h0 n0 Z0 hvf h1 h2) hZ (hw _ (List.mem_of_getElem? (i := 38) rfl)) (hw _ (List.mem_of_getElem? (i := 35) rfl)) (by decide) (by decide)) (g := (mkF m 5 #[.val (.int p1), .val (.int p2)] [vf, (.int p2), (.int p1)])) rfl (by rw [hml]; rfl) (argsL := [(.int p1), (.int p2), vf]) (rest := []) (lenOf pd_0 rfl) rfl (by show 2 * 0 + _ ≤ _; exact Nat.le_of_eq rfl) (hb hby d5_5) (fun _ _ => ⟨rfl, e2, (by decide : 0 + 0 ≤ _), (by decide : 0 + 0 ≤ _)⟩)
  dsimp only [Pt.U, Pt.locs, Pt.cells, Pt.slots] at X3 l3 y3 z3 st3 hQ3
  subst l3 y3 z3
  obtain ⟨rfl, N3q, e3⟩ := hQ3
  have N3 := Fr.app N0 N3q
  have pre4 : ∀ t, Steps p.tables e below (T3.setTop (mkF m 9 #[.val (.int p1), .val (.int p2)] [])) t → Steps p.tables e below (s₁.setTop (entryFrame m #[(.int p1), (.int p2)] 2)) t := by
    intro t kt
    refine pre0 _ ?_
    show Steps p.tables e below (s₁.setTop (mkF m 0 #[.val (.int p1), .val (.int p2)] [])) _
    refine XS.iloadN X0.here hx rfl (hb hby d5_0) rfl ?_
    show Steps p.tables e below (s₁.setTop (mkF m 1 #[.val (.int p1), .val (.int p2)] [(.int p1)])) _
    refine XS.iloadN X0.here hx rfl (hb hby d5_1) rfl ?_
    show Steps p.tables e below (s₁.setTop (mkF m 2 #[.val (.int p1), .val (.int p2)] [(.int p2), (.int p1)])) _
    refine st2 _ ?_
    show Steps p.tables e below (T2.setTop (mkF m 5 #[.val (.int p1), .val (.int p2)] [vf, (.int p2), (.int p1)])) _
    refine st3 _ ?_
    show Steps p.tables e below (T3.setTop (mkF m 8 #[.val (.int p1), .val (.int p2)] [(.int p1)])) _
    refine XS.pop X3.here hx rfl (hb hby d5_8) rfl rfl ?_
    exact kt
  obtain ⟨fs, hr, hrun, hended, hW, hsame⟩ := X3.leave (v := none) (fun _ => rfl)
  refine ⟨_, _, pre4 _ ?_, hrun, hended, _, _, rfl, ?_, ⟨_, rfl⟩, hW, hsame.mono (by decide) (by decide)⟩
  · show Steps p.tables e below (T3.setTop (mkF m 9 #[.val (.int p1), .val (.int p2)] [])) _
    exact X3.returnOut hx Bd.returns (hb hby d5_9) hr
  · show Q5 Z p1 p2 vf h0 n0 _ T3.heap _
    rw [e3]
    exact ⟨rfl, N3, rfl⟩
theorem pd_1 : parseMethodDescriptor "(II)V" = some ⟨[.int, .int], none⟩ := by decide +kernel
theorem d4_0 : decode jdk_43_method_2_code 0 = .ok (.iload_n 1, 1) := by decide +kernel
theorem d4_1 : decode jdk_43_method_2_code 1 = .ok (.aload_n 0, 1) := by decide +kernel
theorem d4_2 : decode jdk_43_method_2_code 2 = .ok (.arraylength, 1) := by decide +kernel
theorem d4_3 : decode jdk_43_method_2_code 3 = .ok (.invokestatic 9, 3) := by decide +kernel
theorem d4_6 : decode jdk_43_method_2_code 6 = .ok (.aload_n 0, 1) := by decide +kernel
theorem d4_7 : decode jdk_43_method_2_code 7 = .ok (.iload_n 1, 1) := by decide +kernel
theorem d4_8 : decode jdk_43_method_2_code 8 = .ok (.baload, 1) := by decide +kernel
theorem d4_9 : decode jdk_43_method_2_code 9 = .ok (.sipush 255, 3) := by decide +kernel
theorem d4_12 : decode jdk_43_method_2_code 12 = .ok (.iand, 1) := by decide +kernel
theorem d4_13 : decode jdk_43_method_2_code 13 = .ok (.i2c, 1) := by decide +kernel
theorem d4_14 : decode jdk_43_method_2_code 14 = .ok (.ireturn, 1) := by decide +kernel
theorem pn_4 : plainName "java/lang/StringLatin1" = true := by first | (simp [plainName, overriddenIn]; done) | decide +kernel
theorem ef_4 (m : MethodId) (x0 : Addr) (x1 : Int32) : entryFrame m #[(.ref x0), (.int x1)] 2 = mkF m 0 #[.val (.ref x0), .val (.int x1)] [] := by first | (simp [entryFrame, mkF, argsToLocals, Value.category]; done) | rfl
def Q4 (Z : State) (a1 : Addr) (p2 : Int32) (cl : Cell) (zz : Int32) (w : Int32) (vf : Value) (h0 : Heap) (n0 : Nat) (v : Option Value) (h : Heap) (L : List Loc) : Prop := v = some (.int (own_chr w)) ∧ Fr n0 L ∧ h = h0
set_option maxRecDepth 65536 in
set_option maxHeartbeats 40000000 in
theorem rm4 (l : Launch) (Z : State) (a0 : Array Value) (hw : ∀ d ∈ tables_1, d.before a0 Z = true) (ws : List Jvm.Cond) (a1 : Addr) (p2 : Int32) (cl : Cell) (zz : Int32) (w : Int32) (vf : Value) (h0 : Heap) (n0 : Nat) (Z0 : n0 ≤ h0.size) (Ar : Arr Z h0 a1 cl .byte) (Sz : cl.slots.size = zz.toNatClampNeg) (Nz : ¬ zz < (0 : Int32)) (h1 : ¬ p2 < (0 : Int32)) (h2 : p2 < zz) (hat : cl.slots[p2.toNatClampNeg]? = some (.int w)) (SF : Sta Z h0 "jdk/internal/util/Preconditions" "SIOOBE_FORMATTER" "Ljava/util/function/BiFunction;" vf) (hvf : vf.isRef = true) :
    MetFree l (⟨"java/lang/StringLatin1", "charAt", "([BI)C"⟩ : MethodName) (head1 (Jvm.Cond.code (⟨"java/lang/StringLatin1", "charAt", "([BI)C"⟩ : MethodName) jdk_43_method_2_code 2 (some .char) :: ws) ({ frames := 2, cells := 0, slots := 0, locals := 27 } : Room)) (fun a U => a = #[(.ref a1), (.int p2)] ∧ Z.Warmed39 U.vm ∧ U.heap = h0) (fun _ _ _ _ _ => True) (fun _ U o U' => ∃ v L, o = .returned v ∧ Q4 Z a1 p2 cl zz w vf h0 n0 v U'.heap L ∧ FrameEnd U o U' L ({ frames := 2, cells := 0, slots := 0, locals := 27 } : Room).cells ({ frames := 2, cells := 0, slots := 0, locals := 27 } : Room).slots) := by
  refine MetFree.of_bodySF (plainFor_of_name pn_4) hisR ?_
  intro p e s m args below meth c s₁ Bd hml0 hP hK
  obtain ⟨rfl, hZ, hh⟩ := hP
  have hx := Bd.exec
  have hby := Bd.bytes
  have hml : c.maxLocals = 2 := hml0
  have hown : s.vm.findClass "java/lang/StringLatin1" = some m.cls := findClass_of_methodNamed Bd.named
  have hnm := (name_of_methodNamed Bd.named Bd.method).1
  have X0 : Stand p l e ({ frames := 2, cells := 0, slots := 0, locals := 27 } : Room) s m #[(.ref a1), (.int p2)] below meth c s₁ [] 0 0 := Stand.of_body Bd
  have e0 : s₁.heap = h0 := by rw [← hh, Bd.state]; rfl
  have N0 := Fr.nil n0
  have pre0 : ∀ t, Steps p.tables e below (s₁.setTop (mkF m 0 #[.val (.ref a1), .val (.int p2)] [])) t → Steps p.tables e below (s₁.setTop (entryFrame m #[(.ref a1), (.int p2)] 2)) t := fun t k => castTop (ef_4 m a1 p2) k
  obtain ⟨_, _, ⟨T5, L5, k5, n5⟩, -, X5, ⟨Lc5, hQ5, l5, y5, z5⟩, st5⟩ := Jvm.LawKit.callS X0 hx (y := (⟨"java/lang/String", "checkIndex", "(II)V"⟩ : MethodName)) hown (mvT hZ (hw _ (List.mem_of_getElem? (i := 31) rfl))) (mvT hZ (hw _ (List.mem_of_getElem? (i := 32) rfl))) (mvT hZ (hw _ (List.mem_of_getElem? (i := 7) rfl))) (mvT hZ (hw _ (List.mem_of_getElem? (i := 33) rfl))) (by decide) (backOf (W := 0) (rm5 l Z a0 hw [] p2 zz vf h0 n0 Z0 SF hvf h1 h2) hZ (hw _ (List.mem_of_getElem? (i := 33) rfl)) (hw _ (List.mem_of_getElem? (i := 7) rfl)) (by decide) (by decide)) (g := (mkF m 3 #[.val (.ref a1), .val (.int p2)] [(.int zz), (.int p2)])) rfl (by rw [hml]; rfl) (argsL := [(.int p2), (.int zz)]) (rest := []) (lenOf pd_1 rfl) rfl (by show 2 * 0 + _ ≤ _; exact Nat.le_of_eq rfl) (hb hby d4_3) (fun _ _ => ⟨rfl, e0, (by decide : 0 + 0 ≤ _), (by decide : 0 + 0 ≤ _)⟩)
  dsimp only [Pt.U, Pt.locs, Pt.cells, Pt.slots] at X5 l5 y5 z5 st5 hQ5
  subst l5 y5 z5
  obtain ⟨rfl, N5q, e5⟩ := hQ5
  have N5 := Fr.app N0 N5q
  have pre6 : ∀ t, Steps p.tables e below (T5.setTop (mkF m 14 #[.val (.ref a1), .val (.int p2)] [(.int ((w &&& (255 : Int32)).toUInt32.toUInt16.toUInt32.toInt32))])) t → Steps p.tables e below (s₁.setTop (entryFrame m #[(.ref a1), (.int p2)] 2)) t := by
    intro t kt
    refine pre0 _ ?_
    show Steps p.tables e below (s₁.setTop (mkF m 0 #[.val (.ref a1), .val (.int p2)] [])) _
    refine XS.iloadN X0.here hx rfl (hb hby d4_0) rfl ?_
    show Steps p.tables e below (s₁.setTop (mkF m 1 #[.val (.ref a1), .val (.int p2)] [(.int p2)])) _
    refine XS.aloadN X0.here hx rfl (hb hby d4_1) rfl rfl ?_
    show Steps p.tables e below (s₁.setTop (mkF m 2 #[.val (.ref a1), .val (.int p2)] [(.ref a1), (.int p2)])) _
    refine X0.arraylength hx (by rw [e0]; exact Ar.1) (State.isArrayOf_alike hZ.alike Ar.2.1) (g := (mkF m 2 #[.val (.ref a1), .val (.int p2)] [(.ref a1), (.int p2)])) rfl rfl (hb hby d4_2) _ ?_
    rw [len_of Sz Nz]
    show Steps p.tables e below (s₁.setTop (mkF m 3 #[.val (.ref a1), .val (.int p2)] [(.int zz), (.int p2)])) _
    refine st5 _ ?_
    show Steps p.tables e below (T5.setTop (mkF m 6 #[.val (.ref a1), .val (.int p2)] [])) _
    refine XS.aloadN X5.here hx rfl (hb hby d4_6) rfl rfl ?_
    show Steps p.tables e below (T5.setTop (mkF m 7 #[.val (.ref a1), .val (.int p2)] [(.ref a1)])) _
    refine XS.iloadN X5.here hx rfl (hb hby d4_7) rfl ?_
    show Steps p.tables e below (T5.setTop (mkF m 8 #[.val (.ref a1), .val (.int p2)] [(.int p2), (.ref a1)])) _
    refine X5.baloadBytes hx (j := p2) (v := .int w) (by rw [e5]; exact Ar.1) (State.isArrayOf_alike hZ.alike Ar.2.1) Ar.2.2 (inb_of Sz ⟨h1, h2⟩) hat (g := (mkF m 8 #[.val (.ref a1), .val (.int p2)] [(.int p2), (.ref a1)])) rfl rfl (hb hby d4_8) _ ?_
    show Steps p.tables e below (T5.setTop (mkF m 9 #[.val (.ref a1), .val (.int p2)] [(.int w)])) _
    refine XS.sipush X5.here hx rfl (hb hby d4_9) ?_
    show Steps p.tables e below (T5.setTop (mkF m 12 #[.val (.ref a1), .val (.int p2)] [(.int (255 : Int32)), (.int w)])) _
    refine XS.iand X5.here hx rfl (hb hby d4_12) rfl ?_
    show Steps p.tables e below (T5.setTop (mkF m 13 #[.val (.ref a1), .val (.int p2)] [(.int (w &&& (255 : Int32)))])) _
    refine XS.i2c X5.here hx rfl (hb hby d4_13) rfl ?_
    exact kt
  obtain ⟨fs, hr, hrun, hended, hW, hsame⟩ := X5.leave (v := some (.int (nar .char ((w &&& (255 : Int32)).toUInt32.toUInt16.toUInt32.toInt32)))) (fun h => by rw [Bd.returns] at h; cases h)
  refine ⟨_, _, pre6 _ ?_, hrun, hended, _, _, rfl, ?_, ⟨_, rfl⟩, hW, hsame.mono (by decide) (by decide)⟩
  · show Steps p.tables e below (T5.setTop (mkF m 14 #[.val (.ref a1), .val (.int p2)] [(.int ((w &&& (255 : Int32)).toUInt32.toUInt16.toUInt32.toInt32))])) _
    exact retN X5 hx (t := .char) Bd.returns (by simp) (hb hby d4_14) hr
  · show Q4 Z a1 p2 cl zz w vf h0 n0 _ T5.heap _
    rw [e5]
    exact ⟨rfl, N5, rfl⟩
theorem d3_0 : decode jdk_42_method_154_code 0 = .ok (.getstatic 38, 3) := by decide +kernel
theorem d3_3 : decode jdk_42_method_154_code 3 = .ok (.ifCond .eq 14, 3) := by decide +kernel
theorem d3_6 : decode jdk_42_method_154_code 6 = .ok (.aload_n 0, 1) := by decide +kernel
theorem d3_7 : decode jdk_42_method_154_code 7 = .ok (.getfield 15, 3) := by decide +kernel
theorem d3_10 : decode jdk_42_method_154_code 10 = .ok (.ifCond .ne 7, 3) := by decide +kernel
theorem d3_13 : decode jdk_42_method_154_code 13 = .ok (.iconst 1, 1) := by decide +kernel
theorem d3_14 : decode jdk_42_method_154_code 14 = .ok (.goto 4, 3) := by decide +kernel
theorem d3_18 : decode jdk_42_method_154_code 18 = .ok (.ireturn, 1) := by decide +kernel
theorem pn_3 : plainName "java/lang/String" = true := by first | (simp [plainName, overriddenIn]; done) | decide +kernel
theorem ef_3 (m : MethodId) (x0 : Addr) : entryFrame m #[(.ref x0)] 1 = mkF m 0 #[.val (.ref x0)] [] := by first | (simp [entryFrame, mkF, argsToLocals, Value.category]; done) | rfl
def Q3 (Z : State) (a1 : Addr) (cs : Int32) (h0 : Heap) (n0 : Nat) (v : Option Value) (h : Heap) (L : List Loc) : Prop := v = some (.int (1 : Int32)) ∧ Fr n0 L ∧ h = h0
set_option maxRecDepth 65536 in
set_option maxHeartbeats 40000000 in
theorem rm3 (l : Launch) (Z : State) (a0 : Array Value) (hw : ∀ d ∈ tables_1, d.before a0 Z = true) (ws : List Jvm.Cond) (a1 : Addr) (cs : Int32) (h0 : Heap) (n0 : Nat) (Z0 : n0 ≤ h0.size) (SC : Sta Z h0 "java/lang/String" "COMPACT_STRINGS" "Z" (.int cs)) (hcs : ¬ cs = (0 : Int32)) (FC : Fld Z h0 a1 "java/lang/String" "coder" "B" (.int (0 : Int32))) :
    MetFree l (⟨"java/lang/String", "isLatin1", "()Z"⟩ : MethodName) (head1 (Jvm.Cond.code (⟨"java/lang/String", "isLatin1", "()Z"⟩ : MethodName) jdk_42_method_154_code 1 (some .boolean) :: ws) ({ frames := 0, cells := 0, slots := 0, locals := 0 } : Room)) (fun a U => a = #[(.ref a1)] ∧ Z.Warmed39 U.vm ∧ U.heap = h0) (fun _ _ _ _ _ => True) (fun _ U o U' => ∃ v L, o = .returned v ∧ Q3 Z a1 cs h0 n0 v U'.heap L ∧ FrameEnd U o U' L ({ frames := 0, cells := 0, slots := 0, locals := 0 } : Room).cells ({ frames := 0, cells := 0, slots := 0, locals := 0 } : Room).slots) := by
  refine MetFree.of_bodySF (plainFor_of_name pn_3) hisR ?_
  intro p e s m args below meth c s₁ Bd hml0 hP hK
  obtain ⟨rfl, hZ, hh⟩ := hP
  have hx := Bd.exec
  have hby := Bd.bytes
  have hml : c.maxLocals = 1 := hml0
  have hown : s.vm.findClass "java/lang/String" = some m.cls := findClass_of_methodNamed Bd.named
  have hnm := (name_of_methodNamed Bd.named Bd.method).1
  have X0 : Stand p l e ({ frames := 0, cells := 0, slots := 0, locals := 0 } : Room) s m #[(.ref a1)] below meth c s₁ [] 0 0 := Stand.of_body Bd
  have e0 : s₁.heap = h0 := by rw [← hh, Bd.state]; rfl
  have N0 := Fr.nil n0
  have pre0 : ∀ t, Steps p.tables e below (s₁.setTop (mkF m 0 #[.val (.ref a1)] [])) t → Steps p.tables e below (s₁.setTop (entryFrame m #[(.ref a1)] 1)) t := fun t k => castTop (ef_3 m a1) k
  obtain ⟨T7, X7, e7, st7⟩ := getS2 X0 hx hZ hown (host := "") (Or.inl (hw _ (List.mem_of_getElem? (i := 24) rfl))) Via.refl e0 SC (g := (mkF m 0 #[.val (.ref a1)] [])) rfl (hb hby d3_0)
  obtain ⟨T8, X8, e8, st8⟩ := getF X7 hx hZ hown (host := "") (Or.inl (hw _ (List.mem_of_getElem? (i := 25) rfl))) Via.refl e7 FC (g := (mkF m 7 #[.val (.ref a1)] [(.ref a1)])) rfl rfl (hb hby d3_7)
  have pre9 : ∀ t, Steps p.tables e below (T8.setTop (mkF m 18 #[.val (.ref a1)] [(.int (1 : Int32))])) t → Steps p.tables e below (s₁.setTop (entryFrame m #[(.ref a1)] 1)) t := by
    intro t kt
    refine pre0 _ ?_
    show Steps p.tables e below (s₁.setTop (mkF m 0 #[.val (.ref a1)] [])) _
    refine st7 _ ?_
    show Steps p.tables e below (T7.setTop (mkF m 3 #[.val (.ref a1)] [(.int cs)])) _
    refine XS.ifNo X7.here hx rfl (hb hby d3_3) rfl ((if0 _ _).trans (feq (hcs : ¬ (cs = (0 : Int32)))).1) ?_
    show Steps p.tables e below (T7.setTop (mkF m 6 #[.val (.ref a1)] [])) _
    refine XS.aloadN X7.here hx rfl (hb hby d3_6) rfl rfl ?_
    show Steps p.tables e below (T7.setTop (mkF m 7 #[.val (.ref a1)] [(.ref a1)])) _
    refine st8 _ ?_
    show Steps p.tables e below (T8.setTop (mkF m 10 #[.val (.ref a1)] [(.int (0 : Int32))])) _
    refine XS.ifNo X8.here hx rfl (hb hby d3_10) rfl ((if0 _ _).trans (teq (by decide : (0 : Int32) = (0 : Int32))).2) ?_
    show Steps p.tables e below (T8.setTop (mkF m 13 #[.val (.ref a1)] [])) _
    refine XS.iconst X8.here hx rfl (hb hby d3_13) ?_
    show Steps p.tables e below (T8.setTop (mkF m 14 #[.val (.ref a1)] [(.int (1 : Int32))])) _
    refine XS.goto X8.here hx rfl (pc0 := 14) (pc' := 18) rfl (hb hby d3_14) (by decide) (by decide) ?_
    exact kt
  obtain ⟨fs, hr, hrun, hended, hW, hsame⟩ := X8.leave (v := some (.int (1 : Int32))) (fun h => by rw [Bd.returns] at h; cases h)
  refine ⟨_, _, pre9 _ ?_, hrun, hended, _, _, rfl, ?_, ⟨_, rfl⟩, hW, hsame.mono (by decide) (by decide)⟩
  · show Steps p.tables e below (T8.setTop (mkF m 18 #[.val (.ref a1)] [(.int (1 : Int32))])) _
    exact retN X8 hx (t := .boolean) Bd.returns (by simp) (hb hby d3_18) hr
  · show Q3 Z a1 cs h0 n0 _ T8.heap _
    rw [e8]
    exact ⟨rfl, N0, rfl⟩
theorem pd_2 : parseMethodDescriptor "()Z" = some ⟨[], some .boolean⟩ := by decide +kernel
theorem pd_3 : parseMethodDescriptor "([BI)C" = some ⟨[(.array .byte), .int], some .char⟩ := by decide +kernel
theorem d2_0 : decode jdk_42_method_56_code 0 = .ok (.aload_n 0, 1) := by decide +kernel
theorem d2_1 : decode jdk_42_method_56_code 1 = .ok (.invokevirtual 492, 3) := by decide +kernel
theorem d2_4 : decode jdk_42_method_56_code 4 = .ok (.ifCond .eq 12, 3) := by decide +kernel
theorem d2_7 : decode jdk_42_method_56_code 7 = .ok (.aload_n 0, 1) := by decide +kernel
theorem d2_8 : decode jdk_42_method_56_code 8 = .ok (.getfield 9, 3) := by decide +kernel
theorem d2_11 : decode jdk_42_method_56_code 11 = .ok (.iload_n 1, 1) := by decide +kernel
theorem d2_12 : decode jdk_42_method_56_code 12 = .ok (.invokestatic 495, 3) := by decide +kernel
theorem d2_15 : decode jdk_42_method_56_code 15 = .ok (.ireturn, 1) := by decide +kernel
theorem pn_2 : plainName "java/lang/String" = true := by first | (simp [plainName, overriddenIn]; done) | decide +kernel
theorem ef_2 (m : MethodId) (x0 : Addr) (x1 : Int32) : entryFrame m #[(.ref x0), (.int x1)] 2 = mkF m 0 #[.val (.ref x0), .val (.int x1)] [] := by first | (simp [entryFrame, mkF, argsToLocals, Value.category]; done) | rfl
def Q2 (Z : State) (a1 : Addr) (p2 : Int32) (wb : Addr) (cl : Cell) (zz : Int32) (w : Int32) (cs : Int32) (vf : Value) (h0 : Heap) (n0 : Nat) (v : Option Value) (h : Heap) (L : List Loc) : Prop := v = some (.int (nar .char (own_chr w))) ∧ Fr n0 L ∧ h = h0
set_option maxRecDepth 65536 in
set_option maxHeartbeats 40000000 in
theorem rm2 (l : Launch) (Z : State) (a0 : Array Value) (hw : ∀ d ∈ tables_1, d.before a0 Z = true) (ws : List Jvm.Cond) (a1 : Addr) (p2 : Int32) (wb : Addr) (cl : Cell) (zz : Int32) (w : Int32) (cs : Int32) (vf : Value) (h0 : Heap) (n0 : Nat) (Z0 : n0 ≤ h0.size) (E1 : Exa Z h0 a1 "java/lang/String") (FC : Fld Z h0 a1 "java/lang/String" "coder" "B" (.int (0 : Int32))) (FV : Fld Z h0 a1 "java/lang/String" "value" "[B" (.ref wb)) (Ar : Arr Z h0 wb cl .byte) (Sz : cl.slots.size = zz.toNatClampNeg) (Nz : ¬ zz < (0 : Int32)) (h1 : ¬ p2 < (0 : Int32)) (h2 : p2 < zz) (hat : cl.slots[p2.toNatClampNeg]? = some (.int w)) (SC : Sta Z h0 "java/lang/String" "COMPACT_STRINGS" "Z" (.int cs)) (hcs : ¬ cs = (0 : Int32)) (SF : Sta Z h0 "jdk/internal/util/Preconditions" "SIOOBE_FORMATTER" "Ljava/util/function/BiFunction;" vf) (hvf : vf.isRef = true) :
    MetFree l (⟨"java/lang/String", "charAt", "(I)C"⟩ : MethodName) (head1 (Jvm.Cond.code (⟨"java/lang/String", "charAt", "(I)C"⟩ : MethodName) jdk_42_method_56_code 2 (some .char) :: ws) ({ frames := 3, cells := 0, slots := 0, locals := 40 } : Room)) (fun a U => a = #[(.ref a1), (.int p2)] ∧ Z.Warmed39 U.vm ∧ U.heap = h0) (fun _ _ _ _ _ => True) (fun _ U o U' => ∃ v L, o = .returned v ∧ Q2 Z a1 p2 wb cl zz w cs vf h0 n0 v U'.heap L ∧ FrameEnd U o U' L ({ frames := 3, cells := 0, slots := 0, locals := 40 } : Room).cells ({ frames := 3, cells := 0, slots := 0, locals := 40 } : Room).slots) := by
  refine MetFree.of_bodySF (plainFor_of_name pn_2) hisR ?_
  intro p e s m args below meth c s₁ Bd hml0 hP hK
  obtain ⟨rfl, hZ, hh⟩ := hP
  have hx := Bd.exec
  have hby := Bd.bytes
  have hml : c.maxLocals = 2 := hml0
  have hown : s.vm.findClass "java/lang/String" = some m.cls := findClass_of_methodNamed Bd.named
  have hnm := (name_of_methodNamed Bd.named Bd.method).1
  have X0 : Stand p l e ({ frames := 3, cells := 0, slots := 0, locals := 40 } : Room) s m #[(.ref a1), (.int p2)] below meth c s₁ [] 0 0 := Stand.of_body Bd
  have e0 : s₁.heap = h0 := by rw [← hh, Bd.state]; rfl
  have N0 := Fr.nil n0
  have pre0 : ∀ t, Steps p.tables e below (s₁.setTop (mkF m 0 #[.val (.ref a1), .val (.int p2)] [])) t → Steps p.tables e below (s₁.setTop (entryFrame m #[(.ref a1), (.int p2)] 2)) t := fun t k => castTop (ef_2 m a1 p2) k
  obtain ⟨cq10, kq10, q10a, q10b, q10c⟩ := isOf hZ e0 E1
  obtain ⟨_, _, ⟨T10, L10, k10, n10⟩, -, X10, ⟨Lc10, hQ10, l10, y10, z10⟩, st10⟩ := X0.virtualBack hx (y := (⟨"java/lang/String", "isLatin1", "()Z"⟩ : MethodName)) (z := (⟨"java/lang/String", "isLatin1", "()Z"⟩ : MethodName)) hown (mvT hZ (hw _ (List.mem_of_getElem? (i := 19) rfl))) (mvT hZ (hw _ (List.mem_of_getElem? (i := 20) rfl))) (notFace_of_selects (args := #[]) (mvT hZ (hw _ (List.mem_of_getElem? (i := 22) rfl)))) (mvT hZ (hw _ (List.mem_of_getElem? (i := 22) rfl))) (mvT hZ (hw _ (List.mem_of_getElem? (i := 21) rfl))) (by decide) (backOf (W := 0) (rm3 l Z a0 hw [] a1 cs h0 n0 Z0 SC hcs FC) hZ (hw _ (List.mem_of_getElem? (i := 23) rfl)) (hw _ (List.mem_of_getElem? (i := 7) rfl)) (by decide) (by decide)) q10a q10c (g := (mkF m 1 #[.val (.ref a1), .val (.int p2)] [(.ref a1)])) rfl (by rw [hml]; rfl) (Steps.refl _) (argsL := []) (rest := []) (lenOf pd_2 rfl) rfl (by show 2 * 0 + _ ≤ _; exact Nat.le_of_eq rfl) (hb hby d2_1) (fun _ _ => ⟨rfl, e0, (by decide : 0 + 0 ≤ _), (by decide : 0 + 0 ≤ _)⟩)
  dsimp only [Pt.U, Pt.locs, Pt.cells, Pt.slots] at X10 l10 y10 z10 st10 hQ10
  subst l10 y10 z10
  obtain ⟨rfl, N10q, e10⟩ := hQ10
  have N10 := Fr.app N0 N10q
  obtain ⟨T11, X11, e11, st11⟩ := getF X10 hx hZ hown (host := "") (Or.inl (hw _ (List.mem_of_getElem? (i := 26) rfl))) Via.refl e10 FV (g := (mkF m 8 #[.val (.ref a1), .val (.int p2)] [(.ref a1)])) rfl rfl (hb hby d2_8)
  obtain ⟨_, _, ⟨T12, L12, k12, n12⟩, -, X12, ⟨Lc12, hQ12, l12, y12, z12⟩, st12⟩ := Jvm.LawKit.callS X11 hx (y := (⟨"java/lang/StringLatin1", "charAt", "([BI)C"⟩ : MethodName)) hown (mvT hZ (hw _ (List.mem_of_getElem? (i := 27) rfl))) (mvT hZ (hw _ (List.mem_of_getElem? (i := 28) rfl))) (mvT hZ (hw _ (List.mem_of_getElem? (i := 29) rfl))) (mvT hZ (hw _ (List.mem_of_getElem? (i := 30) rfl))) (by decide) (backOf (W := 0) (rm4 l Z a0 hw [] wb p2 cl zz w vf h0 n0 Z0 Ar Sz Nz h1 h2 hat SF hvf) hZ (hw _ (List.mem_of_getElem? (i := 30) rfl)) (hw _ (List.mem_of_getElem? (i := 29) rfl)) (by decide) (by decide)) (g := (mkF m 12 #[.val (.ref a1), .val (.int p2)] [(.int p2), (.ref wb)])) rfl (by rw [hml]; rfl) (argsL := [(.ref wb), (.int p2)]) (rest := []) (lenOf pd_3 rfl) rfl (by show 2 * 0 + _ ≤ _; exact Nat.le_of_eq rfl) (hb hby d2_12) (fun _ _ => ⟨rfl, e11, (by decide : 0 + 0 ≤ _), (by decide : 0 + 0 ≤ _)⟩)
  dsimp only [Pt.U, Pt.locs, Pt.cells, Pt.slots] at X12 l12 y12 z12 st12 hQ12
  subst l12 y12 z12
  obtain ⟨rfl, N12q, e12⟩ := hQ12
  have N12 := Fr.app N10 N12q
  have pre13 : ∀ t, Steps p.tables e below (T12.setTop (mkF m 15 #[.val (.ref a1), .val (.int p2)] [(.int (own_chr w))])) t → Steps p.tables e below (s₁.setTop (entryFrame m #[(.ref a1), (.int p2)] 2)) t := by
    intro t kt
    refine pre0 _ ?_
    show Steps p.tables e below (s₁.setTop (mkF m 0 #[.val (.ref a1), .val (.int p2)] [])) _
    refine XS.aloadN X0.here hx rfl (hb hby d2_0) rfl rfl ?_
    show Steps p.tables e below (s₁.setTop (mkF m 1 #[.val (.ref a1), .val (.int p2)] [(.ref a1)])) _
    refine st10.trans ?_
    show Steps p.tables e below (T10.setTop (mkF m 4 #[.val (.ref a1), .val (.int p2)] [(.int (1 : Int32))])) _
    refine XS.ifNo X10.here hx rfl (hb hby d2_4) rfl ((if0 _ _).trans (feq (by decide : ¬ ((1 : Int32) = (0 : Int32)))).1) ?_
    show Steps p.tables e below (T10.setTop (mkF m 7 #[.val (.ref a1), .val (.int p2)] [])) _
    refine XS.aloadN X10.here hx rfl (hb hby d2_7) rfl rfl ?_
    show Steps p.tables e below (T10.setTop (mkF m 8 #[.val (.ref a1), .val (.int p2)] [(.ref a1)])) _
    refine st11 _ ?_
    show Steps p.tables e below (T11.setTop (mkF m 11 #[.val (.ref a1), .val (.int p2)] [(.ref wb)])) _
    refine XS.iloadN X11.here hx rfl (hb hby d2_11) rfl ?_
    show Steps p.tables e below (T11.setTop (mkF m 12 #[.val (.ref a1), .val (.int p2)] [(.int p2), (.ref wb)])) _
    refine st12 _ ?_
    exact kt
  obtain ⟨fs, hr, hrun, hended, hW, hsame⟩ := X12.leave (v := some (.int (nar .char (own_chr w)))) (fun h => by rw [Bd.returns] at h; cases h)
  refine ⟨_, _, pre13 _ ?_, hrun, hended, _, _, rfl, ?_, ⟨_, rfl⟩, hW, hsame.mono (by decide) (by decide)⟩
  · show Steps p.tables e below (T12.setTop (mkF m 15 #[.val (.ref a1), .val (.int p2)] [(.int (own_chr w))])) _
    exact retN X12 hx (t := .char) Bd.returns (by simp) (hb hby d2_15) hr
  · show Q2 Z a1 p2 wb cl zz w cs vf h0 n0 _ T12.heap _
    rw [e12]
    exact ⟨rfl, N12, rfl⟩
theorem d1_0 : decode prog_48_method_6_code 0 = .ok (.iconst (-1), 1) := by decide +kernel
theorem d1_1 : decode prog_48_method_6_code 1 = .ok (.istore_n 1, 1) := by decide +kernel
theorem d1_2 : decode prog_48_method_6_code 2 = .ok (.iload_n 0, 1) := by decide +kernel
theorem d1_3 : decode prog_48_method_6_code 3 = .ok (.bipush 48, 2) := by decide +kernel
theorem d1_5 : decode prog_48_method_6_code 5 = .ok (.if_icmp .lt 17, 3) := by decide +kernel
theorem d1_8 : decode prog_48_method_6_code 8 = .ok (.iload_n 0, 1) := by decide +kernel
theorem d1_9 : decode prog_48_method_6_code 9 = .ok (.bipush 57, 2) := by decide +kernel
theorem d1_11 : decode prog_48_method_6_code 11 = .ok (.if_icmp .gt 11, 3) := by decide +kernel
theorem d1_14 : decode prog_48_method_6_code 14 = .ok (.iload_n 0, 1) := by decide +kernel
theorem d1_15 : decode prog_48_method_6_code 15 = .ok (.bipush 48, 2) := by decide +kernel
theorem d1_17 : decode prog_48_method_6_code 17 = .ok (.isub, 1) := by decide +kernel
theorem d1_18 : decode prog_48_method_6_code 18 = .ok (.istore_n 1, 1) := by decide +kernel
theorem d1_19 : decode prog_48_method_6_code 19 = .ok (.goto 46, 3) := by decide +kernel
theorem d1_22 : decode prog_48_method_6_code 22 = .ok (.iload_n 0, 1) := by decide +kernel
theorem d1_23 : decode prog_48_method_6_code 23 = .ok (.bipush 65, 2) := by decide +kernel
theorem d1_25 : decode prog_48_method_6_code 25 = .ok (.if_icmp .lt 20, 3) := by decide +kernel
theorem d1_28 : decode prog_48_method_6_code 28 = .ok (.iload_n 0, 1) := by decide +kernel
theorem d1_29 : decode prog_48_method_6_code 29 = .ok (.bipush 70, 2) := by decide +kernel
theorem d1_31 : decode prog_48_method_6_code 31 = .ok (.if_icmp .gt 14, 3) := by decide +kernel
theorem d1_34 : decode prog_48_method_6_code 34 = .ok (.iload_n 0, 1) := by decide +kernel
theorem d1_35 : decode prog_48_method_6_code 35 = .ok (.bipush 65, 2) := by decide +kernel
theorem d1_37 : decode prog_48_method_6_code 37 = .ok (.isub, 1) := by decide +kernel
theorem d1_38 : decode prog_48_method_6_code 38 = .ok (.bipush 10, 2) := by decide +kernel
theorem d1_40 : decode prog_48_method_6_code 40 = .ok (.iadd, 1) := by decide +kernel
theorem d1_41 : decode prog_48_method_6_code 41 = .ok (.istore_n 1, 1) := by decide +kernel
theorem d1_42 : decode prog_48_method_6_code 42 = .ok (.goto 23, 3) := by decide +kernel
theorem d1_45 : decode prog_48_method_6_code 45 = .ok (.iload_n 0, 1) := by decide +kernel
theorem d1_46 : decode prog_48_method_6_code 46 = .ok (.bipush 97, 2) := by decide +kernel
theorem d1_48 : decode prog_48_method_6_code 48 = .ok (.if_icmp .lt 17, 3) := by decide +kernel
theorem d1_51 : decode prog_48_method_6_code 51 = .ok (.iload_n 0, 1) := by decide +kernel
theorem d1_52 : decode prog_48_method_6_code 52 = .ok (.bipush 102, 2) := by decide +kernel
theorem d1_54 : decode prog_48_method_6_code 54 = .ok (.if_icmp .gt 11, 3) := by decide +kernel
theorem d1_57 : decode prog_48_method_6_code 57 = .ok (.iload_n 0, 1) := by decide +kernel
theorem d1_58 : decode prog_48_method_6_code 58 = .ok (.bipush 97, 2) := by decide +kernel
theorem d1_60 : decode prog_48_method_6_code 60 = .ok (.isub, 1) := by decide +kernel
theorem d1_61 : decode prog_48_method_6_code 61 = .ok (.bipush 10, 2) := by decide +kernel
theorem d1_63 : decode prog_48_method_6_code 63 = .ok (.iadd, 1) := by decide +kernel
theorem d1_64 : decode prog_48_method_6_code 64 = .ok (.istore_n 1, 1) := by decide +kernel
theorem d1_65 : decode prog_48_method_6_code 65 = .ok (.iload_n 1, 1) := by decide +kernel
theorem d1_66 : decode prog_48_method_6_code 66 = .ok (.ireturn, 1) := by decide +kernel
theorem pn_1 : plainName "com/example/elemento/elemento/PercentEncoding" = true := by first | (simp [plainName, overriddenIn]; done) | decide +kernel
theorem ef_1 (m : MethodId) (x0 : Int32) : entryFrame m #[(.int x0)] 2 = mkF m 0 #[.val (.int x0), .unset] [] := by first | (simp [entryFrame, mkF, argsToLocals, Value.category]; done) | rfl
def own_F1 (p1 : Int32) : Int32 := if p1 < (48 : Int32) then if p1 < (65 : Int32) then if p1 < (97 : Int32) then (-1 : Int32) else if (102 : Int32) < p1 then (-1 : Int32) else ((p1 - (97 : Int32)) + (10 : Int32)) else if (70 : Int32) < p1 then if p1 < (97 : Int32) then (-1 : Int32) else if (102 : Int32) < p1 then (-1 : Int32) else ((p1 - (97 : Int32)) + (10 : Int32)) else ((p1 - (65 : Int32)) + (10 : Int32)) else if (57 : Int32) < p1 then if p1 < (65 : Int32) then if p1 < (97 : Int32) then (-1 : Int32) else if (102 : Int32) < p1 then (-1 : Int32) else ((p1 - (97 : Int32)) + (10 : Int32)) else if (70 : Int32) < p1 then if p1 < (97 : Int32) then (-1 : Int32) else if (102 : Int32) < p1 then (-1 : Int32) else ((p1 - (97 : Int32)) + (10 : Int32)) else ((p1 - (65 : Int32)) + (10 : Int32)) else (p1 - (48 : Int32))
def Q1 (Z : State) (p1 : Int32) (h0 : Heap) (n0 : Nat) (v : Option Value) (h : Heap) (L : List Loc) : Prop := v = some (.int (own_F1 p1)) ∧ Fr n0 L ∧ h = h0
set_option maxRecDepth 65536 in
set_option maxHeartbeats 40000000 in
theorem rm1 (l : Launch) (Z : State) (a0 : Array Value) (hw : ∀ d ∈ tables_1, d.before a0 Z = true) (ws : List Jvm.Cond) (p1 : Int32) (h0 : Heap) (n0 : Nat) (Z0 : n0 ≤ h0.size) :
    MetFree l (⟨"com/example/elemento/elemento/PercentEncoding", "hexValue", "(C)I"⟩ : MethodName) (head1 (Jvm.Cond.code (⟨"com/example/elemento/elemento/PercentEncoding", "hexValue", "(C)I"⟩ : MethodName) prog_48_method_6_code 2 (some .int) :: ws) ({ frames := 0, cells := 0, slots := 0, locals := 0 } : Room)) (fun a U => a = #[(.int p1)] ∧ Z.Warmed39 U.vm ∧ U.heap = h0) (fun _ _ _ _ _ => True) (fun _ U o U' => ∃ v L, o = .returned v ∧ Q1 Z p1 h0 n0 v U'.heap L ∧ FrameEnd U o U' L ({ frames := 0, cells := 0, slots := 0, locals := 0 } : Room).cells ({ frames := 0, cells := 0, slots := 0, locals := 0 } : Room).slots) := by
  refine MetFree.of_bodySF (plainFor_of_name pn_1) hisR ?_
  intro p e s m args below meth c s₁ Bd hml0 hP hK
  obtain ⟨rfl, hZ, hh⟩ := hP
  have hx := Bd.exec
  have hby := Bd.bytes
  have hml : c.maxLocals = 2 := hml0
  have hown : s.vm.findClass "com/example/elemento/elemento/PercentEncoding" = some m.cls := findClass_of_methodNamed Bd.named
  have hnm := (name_of_methodNamed Bd.named Bd.method).1
  have X0 : Stand p l e ({ frames := 0, cells := 0, slots := 0, locals := 0 } : Room) s m #[(.int p1)] below meth c s₁ [] 0 0 := Stand.of_body Bd
  have e0 : s₁.heap = h0 := by rw [← hh, Bd.state]; rfl
  have N0 := Fr.nil n0
  have pre0 : ∀ t, Steps p.tables e below (s₁.setTop (mkF m 0 #[.val (.int p1), .unset] [])) t → Steps p.tables e below (s₁.setTop (entryFrame m #[(.int p1)] 2)) t := fun t k => castTop (ef_1 m p1) k
  have pre14 : ∀ t, Steps p.tables e below (s₁.setTop (mkF m 5 #[.val (.int p1), .val (.int (-1 : Int32))] [(.int (48 : Int32)), (.int p1)])) t → Steps p.tables e below (s₁.setTop (entryFrame m #[(.int p1)] 2)) t := by
    intro t kt
    refine pre0 _ ?_
    show Steps p.tables e below (s₁.setTop (mkF m 0 #[.val (.int p1), .unset] [])) _
    refine XS.iconst X0.here hx rfl (hb hby d1_0) ?_
    show Steps p.tables e below (s₁.setTop (mkF m 1 #[.val (.int p1), .unset] [(.int (-1 : Int32))])) _
    refine XS.istoreN X0.here hx rfl (hb hby d1_1) rfl (l' := #[.val (.int p1), .val (.int (-1 : Int32))]) rfl ?_
    show Steps p.tables e below (s₁.setTop (mkF m 2 #[.val (.int p1), .val (.int (-1 : Int32))] [])) _
    refine XS.iloadN X0.here hx rfl (hb hby d1_2) rfl ?_
    show Steps p.tables e below (s₁.setTop (mkF m 3 #[.val (.int p1), .val (.int (-1 : Int32))] [(.int p1)])) _
    refine XS.bipush X0.here hx rfl (hb hby d1_3) ?_
    exact kt
  by_cases hc5_15 : p1 < (48 : Int32)
  · have pre16 : ∀ t, Steps p.tables e below (s₁.setTop (mkF m 25 #[.val (.int p1), .val (.int (-1 : Int32))] [(.int (65 : Int32)), (.int p1)])) t → Steps p.tables e below (s₁.setTop (entryFrame m #[(.int p1)] 2)) t := by
      intro t kt
      refine pre14 _ ?_
      show Steps p.tables e below (s₁.setTop (mkF m 5 #[.val (.int p1), .val (.int (-1 : Int32))] [(.int (48 : Int32)), (.int p1)])) _
      refine XS.icmpYes X0.here hx rfl (pc0 := 5) (pc' := 22) rfl (hb hby d1_5) rfl (tlt hc5_15).1 (by decide) (by decide) ?_
      show Steps p.tables e below (s₁.setTop (mkF m 22 #[.val (.int p1), .val (.int (-1 : Int32))] [])) _
      refine XS.iloadN X0.here hx rfl (hb hby d1_22) rfl ?_
      show Steps p.tables e below (s₁.setTop (mkF m 23 #[.val (.int p1), .val (.int (-1 : Int32))] [(.int p1)])) _
      refine XS.bipush X0.here hx rfl (hb hby d1_23) ?_
      exact kt
    by_cases hc25_17 : p1 < (65 : Int32)
    · have pre18 : ∀ t, Steps p.tables e below (s₁.setTop (mkF m 48 #[.val (.int p1), .val (.int (-1 : Int32))] [(.int (97 : Int32)), (.int p1)])) t → Steps p.tables e below (s₁.setTop (entryFrame m #[(.int p1)] 2)) t := by
        intro t kt
        refine pre16 _ ?_
        show Steps p.tables e below (s₁.setTop (mkF m 25 #[.val (.int p1), .val (.int (-1 : Int32))] [(.int (65 : Int32)), (.int p1)])) _
        refine XS.icmpYes X0.here hx rfl (pc0 := 25) (pc' := 45) rfl (hb hby d1_25) rfl (tlt hc25_17).1 (by decide) (by decide) ?_
        show Steps p.tables e below (s₁.setTop (mkF m 45 #[.val (.int p1), .val (.int (-1 : Int32))] [])) _
        refine XS.iloadN X0.here hx rfl (hb hby d1_45) rfl ?_
        show Steps p.tables e below (s₁.setTop (mkF m 46 #[.val (.int p1), .val (.int (-1 : Int32))] [(.int p1)])) _
        refine XS.bipush X0.here hx rfl (hb hby d1_46) ?_
        exact kt
      by_cases hc48_19 : p1 < (97 : Int32)
      · have pre20 : ∀ t, Steps p.tables e below (s₁.setTop (mkF m 66 #[.val (.int p1), .val (.int (-1 : Int32))] [(.int (-1 : Int32))])) t → Steps p.tables e below (s₁.setTop (entryFrame m #[(.int p1)] 2)) t := by
          intro t kt
          refine pre18 _ ?_
          show Steps p.tables e below (s₁.setTop (mkF m 48 #[.val (.int p1), .val (.int (-1 : Int32))] [(.int (97 : Int32)), (.int p1)])) _
          refine XS.icmpYes X0.here hx rfl (pc0 := 48) (pc' := 65) rfl (hb hby d1_48) rfl (tlt hc48_19).1 (by decide) (by decide) ?_
          show Steps p.tables e below (s₁.setTop (mkF m 65 #[.val (.int p1), .val (.int (-1 : Int32))] [])) _
          refine XS.iloadN X0.here hx rfl (hb hby d1_65) rfl ?_
          exact kt
        obtain ⟨fs, hr, hrun, hended, hW, hsame⟩ := X0.leave (v := some (.int (-1 : Int32))) (fun h => by rw [Bd.returns] at h; cases h)
        refine ⟨_, _, pre20 _ ?_, hrun, hended, _, _, rfl, ?_, ⟨_, rfl⟩, hW, hsame.mono (by decide) (by decide)⟩
        · show Steps p.tables e below (s₁.setTop (mkF m 66 #[.val (.int p1), .val (.int (-1 : Int32))] [(.int (-1 : Int32))])) _
          exact retI X0 hx Bd.returns (hb hby d1_66) hr
        · show Q1 Z p1 h0 n0 _ s₁.heap _
          rw [e0]
          exact ⟨(by rw [own_F1, if_pos hc5_15, if_pos hc25_17, if_pos hc48_19]), N0, rfl⟩
      · have pre21 : ∀ t, Steps p.tables e below (s₁.setTop (mkF m 54 #[.val (.int p1), .val (.int (-1 : Int32))] [(.int (102 : Int32)), (.int p1)])) t → Steps p.tables e below (s₁.setTop (entryFrame m #[(.int p1)] 2)) t := by
          intro t kt
          refine pre18 _ ?_
          show Steps p.tables e below (s₁.setTop (mkF m 48 #[.val (.int p1), .val (.int (-1 : Int32))] [(.int (97 : Int32)), (.int p1)])) _
          refine XS.icmpNo X0.here hx rfl (hb hby d1_48) rfl (flt hc48_19).1 ?_
          show Steps p.tables e below (s₁.setTop (mkF m 51 #[.val (.int p1), .val (.int (-1 : Int32))] [])) _
          refine XS.iloadN X0.here hx rfl (hb hby d1_51) rfl ?_
          show Steps p.tables e below (s₁.setTop (mkF m 52 #[.val (.int p1), .val (.int (-1 : Int32))] [(.int p1)])) _
          refine XS.bipush X0.here hx rfl (hb hby d1_52) ?_
          exact kt
        by_cases hc54_22 : (102 : Int32) < p1
        · have pre23 : ∀ t, Steps p.tables e below (s₁.setTop (mkF m 66 #[.val (.int p1), .val (.int (-1 : Int32))] [(.int (-1 : Int32))])) t → Steps p.tables e below (s₁.setTop (entryFrame m #[(.int p1)] 2)) t := by
            intro t kt
            refine pre21 _ ?_
            show Steps p.tables e below (s₁.setTop (mkF m 54 #[.val (.int p1), .val (.int (-1 : Int32))] [(.int (102 : Int32)), (.int p1)])) _
            refine XS.icmpYes X0.here hx rfl (pc0 := 54) (pc' := 65) rfl (hb hby d1_54) rfl (tlt hc54_22).2.2.1 (by decide) (by decide) ?_
            show Steps p.tables e below (s₁.setTop (mkF m 65 #[.val (.int p1), .val (.int (-1 : Int32))] [])) _
            refine XS.iloadN X0.here hx rfl (hb hby d1_65) rfl ?_
            exact kt
          obtain ⟨fs, hr, hrun, hended, hW, hsame⟩ := X0.leave (v := some (.int (-1 : Int32))) (fun h => by rw [Bd.returns] at h; cases h)
          refine ⟨_, _, pre23 _ ?_, hrun, hended, _, _, rfl, ?_, ⟨_, rfl⟩, hW, hsame.mono (by decide) (by decide)⟩
          · show Steps p.tables e below (s₁.setTop (mkF m 66 #[.val (.int p1), .val (.int (-1 : Int32))] [(.int (-1 : Int32))])) _
            exact retI X0 hx Bd.returns (hb hby d1_66) hr
          · show Q1 Z p1 h0 n0 _ s₁.heap _
            rw [e0]
            exact ⟨(by rw [own_F1, if_pos hc5_15, if_pos hc25_17, if_neg hc48_19, if_pos hc54_22]), N0, rfl⟩
        · have pre24 : ∀ t, Steps p.tables e below (s₁.setTop (mkF m 66 #[.val (.int p1), .val (.int ((p1 - (97 : Int32)) + (10 : Int32)))] [(.int ((p1 - (97 : Int32)) + (10 : Int32)))])) t → Steps p.tables e below (s₁.setTop (entryFrame m #[(.int p1)] 2)) t := by
            intro t kt
            refine pre21 _ ?_
            show Steps p.tables e below (s₁.setTop (mkF m 54 #[.val (.int p1), .val (.int (-1 : Int32))] [(.int (102 : Int32)), (.int p1)])) _
            refine XS.icmpNo X0.here hx rfl (hb hby d1_54) rfl (flt hc54_22).2.2.1 ?_
            show Steps p.tables e below (s₁.setTop (mkF m 57 #[.val (.int p1), .val (.int (-1 : Int32))] [])) _
            refine XS.iloadN X0.here hx rfl (hb hby d1_57) rfl ?_
            show Steps p.tables e below (s₁.setTop (mkF m 58 #[.val (.int p1), .val (.int (-1 : Int32))] [(.int p1)])) _
            refine XS.bipush X0.here hx rfl (hb hby d1_58) ?_
            show Steps p.tables e below (s₁.setTop (mkF m 60 #[.val (.int p1), .val (.int (-1 : Int32))] [(.int (97 : Int32)), (.int p1)])) _
            refine XS.isub X0.here hx rfl (hb hby d1_60) rfl ?_
            show Steps p.tables e below (s₁.setTop (mkF m 61 #[.val (.int p1), .val (.int (-1 : Int32))] [(.int (p1 - (97 : Int32)))])) _
            refine XS.bipush X0.here hx rfl (hb hby d1_61) ?_
            show Steps p.tables e below (s₁.setTop (mkF m 63 #[.val (.int p1), .val (.int (-1 : Int32))] [(.int (10 : Int32)), (.int (p1 - (97 : Int32)))])) _
            refine XS.iadd X0.here hx rfl (hb hby d1_63) rfl ?_
            show Steps p.tables e below (s₁.setTop (mkF m 64 #[.val (.int p1), .val (.int (-1 : Int32))] [(.int ((p1 - (97 : Int32)) + (10 : Int32)))])) _
            refine XS.istoreN X0.here hx rfl (hb hby d1_64) rfl (l' := #[.val (.int p1), .val (.int ((p1 - (97 : Int32)) + (10 : Int32)))]) rfl ?_
            show Steps p.tables e below (s₁.setTop (mkF m 65 #[.val (.int p1), .val (.int ((p1 - (97 : Int32)) + (10 : Int32)))] [])) _
            refine XS.iloadN X0.here hx rfl (hb hby d1_65) rfl ?_
            exact kt
          obtain ⟨fs, hr, hrun, hended, hW, hsame⟩ := X0.leave (v := some (.int ((p1 - (97 : Int32)) + (10 : Int32)))) (fun h => by rw [Bd.returns] at h; cases h)
          refine ⟨_, _, pre24 _ ?_, hrun, hended, _, _, rfl, ?_, ⟨_, rfl⟩, hW, hsame.mono (by decide) (by decide)⟩
          · show Steps p.tables e below (s₁.setTop (mkF m 66 #[.val (.int p1), .val (.int ((p1 - (97 : Int32)) + (10 : Int32)))] [(.int ((p1 - (97 : Int32)) + (10 : Int32)))])) _
            exact retI X0 hx Bd.returns (hb hby d1_66) hr
          · show Q1 Z p1 h0 n0 _ s₁.heap _
            rw [e0]
            exact ⟨(by rw [own_F1, if_pos hc5_15, if_pos hc25_17, if_neg hc48_19, if_neg hc54_22]), N0, rfl⟩
    · have pre25 : ∀ t, Steps p.tables e below (s₁.setTop (mkF m 31 #[.val (.int p1), .val (.int (-1 : Int32))] [(.int (70 : Int32)), (.int p1)])) t → Steps p.tables e below (s₁.setTop (entryFrame m #[(.int p1)] 2)) t := by
        intro t kt
        refine pre16 _ ?_
        show Steps p.tables e below (s₁.setTop (mkF m 25 #[.val (.int p1), .val (.int (-1 : Int32))] [(.int (65 : Int32)), (.int p1)])) _
        refine XS.icmpNo X0.here hx rfl (hb hby d1_25) rfl (flt hc25_17).1 ?_
        show Steps p.tables e below (s₁.setTop (mkF m 28 #[.val (.int p1), .val (.int (-1 : Int32))] [])) _
        refine XS.iloadN X0.here hx rfl (hb hby d1_28) rfl ?_
        show Steps p.tables e below (s₁.setTop (mkF m 29 #[.val (.int p1), .val (.int (-1 : Int32))] [(.int p1)])) _
        refine XS.bipush X0.here hx rfl (hb hby d1_29) ?_
        exact kt
      by_cases hc31_26 : (70 : Int32) < p1
      · have pre27 : ∀ t, Steps p.tables e below (s₁.setTop (mkF m 48 #[.val (.int p1), .val (.int (-1 : Int32))] [(.int (97 : Int32)), (.int p1)])) t → Steps p.tables e below (s₁.setTop (entryFrame m #[(.int p1)] 2)) t := by
          intro t kt
          refine pre25 _ ?_
          show Steps p.tables e below (s₁.setTop (mkF m 31 #[.val (.int p1), .val (.int (-1 : Int32))] [(.int (70 : Int32)), (.int p1)])) _
          refine XS.icmpYes X0.here hx rfl (pc0 := 31) (pc' := 45) rfl (hb hby d1_31) rfl (tlt hc31_26).2.2.1 (by decide) (by decide) ?_
          show Steps p.tables e below (s₁.setTop (mkF m 45 #[.val (.int p1), .val (.int (-1 : Int32))] [])) _
          refine XS.iloadN X0.here hx rfl (hb hby d1_45) rfl ?_
          show Steps p.tables e below (s₁.setTop (mkF m 46 #[.val (.int p1), .val (.int (-1 : Int32))] [(.int p1)])) _
          refine XS.bipush X0.here hx rfl (hb hby d1_46) ?_
          exact kt
        by_cases hc48_28 : p1 < (97 : Int32)
        · have pre29 : ∀ t, Steps p.tables e below (s₁.setTop (mkF m 66 #[.val (.int p1), .val (.int (-1 : Int32))] [(.int (-1 : Int32))])) t → Steps p.tables e below (s₁.setTop (entryFrame m #[(.int p1)] 2)) t := by
            intro t kt
            refine pre27 _ ?_
            show Steps p.tables e below (s₁.setTop (mkF m 48 #[.val (.int p1), .val (.int (-1 : Int32))] [(.int (97 : Int32)), (.int p1)])) _
            refine XS.icmpYes X0.here hx rfl (pc0 := 48) (pc' := 65) rfl (hb hby d1_48) rfl (tlt hc48_28).1 (by decide) (by decide) ?_
            show Steps p.tables e below (s₁.setTop (mkF m 65 #[.val (.int p1), .val (.int (-1 : Int32))] [])) _
            refine XS.iloadN X0.here hx rfl (hb hby d1_65) rfl ?_
            exact kt
          obtain ⟨fs, hr, hrun, hended, hW, hsame⟩ := X0.leave (v := some (.int (-1 : Int32))) (fun h => by rw [Bd.returns] at h; cases h)
          refine ⟨_, _, pre29 _ ?_, hrun, hended, _, _, rfl, ?_, ⟨_, rfl⟩, hW, hsame.mono (by decide) (by decide)⟩
          · show Steps p.tables e below (s₁.setTop (mkF m 66 #[.val (.int p1), .val (.int (-1 : Int32))] [(.int (-1 : Int32))])) _
            exact retI X0 hx Bd.returns (hb hby d1_66) hr
          · show Q1 Z p1 h0 n0 _ s₁.heap _
            rw [e0]
            exact ⟨(by rw [own_F1, if_pos hc5_15, if_neg hc25_17, if_pos hc31_26, if_pos hc48_28]), N0, rfl⟩
        · have pre30 : ∀ t, Steps p.tables e below (s₁.setTop (mkF m 54 #[.val (.int p1), .val (.int (-1 : Int32))] [(.int (102 : Int32)), (.int p1)])) t → Steps p.tables e below (s₁.setTop (entryFrame m #[(.int p1)] 2)) t := by
            intro t kt
            refine pre27 _ ?_
            show Steps p.tables e below (s₁.setTop (mkF m 48 #[.val (.int p1), .val (.int (-1 : Int32))] [(.int (97 : Int32)), (.int p1)])) _
            refine XS.icmpNo X0.here hx rfl (hb hby d1_48) rfl (flt hc48_28).1 ?_
            show Steps p.tables e below (s₁.setTop (mkF m 51 #[.val (.int p1), .val (.int (-1 : Int32))] [])) _
            refine XS.iloadN X0.here hx rfl (hb hby d1_51) rfl ?_
            show Steps p.tables e below (s₁.setTop (mkF m 52 #[.val (.int p1), .val (.int (-1 : Int32))] [(.int p1)])) _
            refine XS.bipush X0.here hx rfl (hb hby d1_52) ?_
            exact kt
          by_cases hc54_31 : (102 : Int32) < p1
          · have pre32 : ∀ t, Steps p.tables e below (s₁.setTop (mkF m 66 #[.val (.int p1), .val (.int (-1 : Int32))] [(.int (-1 : Int32))])) t → Steps p.tables e below (s₁.setTop (entryFrame m #[(.int p1)] 2)) t := by
              intro t kt
              refine pre30 _ ?_
              show Steps p.tables e below (s₁.setTop (mkF m 54 #[.val (.int p1), .val (.int (-1 : Int32))] [(.int (102 : Int32)), (.int p1)])) _
              refine XS.icmpYes X0.here hx rfl (pc0 := 54) (pc' := 65) rfl (hb hby d1_54) rfl (tlt hc54_31).2.2.1 (by decide) (by decide) ?_
              show Steps p.tables e below (s₁.setTop (mkF m 65 #[.val (.int p1), .val (.int (-1 : Int32))] [])) _
              refine XS.iloadN X0.here hx rfl (hb hby d1_65) rfl ?_
              exact kt
            obtain ⟨fs, hr, hrun, hended, hW, hsame⟩ := X0.leave (v := some (.int (-1 : Int32))) (fun h => by rw [Bd.returns] at h; cases h)
            refine ⟨_, _, pre32 _ ?_, hrun, hended, _, _, rfl, ?_, ⟨_, rfl⟩, hW, hsame.mono (by decide) (by decide)⟩
            · show Steps p.tables e below (s₁.setTop (mkF m 66 #[.val (.int p1), .val (.int (-1 : Int32))] [(.int (-1 : Int32))])) _
              exact retI X0 hx Bd.returns (hb hby d1_66) hr
            · show Q1 Z p1 h0 n0 _ s₁.heap _
              rw [e0]
              exact ⟨(by rw [own_F1, if_pos hc5_15, if_neg hc25_17, if_pos hc31_26, if_neg hc48_28, if_pos hc54_31]), N0, rfl⟩
          · have pre33 : ∀ t, Steps p.tables e below (s₁.setTop (mkF m 66 #[.val (.int p1), .val (.int ((p1 - (97 : Int32)) + (10 : Int32)))] [(.int ((p1 - (97 : Int32)) + (10 : Int32)))])) t → Steps p.tables e below (s₁.setTop (entryFrame m #[(.int p1)] 2)) t := by
              intro t kt
              refine pre30 _ ?_
              show Steps p.tables e below (s₁.setTop (mkF m 54 #[.val (.int p1), .val (.int (-1 : Int32))] [(.int (102 : Int32)), (.int p1)])) _
              refine XS.icmpNo X0.here hx rfl (hb hby d1_54) rfl (flt hc54_31).2.2.1 ?_
              show Steps p.tables e below (s₁.setTop (mkF m 57 #[.val (.int p1), .val (.int (-1 : Int32))] [])) _
              refine XS.iloadN X0.here hx rfl (hb hby d1_57) rfl ?_
              show Steps p.tables e below (s₁.setTop (mkF m 58 #[.val (.int p1), .val (.int (-1 : Int32))] [(.int p1)])) _
              refine XS.bipush X0.here hx rfl (hb hby d1_58) ?_
              show Steps p.tables e below (s₁.setTop (mkF m 60 #[.val (.int p1), .val (.int (-1 : Int32))] [(.int (97 : Int32)), (.int p1)])) _
              refine XS.isub X0.here hx rfl (hb hby d1_60) rfl ?_
              show Steps p.tables e below (s₁.setTop (mkF m 61 #[.val (.int p1), .val (.int (-1 : Int32))] [(.int (p1 - (97 : Int32)))])) _
              refine XS.bipush X0.here hx rfl (hb hby d1_61) ?_
              show Steps p.tables e below (s₁.setTop (mkF m 63 #[.val (.int p1), .val (.int (-1 : Int32))] [(.int (10 : Int32)), (.int (p1 - (97 : Int32)))])) _
              refine XS.iadd X0.here hx rfl (hb hby d1_63) rfl ?_
              show Steps p.tables e below (s₁.setTop (mkF m 64 #[.val (.int p1), .val (.int (-1 : Int32))] [(.int ((p1 - (97 : Int32)) + (10 : Int32)))])) _
              refine XS.istoreN X0.here hx rfl (hb hby d1_64) rfl (l' := #[.val (.int p1), .val (.int ((p1 - (97 : Int32)) + (10 : Int32)))]) rfl ?_
              show Steps p.tables e below (s₁.setTop (mkF m 65 #[.val (.int p1), .val (.int ((p1 - (97 : Int32)) + (10 : Int32)))] [])) _
              refine XS.iloadN X0.here hx rfl (hb hby d1_65) rfl ?_
              exact kt
            obtain ⟨fs, hr, hrun, hended, hW, hsame⟩ := X0.leave (v := some (.int ((p1 - (97 : Int32)) + (10 : Int32)))) (fun h => by rw [Bd.returns] at h; cases h)
            refine ⟨_, _, pre33 _ ?_, hrun, hended, _, _, rfl, ?_, ⟨_, rfl⟩, hW, hsame.mono (by decide) (by decide)⟩
            · show Steps p.tables e below (s₁.setTop (mkF m 66 #[.val (.int p1), .val (.int ((p1 - (97 : Int32)) + (10 : Int32)))] [(.int ((p1 - (97 : Int32)) + (10 : Int32)))])) _
              exact retI X0 hx Bd.returns (hb hby d1_66) hr
            · show Q1 Z p1 h0 n0 _ s₁.heap _
              rw [e0]
              exact ⟨(by rw [own_F1, if_pos hc5_15, if_neg hc25_17, if_pos hc31_26, if_neg hc48_28, if_neg hc54_31]), N0, rfl⟩
      · have pre34 : ∀ t, Steps p.tables e below (s₁.setTop (mkF m 66 #[.val (.int p1), .val (.int ((p1 - (65 : Int32)) + (10 : Int32)))] [(.int ((p1 - (65 : Int32)) + (10 : Int32)))])) t → Steps p.tables e below (s₁.setTop (entryFrame m #[(.int p1)] 2)) t := by
          intro t kt
          refine pre25 _ ?_
          show Steps p.tables e below (s₁.setTop (mkF m 31 #[.val (.int p1), .val (.int (-1 : Int32))] [(.int (70 : Int32)), (.int p1)])) _
          refine XS.icmpNo X0.here hx rfl (hb hby d1_31) rfl (flt hc31_26).2.2.1 ?_
          show Steps p.tables e below (s₁.setTop (mkF m 34 #[.val (.int p1), .val (.int (-1 : Int32))] [])) _
          refine XS.iloadN X0.here hx rfl (hb hby d1_34) rfl ?_
          show Steps p.tables e below (s₁.setTop (mkF m 35 #[.val (.int p1), .val (.int (-1 : Int32))] [(.int p1)])) _
          refine XS.bipush X0.here hx rfl (hb hby d1_35) ?_
          show Steps p.tables e below (s₁.setTop (mkF m 37 #[.val (.int p1), .val (.int (-1 : Int32))] [(.int (65 : Int32)), (.int p1)])) _
          refine XS.isub X0.here hx rfl (hb hby d1_37) rfl ?_
          show Steps p.tables e below (s₁.setTop (mkF m 38 #[.val (.int p1), .val (.int (-1 : Int32))] [(.int (p1 - (65 : Int32)))])) _
          refine XS.bipush X0.here hx rfl (hb hby d1_38) ?_
          show Steps p.tables e below (s₁.setTop (mkF m 40 #[.val (.int p1), .val (.int (-1 : Int32))] [(.int (10 : Int32)), (.int (p1 - (65 : Int32)))])) _
          refine XS.iadd X0.here hx rfl (hb hby d1_40) rfl ?_
          show Steps p.tables e below (s₁.setTop (mkF m 41 #[.val (.int p1), .val (.int (-1 : Int32))] [(.int ((p1 - (65 : Int32)) + (10 : Int32)))])) _
          refine XS.istoreN X0.here hx rfl (hb hby d1_41) rfl (l' := #[.val (.int p1), .val (.int ((p1 - (65 : Int32)) + (10 : Int32)))]) rfl ?_
          show Steps p.tables e below (s₁.setTop (mkF m 42 #[.val (.int p1), .val (.int ((p1 - (65 : Int32)) + (10 : Int32)))] [])) _
          refine XS.goto X0.here hx rfl (pc0 := 42) (pc' := 65) rfl (hb hby d1_42) (by decide) (by decide) ?_
          show Steps p.tables e below (s₁.setTop (mkF m 65 #[.val (.int p1), .val (.int ((p1 - (65 : Int32)) + (10 : Int32)))] [])) _
          refine XS.iloadN X0.here hx rfl (hb hby d1_65) rfl ?_
          exact kt
        obtain ⟨fs, hr, hrun, hended, hW, hsame⟩ := X0.leave (v := some (.int ((p1 - (65 : Int32)) + (10 : Int32)))) (fun h => by rw [Bd.returns] at h; cases h)
        refine ⟨_, _, pre34 _ ?_, hrun, hended, _, _, rfl, ?_, ⟨_, rfl⟩, hW, hsame.mono (by decide) (by decide)⟩
        · show Steps p.tables e below (s₁.setTop (mkF m 66 #[.val (.int p1), .val (.int ((p1 - (65 : Int32)) + (10 : Int32)))] [(.int ((p1 - (65 : Int32)) + (10 : Int32)))])) _
          exact retI X0 hx Bd.returns (hb hby d1_66) hr
        · show Q1 Z p1 h0 n0 _ s₁.heap _
          rw [e0]
          exact ⟨(by rw [own_F1, if_pos hc5_15, if_neg hc25_17, if_neg hc31_26]), N0, rfl⟩
  · have pre35 : ∀ t, Steps p.tables e below (s₁.setTop (mkF m 11 #[.val (.int p1), .val (.int (-1 : Int32))] [(.int (57 : Int32)), (.int p1)])) t → Steps p.tables e below (s₁.setTop (entryFrame m #[(.int p1)] 2)) t := by
      intro t kt
      refine pre14 _ ?_
      show Steps p.tables e below (s₁.setTop (mkF m 5 #[.val (.int p1), .val (.int (-1 : Int32))] [(.int (48 : Int32)), (.int p1)])) _
      refine XS.icmpNo X0.here hx rfl (hb hby d1_5) rfl (flt hc5_15).1 ?_
      show Steps p.tables e below (s₁.setTop (mkF m 8 #[.val (.int p1), .val (.int (-1 : Int32))] [])) _
      refine XS.iloadN X0.here hx rfl (hb hby d1_8) rfl ?_
      show Steps p.tables e below (s₁.setTop (mkF m 9 #[.val (.int p1), .val (.int (-1 : Int32))] [(.int p1)])) _
      refine XS.bipush X0.here hx rfl (hb hby d1_9) ?_
      exact kt
    by_cases hc11_36 : (57 : Int32) < p1
    · have pre37 : ∀ t, Steps p.tables e below (s₁.setTop (mkF m 25 #[.val (.int p1), .val (.int (-1 : Int32))] [(.int (65 : Int32)), (.int p1)])) t → Steps p.tables e below (s₁.setTop (entryFrame m #[(.int p1)] 2)) t := by
        intro t kt
        refine pre35 _ ?_
        show Steps p.tables e below (s₁.setTop (mkF m 11 #[.val (.int p1), .val (.int (-1 : Int32))] [(.int (57 : Int32)), (.int p1)])) _
        refine XS.icmpYes X0.here hx rfl (pc0 := 11) (pc' := 22) rfl (hb hby d1_11) rfl (tlt hc11_36).2.2.1 (by decide) (by decide) ?_
        show Steps p.tables e below (s₁.setTop (mkF m 22 #[.val (.int p1), .val (.int (-1 : Int32))] [])) _
        refine XS.iloadN X0.here hx rfl (hb hby d1_22) rfl ?_
        show Steps p.tables e below (s₁.setTop (mkF m 23 #[.val (.int p1), .val (.int (-1 : Int32))] [(.int p1)])) _
        refine XS.bipush X0.here hx rfl (hb hby d1_23) ?_
        exact kt
      by_cases hc25_38 : p1 < (65 : Int32)
      · have pre39 : ∀ t, Steps p.tables e below (s₁.setTop (mkF m 48 #[.val (.int p1), .val (.int (-1 : Int32))] [(.int (97 : Int32)), (.int p1)])) t → Steps p.tables e below (s₁.setTop (entryFrame m #[(.int p1)] 2)) t := by
          intro t kt
          refine pre37 _ ?_
          show Steps p.tables e below (s₁.setTop (mkF m 25 #[.val (.int p1), .val (.int (-1 : Int32))] [(.int (65 : Int32)), (.int p1)])) _
          refine XS.icmpYes X0.here hx rfl (pc0 := 25) (pc' := 45) rfl (hb hby d1_25) rfl (tlt hc25_38).1 (by decide) (by decide) ?_
          show Steps p.tables e below (s₁.setTop (mkF m 45 #[.val (.int p1), .val (.int (-1 : Int32))] [])) _
          refine XS.iloadN X0.here hx rfl (hb hby d1_45) rfl ?_
          show Steps p.tables e below (s₁.setTop (mkF m 46 #[.val (.int p1), .val (.int (-1 : Int32))] [(.int p1)])) _
          refine XS.bipush X0.here hx rfl (hb hby d1_46) ?_
          exact kt
        by_cases hc48_40 : p1 < (97 : Int32)
        · have pre41 : ∀ t, Steps p.tables e below (s₁.setTop (mkF m 66 #[.val (.int p1), .val (.int (-1 : Int32))] [(.int (-1 : Int32))])) t → Steps p.tables e below (s₁.setTop (entryFrame m #[(.int p1)] 2)) t := by
            intro t kt
            refine pre39 _ ?_
            show Steps p.tables e below (s₁.setTop (mkF m 48 #[.val (.int p1), .val (.int (-1 : Int32))] [(.int (97 : Int32)), (.int p1)])) _
            refine XS.icmpYes X0.here hx rfl (pc0 := 48) (pc' := 65) rfl (hb hby d1_48) rfl (tlt hc48_40).1 (by decide) (by decide) ?_
            show Steps p.tables e below (s₁.setTop (mkF m 65 #[.val (.int p1), .val (.int (-1 : Int32))] [])) _
            refine XS.iloadN X0.here hx rfl (hb hby d1_65) rfl ?_
            exact kt
          obtain ⟨fs, hr, hrun, hended, hW, hsame⟩ := X0.leave (v := some (.int (-1 : Int32))) (fun h => by rw [Bd.returns] at h; cases h)
          refine ⟨_, _, pre41 _ ?_, hrun, hended, _, _, rfl, ?_, ⟨_, rfl⟩, hW, hsame.mono (by decide) (by decide)⟩
          · show Steps p.tables e below (s₁.setTop (mkF m 66 #[.val (.int p1), .val (.int (-1 : Int32))] [(.int (-1 : Int32))])) _
            exact retI X0 hx Bd.returns (hb hby d1_66) hr
          · show Q1 Z p1 h0 n0 _ s₁.heap _
            rw [e0]
            exact ⟨(by rw [own_F1, if_neg hc5_15, if_pos hc11_36, if_pos hc25_38, if_pos hc48_40]), N0, rfl⟩
        · have pre42 : ∀ t, Steps p.tables e below (s₁.setTop (mkF m 54 #[.val (.int p1), .val (.int (-1 : Int32))] [(.int (102 : Int32)), (.int p1)])) t → Steps p.tables e below (s₁.setTop (entryFrame m #[(.int p1)] 2)) t := by
            intro t kt
            refine pre39 _ ?_
            show Steps p.tables e below (s₁.setTop (mkF m 48 #[.val (.int p1), .val (.int (-1 : Int32))] [(.int (97 : Int32)), (.int p1)])) _
            refine XS.icmpNo X0.here hx rfl (hb hby d1_48) rfl (flt hc48_40).1 ?_
            show Steps p.tables e below (s₁.setTop (mkF m 51 #[.val (.int p1), .val (.int (-1 : Int32))] [])) _
            refine XS.iloadN X0.here hx rfl (hb hby d1_51) rfl ?_
            show Steps p.tables e below (s₁.setTop (mkF m 52 #[.val (.int p1), .val (.int (-1 : Int32))] [(.int p1)])) _
            refine XS.bipush X0.here hx rfl (hb hby d1_52) ?_
            exact kt
          by_cases hc54_43 : (102 : Int32) < p1
          · have pre44 : ∀ t, Steps p.tables e below (s₁.setTop (mkF m 66 #[.val (.int p1), .val (.int (-1 : Int32))] [(.int (-1 : Int32))])) t → Steps p.tables e below (s₁.setTop (entryFrame m #[(.int p1)] 2)) t := by
              intro t kt
              refine pre42 _ ?_
              show Steps p.tables e below (s₁.setTop (mkF m 54 #[.val (.int p1), .val (.int (-1 : Int32))] [(.int (102 : Int32)), (.int p1)])) _
              refine XS.icmpYes X0.here hx rfl (pc0 := 54) (pc' := 65) rfl (hb hby d1_54) rfl (tlt hc54_43).2.2.1 (by decide) (by decide) ?_
              show Steps p.tables e below (s₁.setTop (mkF m 65 #[.val (.int p1), .val (.int (-1 : Int32))] [])) _
              refine XS.iloadN X0.here hx rfl (hb hby d1_65) rfl ?_
              exact kt
            obtain ⟨fs, hr, hrun, hended, hW, hsame⟩ := X0.leave (v := some (.int (-1 : Int32))) (fun h => by rw [Bd.returns] at h; cases h)
            refine ⟨_, _, pre44 _ ?_, hrun, hended, _, _, rfl, ?_, ⟨_, rfl⟩, hW, hsame.mono (by decide) (by decide)⟩
            · show Steps p.tables e below (s₁.setTop (mkF m 66 #[.val (.int p1), .val (.int (-1 : Int32))] [(.int (-1 : Int32))])) _
              exact retI X0 hx Bd.returns (hb hby d1_66) hr
            · show Q1 Z p1 h0 n0 _ s₁.heap _
              rw [e0]
              exact ⟨(by rw [own_F1, if_neg hc5_15, if_pos hc11_36, if_pos hc25_38, if_neg hc48_40, if_pos hc54_43]), N0, rfl⟩
          · have pre45 : ∀ t, Steps p.tables e below (s₁.setTop (mkF m 66 #[.val (.int p1), .val (.int ((p1 - (97 : Int32)) + (10 : Int32)))] [(.int ((p1 - (97 : Int32)) + (10 : Int32)))])) t → Steps p.tables e below (s₁.setTop (entryFrame m #[(.int p1)] 2)) t := by
              intro t kt
              refine pre42 _ ?_
              show Steps p.tables e below (s₁.setTop (mkF m 54 #[.val (.int p1), .val (.int (-1 : Int32))] [(.int (102 : Int32)), (.int p1)])) _
              refine XS.icmpNo X0.here hx rfl (hb hby d1_54) rfl (flt hc54_43).2.2.1 ?_
              show Steps p.tables e below (s₁.setTop (mkF m 57 #[.val (.int p1), .val (.int (-1 : Int32))] [])) _
              refine XS.iloadN X0.here hx rfl (hb hby d1_57) rfl ?_
              show Steps p.tables e below (s₁.setTop (mkF m 58 #[.val (.int p1), .val (.int (-1 : Int32))] [(.int p1)])) _
              refine XS.bipush X0.here hx rfl (hb hby d1_58) ?_
              show Steps p.tables e below (s₁.setTop (mkF m 60 #[.val (.int p1), .val (.int (-1 : Int32))] [(.int (97 : Int32)), (.int p1)])) _
              refine XS.isub X0.here hx rfl (hb hby d1_60) rfl ?_
              show Steps p.tables e below (s₁.setTop (mkF m 61 #[.val (.int p1), .val (.int (-1 : Int32))] [(.int (p1 - (97 : Int32)))])) _
              refine XS.bipush X0.here hx rfl (hb hby d1_61) ?_
              show Steps p.tables e below (s₁.setTop (mkF m 63 #[.val (.int p1), .val (.int (-1 : Int32))] [(.int (10 : Int32)), (.int (p1 - (97 : Int32)))])) _
              refine XS.iadd X0.here hx rfl (hb hby d1_63) rfl ?_
              show Steps p.tables e below (s₁.setTop (mkF m 64 #[.val (.int p1), .val (.int (-1 : Int32))] [(.int ((p1 - (97 : Int32)) + (10 : Int32)))])) _
              refine XS.istoreN X0.here hx rfl (hb hby d1_64) rfl (l' := #[.val (.int p1), .val (.int ((p1 - (97 : Int32)) + (10 : Int32)))]) rfl ?_
              show Steps p.tables e below (s₁.setTop (mkF m 65 #[.val (.int p1), .val (.int ((p1 - (97 : Int32)) + (10 : Int32)))] [])) _
              refine XS.iloadN X0.here hx rfl (hb hby d1_65) rfl ?_
              exact kt
            obtain ⟨fs, hr, hrun, hended, hW, hsame⟩ := X0.leave (v := some (.int ((p1 - (97 : Int32)) + (10 : Int32)))) (fun h => by rw [Bd.returns] at h; cases h)
            refine ⟨_, _, pre45 _ ?_, hrun, hended, _, _, rfl, ?_, ⟨_, rfl⟩, hW, hsame.mono (by decide) (by decide)⟩
            · show Steps p.tables e below (s₁.setTop (mkF m 66 #[.val (.int p1), .val (.int ((p1 - (97 : Int32)) + (10 : Int32)))] [(.int ((p1 - (97 : Int32)) + (10 : Int32)))])) _
              exact retI X0 hx Bd.returns (hb hby d1_66) hr
            · show Q1 Z p1 h0 n0 _ s₁.heap _
              rw [e0]
              exact ⟨(by rw [own_F1, if_neg hc5_15, if_pos hc11_36, if_pos hc25_38, if_neg hc48_40, if_neg hc54_43]), N0, rfl⟩
      · have pre46 : ∀ t, Steps p.tables e below (s₁.setTop (mkF m 31 #[.val (.int p1), .val (.int (-1 : Int32))] [(.int (70 : Int32)), (.int p1)])) t → Steps p.tables e below (s₁.setTop (entryFrame m #[(.int p1)] 2)) t := by
          intro t kt
          refine pre37 _ ?_
          show Steps p.tables e below (s₁.setTop (mkF m 25 #[.val (.int p1), .val (.int (-1 : Int32))] [(.int (65 : Int32)), (.int p1)])) _
          refine XS.icmpNo X0.here hx rfl (hb hby d1_25) rfl (flt hc25_38).1 ?_
          show Steps p.tables e below (s₁.setTop (mkF m 28 #[.val (.int p1), .val (.int (-1 : Int32))] [])) _
          refine XS.iloadN X0.here hx rfl (hb hby d1_28) rfl ?_
          show Steps p.tables e below (s₁.setTop (mkF m 29 #[.val (.int p1), .val (.int (-1 : Int32))] [(.int p1)])) _
          refine XS.bipush X0.here hx rfl (hb hby d1_29) ?_
          exact kt
        by_cases hc31_47 : (70 : Int32) < p1
        · have pre48 : ∀ t, Steps p.tables e below (s₁.setTop (mkF m 48 #[.val (.int p1), .val (.int (-1 : Int32))] [(.int (97 : Int32)), (.int p1)])) t → Steps p.tables e below (s₁.setTop (entryFrame m #[(.int p1)] 2)) t := by
            intro t kt
            refine pre46 _ ?_
            show Steps p.tables e below (s₁.setTop (mkF m 31 #[.val (.int p1), .val (.int (-1 : Int32))] [(.int (70 : Int32)), (.int p1)])) _
            refine XS.icmpYes X0.here hx rfl (pc0 := 31) (pc' := 45) rfl (hb hby d1_31) rfl (tlt hc31_47).2.2.1 (by decide) (by decide) ?_
            show Steps p.tables e below (s₁.setTop (mkF m 45 #[.val (.int p1), .val (.int (-1 : Int32))] [])) _
            refine XS.iloadN X0.here hx rfl (hb hby d1_45) rfl ?_
            show Steps p.tables e below (s₁.setTop (mkF m 46 #[.val (.int p1), .val (.int (-1 : Int32))] [(.int p1)])) _
            refine XS.bipush X0.here hx rfl (hb hby d1_46) ?_
            exact kt
          by_cases hc48_49 : p1 < (97 : Int32)
          · have pre50 : ∀ t, Steps p.tables e below (s₁.setTop (mkF m 66 #[.val (.int p1), .val (.int (-1 : Int32))] [(.int (-1 : Int32))])) t → Steps p.tables e below (s₁.setTop (entryFrame m #[(.int p1)] 2)) t := by
              intro t kt
              refine pre48 _ ?_
              show Steps p.tables e below (s₁.setTop (mkF m 48 #[.val (.int p1), .val (.int (-1 : Int32))] [(.int (97 : Int32)), (.int p1)])) _
              refine XS.icmpYes X0.here hx rfl (pc0 := 48) (pc' := 65) rfl (hb hby d1_48) rfl (tlt hc48_49).1 (by decide) (by decide) ?_
              show Steps p.tables e below (s₁.setTop (mkF m 65 #[.val (.int p1), .val (.int (-1 : Int32))] [])) _
              refine XS.iloadN X0.here hx rfl (hb hby d1_65) rfl ?_
              exact kt
            obtain ⟨fs, hr, hrun, hended, hW, hsame⟩ := X0.leave (v := some (.int (-1 : Int32))) (fun h => by rw [Bd.returns] at h; cases h)
            refine ⟨_, _, pre50 _ ?_, hrun, hended, _, _, rfl, ?_, ⟨_, rfl⟩, hW, hsame.mono (by decide) (by decide)⟩
            · show Steps p.tables e below (s₁.setTop (mkF m 66 #[.val (.int p1), .val (.int (-1 : Int32))] [(.int (-1 : Int32))])) _
              exact retI X0 hx Bd.returns (hb hby d1_66) hr
            · show Q1 Z p1 h0 n0 _ s₁.heap _
              rw [e0]
              exact ⟨(by rw [own_F1, if_neg hc5_15, if_pos hc11_36, if_neg hc25_38, if_pos hc31_47, if_pos hc48_49]), N0, rfl⟩
          · have pre51 : ∀ t, Steps p.tables e below (s₁.setTop (mkF m 54 #[.val (.int p1), .val (.int (-1 : Int32))] [(.int (102 : Int32)), (.int p1)])) t → Steps p.tables e below (s₁.setTop (entryFrame m #[(.int p1)] 2)) t := by
              intro t kt
              refine pre48 _ ?_
              show Steps p.tables e below (s₁.setTop (mkF m 48 #[.val (.int p1), .val (.int (-1 : Int32))] [(.int (97 : Int32)), (.int p1)])) _
              refine XS.icmpNo X0.here hx rfl (hb hby d1_48) rfl (flt hc48_49).1 ?_
              show Steps p.tables e below (s₁.setTop (mkF m 51 #[.val (.int p1), .val (.int (-1 : Int32))] [])) _
              refine XS.iloadN X0.here hx rfl (hb hby d1_51) rfl ?_
              show Steps p.tables e below (s₁.setTop (mkF m 52 #[.val (.int p1), .val (.int (-1 : Int32))] [(.int p1)])) _
              refine XS.bipush X0.here hx rfl (hb hby d1_52) ?_
              exact kt
            by_cases hc54_52 : (102 : Int32) < p1
            · have pre53 : ∀ t, Steps p.tables e below (s₁.setTop (mkF m 66 #[.val (.int p1), .val (.int (-1 : Int32))] [(.int (-1 : Int32))])) t → Steps p.tables e below (s₁.setTop (entryFrame m #[(.int p1)] 2)) t := by
                intro t kt
                refine pre51 _ ?_
                show Steps p.tables e below (s₁.setTop (mkF m 54 #[.val (.int p1), .val (.int (-1 : Int32))] [(.int (102 : Int32)), (.int p1)])) _
                refine XS.icmpYes X0.here hx rfl (pc0 := 54) (pc' := 65) rfl (hb hby d1_54) rfl (tlt hc54_52).2.2.1 (by decide) (by decide) ?_
                show Steps p.tables e below (s₁.setTop (mkF m 65 #[.val (.int p1), .val (.int (-1 : Int32))] [])) _
                refine XS.iloadN X0.here hx rfl (hb hby d1_65) rfl ?_
                exact kt
              obtain ⟨fs, hr, hrun, hended, hW, hsame⟩ := X0.leave (v := some (.int (-1 : Int32))) (fun h => by rw [Bd.returns] at h; cases h)
              refine ⟨_, _, pre53 _ ?_, hrun, hended, _, _, rfl, ?_, ⟨_, rfl⟩, hW, hsame.mono (by decide) (by decide)⟩
              · show Steps p.tables e below (s₁.setTop (mkF m 66 #[.val (.int p1), .val (.int (-1 : Int32))] [(.int (-1 : Int32))])) _
                exact retI X0 hx Bd.returns (hb hby d1_66) hr
              · show Q1 Z p1 h0 n0 _ s₁.heap _
                rw [e0]
                exact ⟨(by rw [own_F1, if_neg hc5_15, if_pos hc11_36, if_neg hc25_38, if_pos hc31_47, if_neg hc48_49, if_pos hc54_52]), N0, rfl⟩
            · have pre54 : ∀ t, Steps p.tables e below (s₁.setTop (mkF m 66 #[.val (.int p1), .val (.int ((p1 - (97 : Int32)) + (10 : Int32)))] [(.int ((p1 - (97 : Int32)) + (10 : Int32)))])) t → Steps p.tables e below (s₁.setTop (entryFrame m #[(.int p1)] 2)) t := by
                intro t kt
                refine pre51 _ ?_
                show Steps p.tables e below (s₁.setTop (mkF m 54 #[.val (.int p1), .val (.int (-1 : Int32))] [(.int (102 : Int32)), (.int p1)])) _
                refine XS.icmpNo X0.here hx rfl (hb hby d1_54) rfl (flt hc54_52).2.2.1 ?_
                show Steps p.tables e below (s₁.setTop (mkF m 57 #[.val (.int p1), .val (.int (-1 : Int32))] [])) _
                refine XS.iloadN X0.here hx rfl (hb hby d1_57) rfl ?_
                show Steps p.tables e below (s₁.setTop (mkF m 58 #[.val (.int p1), .val (.int (-1 : Int32))] [(.int p1)])) _
                refine XS.bipush X0.here hx rfl (hb hby d1_58) ?_
                show Steps p.tables e below (s₁.setTop (mkF m 60 #[.val (.int p1), .val (.int (-1 : Int32))] [(.int (97 : Int32)), (.int p1)])) _
                refine XS.isub X0.here hx rfl (hb hby d1_60) rfl ?_
                show Steps p.tables e below (s₁.setTop (mkF m 61 #[.val (.int p1), .val (.int (-1 : Int32))] [(.int (p1 - (97 : Int32)))])) _
                refine XS.bipush X0.here hx rfl (hb hby d1_61) ?_
                show Steps p.tables e below (s₁.setTop (mkF m 63 #[.val (.int p1), .val (.int (-1 : Int32))] [(.int (10 : Int32)), (.int (p1 - (97 : Int32)))])) _
                refine XS.iadd X0.here hx rfl (hb hby d1_63) rfl ?_
                show Steps p.tables e below (s₁.setTop (mkF m 64 #[.val (.int p1), .val (.int (-1 : Int32))] [(.int ((p1 - (97 : Int32)) + (10 : Int32)))])) _
                refine XS.istoreN X0.here hx rfl (hb hby d1_64) rfl (l' := #[.val (.int p1), .val (.int ((p1 - (97 : Int32)) + (10 : Int32)))]) rfl ?_
                show Steps p.tables e below (s₁.setTop (mkF m 65 #[.val (.int p1), .val (.int ((p1 - (97 : Int32)) + (10 : Int32)))] [])) _
                refine XS.iloadN X0.here hx rfl (hb hby d1_65) rfl ?_
                exact kt
              obtain ⟨fs, hr, hrun, hended, hW, hsame⟩ := X0.leave (v := some (.int ((p1 - (97 : Int32)) + (10 : Int32)))) (fun h => by rw [Bd.returns] at h; cases h)
              refine ⟨_, _, pre54 _ ?_, hrun, hended, _, _, rfl, ?_, ⟨_, rfl⟩, hW, hsame.mono (by decide) (by decide)⟩
              · show Steps p.tables e below (s₁.setTop (mkF m 66 #[.val (.int p1), .val (.int ((p1 - (97 : Int32)) + (10 : Int32)))] [(.int ((p1 - (97 : Int32)) + (10 : Int32)))])) _
                exact retI X0 hx Bd.returns (hb hby d1_66) hr
              · show Q1 Z p1 h0 n0 _ s₁.heap _
                rw [e0]
                exact ⟨(by rw [own_F1, if_neg hc5_15, if_pos hc11_36, if_neg hc25_38, if_pos hc31_47, if_neg hc48_49, if_neg hc54_52]), N0, rfl⟩
        · have pre55 : ∀ t, Steps p.tables e below (s₁.setTop (mkF m 66 #[.val (.int p1), .val (.int ((p1 - (65 : Int32)) + (10 : Int32)))] [(.int ((p1 - (65 : Int32)) + (10 : Int32)))])) t → Steps p.tables e below (s₁.setTop (entryFrame m #[(.int p1)] 2)) t := by
            intro t kt
            refine pre46 _ ?_
            show Steps p.tables e below (s₁.setTop (mkF m 31 #[.val (.int p1), .val (.int (-1 : Int32))] [(.int (70 : Int32)), (.int p1)])) _
            refine XS.icmpNo X0.here hx rfl (hb hby d1_31) rfl (flt hc31_47).2.2.1 ?_
            show Steps p.tables e below (s₁.setTop (mkF m 34 #[.val (.int p1), .val (.int (-1 : Int32))] [])) _
            refine XS.iloadN X0.here hx rfl (hb hby d1_34) rfl ?_
            show Steps p.tables e below (s₁.setTop (mkF m 35 #[.val (.int p1), .val (.int (-1 : Int32))] [(.int p1)])) _
            refine XS.bipush X0.here hx rfl (hb hby d1_35) ?_
            show Steps p.tables e below (s₁.setTop (mkF m 37 #[.val (.int p1), .val (.int (-1 : Int32))] [(.int (65 : Int32)), (.int p1)])) _
            refine XS.isub X0.here hx rfl (hb hby d1_37) rfl ?_
            show Steps p.tables e below (s₁.setTop (mkF m 38 #[.val (.int p1), .val (.int (-1 : Int32))] [(.int (p1 - (65 : Int32)))])) _
            refine XS.bipush X0.here hx rfl (hb hby d1_38) ?_
            show Steps p.tables e below (s₁.setTop (mkF m 40 #[.val (.int p1), .val (.int (-1 : Int32))] [(.int (10 : Int32)), (.int (p1 - (65 : Int32)))])) _
            refine XS.iadd X0.here hx rfl (hb hby d1_40) rfl ?_
            show Steps p.tables e below (s₁.setTop (mkF m 41 #[.val (.int p1), .val (.int (-1 : Int32))] [(.int ((p1 - (65 : Int32)) + (10 : Int32)))])) _
            refine XS.istoreN X0.here hx rfl (hb hby d1_41) rfl (l' := #[.val (.int p1), .val (.int ((p1 - (65 : Int32)) + (10 : Int32)))]) rfl ?_
            show Steps p.tables e below (s₁.setTop (mkF m 42 #[.val (.int p1), .val (.int ((p1 - (65 : Int32)) + (10 : Int32)))] [])) _
            refine XS.goto X0.here hx rfl (pc0 := 42) (pc' := 65) rfl (hb hby d1_42) (by decide) (by decide) ?_
            show Steps p.tables e below (s₁.setTop (mkF m 65 #[.val (.int p1), .val (.int ((p1 - (65 : Int32)) + (10 : Int32)))] [])) _
            refine XS.iloadN X0.here hx rfl (hb hby d1_65) rfl ?_
            exact kt
          obtain ⟨fs, hr, hrun, hended, hW, hsame⟩ := X0.leave (v := some (.int ((p1 - (65 : Int32)) + (10 : Int32)))) (fun h => by rw [Bd.returns] at h; cases h)
          refine ⟨_, _, pre55 _ ?_, hrun, hended, _, _, rfl, ?_, ⟨_, rfl⟩, hW, hsame.mono (by decide) (by decide)⟩
          · show Steps p.tables e below (s₁.setTop (mkF m 66 #[.val (.int p1), .val (.int ((p1 - (65 : Int32)) + (10 : Int32)))] [(.int ((p1 - (65 : Int32)) + (10 : Int32)))])) _
            exact retI X0 hx Bd.returns (hb hby d1_66) hr
          · show Q1 Z p1 h0 n0 _ s₁.heap _
            rw [e0]
            exact ⟨(by rw [own_F1, if_neg hc5_15, if_pos hc11_36, if_neg hc25_38, if_neg hc31_47]), N0, rfl⟩
    · have pre56 : ∀ t, Steps p.tables e below (s₁.setTop (mkF m 66 #[.val (.int p1), .val (.int (p1 - (48 : Int32)))] [(.int (p1 - (48 : Int32)))])) t → Steps p.tables e below (s₁.setTop (entryFrame m #[(.int p1)] 2)) t := by
        intro t kt
        refine pre35 _ ?_
        show Steps p.tables e below (s₁.setTop (mkF m 11 #[.val (.int p1), .val (.int (-1 : Int32))] [(.int (57 : Int32)), (.int p1)])) _
        refine XS.icmpNo X0.here hx rfl (hb hby d1_11) rfl (flt hc11_36).2.2.1 ?_
        show Steps p.tables e below (s₁.setTop (mkF m 14 #[.val (.int p1), .val (.int (-1 : Int32))] [])) _
        refine XS.iloadN X0.here hx rfl (hb hby d1_14) rfl ?_
        show Steps p.tables e below (s₁.setTop (mkF m 15 #[.val (.int p1), .val (.int (-1 : Int32))] [(.int p1)])) _
        refine XS.bipush X0.here hx rfl (hb hby d1_15) ?_
        show Steps p.tables e below (s₁.setTop (mkF m 17 #[.val (.int p1), .val (.int (-1 : Int32))] [(.int (48 : Int32)), (.int p1)])) _
        refine XS.isub X0.here hx rfl (hb hby d1_17) rfl ?_
        show Steps p.tables e below (s₁.setTop (mkF m 18 #[.val (.int p1), .val (.int (-1 : Int32))] [(.int (p1 - (48 : Int32)))])) _
        refine XS.istoreN X0.here hx rfl (hb hby d1_18) rfl (l' := #[.val (.int p1), .val (.int (p1 - (48 : Int32)))]) rfl ?_
        show Steps p.tables e below (s₁.setTop (mkF m 19 #[.val (.int p1), .val (.int (p1 - (48 : Int32)))] [])) _
        refine XS.goto X0.here hx rfl (pc0 := 19) (pc' := 65) rfl (hb hby d1_19) (by decide) (by decide) ?_
        show Steps p.tables e below (s₁.setTop (mkF m 65 #[.val (.int p1), .val (.int (p1 - (48 : Int32)))] [])) _
        refine XS.iloadN X0.here hx rfl (hb hby d1_65) rfl ?_
        exact kt
      obtain ⟨fs, hr, hrun, hended, hW, hsame⟩ := X0.leave (v := some (.int (p1 - (48 : Int32)))) (fun h => by rw [Bd.returns] at h; cases h)
      refine ⟨_, _, pre56 _ ?_, hrun, hended, _, _, rfl, ?_, ⟨_, rfl⟩, hW, hsame.mono (by decide) (by decide)⟩
      · show Steps p.tables e below (s₁.setTop (mkF m 66 #[.val (.int p1), .val (.int (p1 - (48 : Int32)))] [(.int (p1 - (48 : Int32)))])) _
        exact retI X0 hx Bd.returns (hb hby d1_66) hr
      · show Q1 Z p1 h0 n0 _ s₁.heap _
        rw [e0]
        exact ⟨(by rw [own_F1, if_neg hc5_15, if_neg hc11_36]), N0, rfl⟩
def own_u (i : Int32) : Int32 := if i < (10 : Int32) then i + (48 : Int32) else i + (55 : Int32)
def own_l (i : Int32) : Int32 := if i < (10 : Int32) then i + (48 : Int32) else i + (87 : Int32)
def own_m (i : Int32) : Int32 := if i < (10 : Int32) then i + (48 : Int32) else if i < (16 : Int32) then i + (55 : Int32) else i + (81 : Int32)
theorem own_small {P : Int32 → Prop} (k : Nat) (hk : k < 2147483648) (h : ∀ n : Nat, n < k → P n.toInt32) (j : Int32) (h1 : ¬ j < (0 : Int32)) (h2 : j.toInt < k) : P j := by
  have q := nat_of h1
  have k2 : j.toNatClampNeg.toInt32 = j := by
    apply Int32.toInt_inj.mp
    rw [len_toInt (by omega)]
    exact q.symm
  have := h j.toNatClampNeg (by omega)
  rwa [k2] at this
theorem own_ct (w : Int32) (h : ¬ w < (0 : Int32)) (h2 : w.toInt < (128 : Nat)) : nar .char (own_chr w) = w := own_small (P := fun w => nar .char (own_chr w) = w) 128 (by decide) (by decide +kernel) w h h2
theorem own_atU (j : Int32) (h1 : ¬ j < (0 : Int32)) (h2 : j < (16 : Int32)) : ([Value.int (48 : Int32), Value.int (49 : Int32), Value.int (50 : Int32), Value.int (51 : Int32), Value.int (52 : Int32), Value.int (53 : Int32), Value.int (54 : Int32), Value.int (55 : Int32), Value.int (56 : Int32), Value.int (57 : Int32), Value.int (65 : Int32), Value.int (66 : Int32), Value.int (67 : Int32), Value.int (68 : Int32), Value.int (69 : Int32), Value.int (70 : Int32)] : List Value).getD j.toNatClampNeg (.int 0) = .int (own_u j) ∧ nar .char (own_chr (own_u j)) = own_u j := by
  have e : (16 : Int32).toInt = 16 := rfl
  refine own_small (P := fun j => ([Value.int (48 : Int32), Value.int (49 : Int32), Value.int (50 : Int32), Value.int (51 : Int32), Value.int (52 : Int32), Value.int (53 : Int32), Value.int (54 : Int32), Value.int (55 : Int32), Value.int (56 : Int32), Value.int (57 : Int32), Value.int (65 : Int32), Value.int (66 : Int32), Value.int (67 : Int32), Value.int (68 : Int32), Value.int (69 : Int32), Value.int (70 : Int32)] : List Value).getD j.toNatClampNeg (.int 0) = .int (own_u j) ∧ nar .char (own_chr (own_u j)) = own_u j) 16 (by decide) (by decide +kernel) j h1 ?_
  rw [Int32.lt_iff_toInt_lt, e] at h2
  exact h2
theorem own_atL (j : Int32) (h1 : ¬ j < (0 : Int32)) (h2 : j < (16 : Int32)) : ([Value.int (48 : Int32), Value.int (49 : Int32), Value.int (50 : Int32), Value.int (51 : Int32), Value.int (52 : Int32), Value.int (53 : Int32), Value.int (54 : Int32), Value.int (55 : Int32), Value.int (56 : Int32), Value.int (57 : Int32), Value.int (97 : Int32), Value.int (98 : Int32), Value.int (99 : Int32), Value.int (100 : Int32), Value.int (101 : Int32), Value.int (102 : Int32)] : List Value).getD j.toNatClampNeg (.int 0) = .int (own_l j) ∧ nar .char (own_chr (own_l j)) = own_l j := by
  have e : (16 : Int32).toInt = 16 := rfl
  refine own_small (P := fun j => ([Value.int (48 : Int32), Value.int (49 : Int32), Value.int (50 : Int32), Value.int (51 : Int32), Value.int (52 : Int32), Value.int (53 : Int32), Value.int (54 : Int32), Value.int (55 : Int32), Value.int (56 : Int32), Value.int (57 : Int32), Value.int (97 : Int32), Value.int (98 : Int32), Value.int (99 : Int32), Value.int (100 : Int32), Value.int (101 : Int32), Value.int (102 : Int32)] : List Value).getD j.toNatClampNeg (.int 0) = .int (own_l j) ∧ nar .char (own_chr (own_l j)) = own_l j) 16 (by decide) (by decide +kernel) j h1 ?_
  rw [Int32.lt_iff_toInt_lt, e] at h2
  exact h2
theorem own_atM (j : Int32) (h1 : ¬ j < (0 : Int32)) (h2 : j < (22 : Int32)) : ([Value.int (48 : Int32), Value.int (49 : Int32), Value.int (50 : Int32), Value.int (51 : Int32), Value.int (52 : Int32), Value.int (53 : Int32), Value.int (54 : Int32), Value.int (55 : Int32), Value.int (56 : Int32), Value.int (57 : Int32), Value.int (65 : Int32), Value.int (66 : Int32), Value.int (67 : Int32), Value.int (68 : Int32), Value.int (69 : Int32), Value.int (70 : Int32), Value.int (97 : Int32), Value.int (98 : Int32), Value.int (99 : Int32), Value.int (100 : Int32), Value.int (101 : Int32), Value.int (102 : Int32)] : List Value).getD j.toNatClampNeg (.int 0) = .int (own_m j) ∧ nar .char (own_chr (own_m j)) = own_m j := by
  have e : (22 : Int32).toInt = 22 := rfl
  refine own_small (P := fun j => ([Value.int (48 : Int32), Value.int (49 : Int32), Value.int (50 : Int32), Value.int (51 : Int32), Value.int (52 : Int32), Value.int (53 : Int32), Value.int (54 : Int32), Value.int (55 : Int32), Value.int (56 : Int32), Value.int (57 : Int32), Value.int (65 : Int32), Value.int (66 : Int32), Value.int (67 : Int32), Value.int (68 : Int32), Value.int (69 : Int32), Value.int (70 : Int32), Value.int (97 : Int32), Value.int (98 : Int32), Value.int (99 : Int32), Value.int (100 : Int32), Value.int (101 : Int32), Value.int (102 : Int32)] : List Value).getD j.toNatClampNeg (.int 0) = .int (own_m j) ∧ nar .char (own_chr (own_m j)) = own_m j) 22 (by decide) (by decide +kernel) j h1 ?_
  rw [Int32.lt_iff_toInt_lt, e] at h2
  exact h2
theorem own_hxr (c : Int32) (h : ¬ c < (0 : Int32)) (hn : ¬ own_F1 c = (-1 : Int32)) : ¬ own_F1 c < (0 : Int32) ∧ own_F1 c < (16 : Int32) ∧ (c = own_u (own_F1 c) ∨ c = own_l (own_F1 c)) := by
  have e48 : (48 : Int32).toInt = 48 := rfl
  have e57 : (57 : Int32).toInt = 57 := rfl
  have e65 : (65 : Int32).toInt = 65 := rfl
  have e70 : (70 : Int32).toInt = 70 := rfl
  have e97 : (97 : Int32).toInt = 97 := rfl
  have e102 : (102 : Int32).toInt = 102 := rfl
  have e10 : (10 : Int32).toInt = 10 := rfl
  have e16 : (16 : Int32).toInt = 16 := rfl
  have e0 : (0 : Int32).toInt = 0 := rfl
  have em1 : (-1 : Int32).toInt = -1 := rfl
  have e55 : (55 : Int32).toInt = 55 := rfl
  have e87 : (87 : Int32).toInt = 87 := rfl
  unfold own_F1 at hn ⊢
  unfold own_u own_l
  by_cases a1 : c < (48 : Int32)
  · have b1 : c < (65 : Int32) := by rw [Int32.lt_iff_toInt_lt] at a1 ⊢; omega
    have b2 : c < (97 : Int32) := by rw [Int32.lt_iff_toInt_lt] at a1 ⊢; omega
    simp [a1, b1, b2] at hn
  · by_cases a2 : (57 : Int32) < c
    · by_cases a3 : c < (65 : Int32)
      · have b2 : c < (97 : Int32) := by rw [Int32.lt_iff_toInt_lt] at a3 ⊢; omega
        simp [a1, a2, a3, b2] at hn
      · by_cases a4 : (70 : Int32) < c
        · by_cases a5 : c < (97 : Int32)
          · simp [a1, a2, a3, a4, a5] at hn
          · by_cases a6 : (102 : Int32) < c
            · simp [a1, a2, a3, a4, a5, a6] at hn
            · simp only [a1, a2, a3, a4, a5, a6, if_true, if_false]
              have q1 := c_isub c 97
              have q2 := c_iadd (c - 97) 10
              have r1 := rng32 (c - 97)
              have r2 := rng32 (c - 97 + 10)
              rw [Int32.lt_iff_toInt_lt] at a5 a6
              have z1 : ¬ (c - 97 + 10) < (10 : Int32) := by rw [Int32.lt_iff_toInt_lt]; omega
              refine ⟨by rw [Int32.lt_iff_toInt_lt]; omega, by rw [Int32.lt_iff_toInt_lt]; omega, Or.inr ?_⟩
              rw [if_neg z1]
              have q3 := c_iadd (c - 97 + 10) 87
              have r3 := rng32 (c - 97 + 10 + 87)
              have rc := rng32 c
              apply Int32.toInt_inj.mp
              omega
        · simp only [a1, a2, a3, a4, if_true, if_false]
          have q1 := c_isub c 65
          have q2 := c_iadd (c - 65) 10
          have r1 := rng32 (c - 65)
          have r2 := rng32 (c - 65 + 10)
          rw [Int32.lt_iff_toInt_lt] at a3 a4
          have z1 : ¬ (c - 65 + 10) < (10 : Int32) := by rw [Int32.lt_iff_toInt_lt]; omega
          refine ⟨by rw [Int32.lt_iff_toInt_lt]; omega, by rw [Int32.lt_iff_toInt_lt]; omega, Or.inl ?_⟩
          rw [if_neg z1]
          have q3 := c_iadd (c - 65 + 10) 55
          have r3 := rng32 (c - 65 + 10 + 55)
          have rc := rng32 c
          apply Int32.toInt_inj.mp
          omega
    · simp only [a1, a2, if_true, if_false]
      have q1 := c_isub c 48
      have r1 := rng32 (c - 48)
      rw [Int32.lt_iff_toInt_lt] at a1 a2
      have z1 : (c - 48) < (10 : Int32) := by rw [Int32.lt_iff_toInt_lt]; omega
      refine ⟨by rw [Int32.lt_iff_toInt_lt]; omega, by rw [Int32.lt_iff_toInt_lt]; omega, Or.inl ?_⟩
      rw [if_pos z1]
      have q3 := c_iadd (c - 48) 48
      have r3 := rng32 (c - 48 + 48)
      have rc := rng32 c
      apply Int32.toInt_inj.mp
      omega
theorem own_back (j : Int32) (h1 : ¬ j < (0 : Int32)) (h2 : j < (22 : Int32)) : own_F1 (own_m j) = (if j < (16 : Int32) then j else (j - (6 : Int32))) := by
  have e : (22 : Int32).toInt = 22 := rfl
  refine own_small (P := fun j => own_F1 (own_m j) = (if j < (16 : Int32) then j else (j - (6 : Int32)))) 22 (by decide) (by decide +kernel) j h1 ?_
  rw [Int32.lt_iff_toInt_lt, e] at h2
  exact h2
theorem own_ix (x : Int32) : ¬ ((x &&& (2147483647 : Int32)) % (22 : Int32)) < (0 : Int32) ∧ ((x &&& (2147483647 : Int32)) % (22 : Int32)) < (22 : Int32) := by
  have h1 := c_mask x 2147483647 31 (by decide) (by decide)
  have h2 := c_irem (x &&& 2147483647) 22 22 rfl
  have e0 : (0 : Int32).toInt = 0 := rfl
  have e22 : (22 : Int32).toInt = 22 := rfl
  have e : ((2 ^ 31 : Nat) : Int) = 2147483648 := rfl
  rw [e] at h1
  rw [Int32.lt_iff_toInt_lt, Int32.lt_iff_toInt_lt, e0, e22]
  omega
theorem own_c0 (x : Int32) : ¬ (x.toUInt32.toUInt16.toUInt32.toInt32) < (0 : Int32) := by
  have h := c_i2c x
  have e0 : (0 : Int32).toInt = 0 := rfl
  rw [Int32.lt_iff_toInt_lt, e0]
  omega
theorem own_low {c v : Int32} (h1 : ¬ v < (0 : Int32)) (h2 : v < (16 : Int32)) (h3 : c = own_u v ∨ c = own_l v) (hn : ¬ c = nar .char (own_chr (own_u v))) : c = nar .char (own_chr (own_l v)) := by
  rw [(own_atU v h1 h2).2] at hn
  rw [(own_atL v h1 h2).2]
  rcases h3 with h | h
  · exact absurd h hn
  · exact h
theorem own_m0 (j : Int32) (h1 : ¬ j < (0 : Int32)) (h2 : j < (22 : Int32)) : own_F1 (nar .char (own_chr (own_m j))) = (if j < (16 : Int32) then j else (j - (6 : Int32))) := by
  rw [(own_atM j h1 h2).2]; exact own_back j h1 h2
theorem pd_4 : parseMethodDescriptor "(C)I" = some ⟨[.char], some .int⟩ := by decide +kernel
theorem pd_5 : parseMethodDescriptor "(I)C" = some ⟨[.int], some .char⟩ := by decide +kernel
theorem pn_0 : plainName "com/example/elemento/elemento/PercentEncodingHexValuePinLaw" = true := by first | (simp [plainName, overriddenIn]; done) | decide +kernel
theorem ef_0 (m : MethodId) (x0 : Int32) (x1 : Int32) : entryFrame m #[(.int x0), (.int x1)] maxLocals = mkF m 0 #[.val (.int x0), .val (.int x1), .unset, .unset, .unset, .unset, .unset, .unset] [] := by first | (simp [entryFrame, mkF, argsToLocals, Value.category, maxLocals]; done) | rfl
def Q0 (Z : State) (p1 : Int32) (p2 : Int32) (cs : Int32) (vf : Value) (h0 : Heap) (n0 : Nat) (v : Option Value) (h : Heap) (L : List Loc) : Prop := v = some (.int (1 : Int32)) ∧ Fr n0 L
set_option maxRecDepth 65536 in
set_option maxHeartbeats 40000000 in
theorem rm0 (l : Launch) (Z : State) (a0 : Array Value) (hw : ∀ d ∈ tables_1, d.before a0 Z = true) (ws : List Jvm.Cond) (p1 : Int32) (p2 : Int32) (cs : Int32) (vf : Value) (h0 : Heap) (n0 : Nat) (Z0 : n0 ≤ h0.size) (SC : Sta Z h0 "java/lang/String" "COMPACT_STRINGS" "Z" (.int cs)) (hcs : ¬ cs = (0 : Int32)) (SF : Sta Z h0 "jdk/internal/util/Preconditions" "SIOOBE_FORMATTER" "Ljava/util/function/BiFunction;" vf) (hvf : vf.isRef = true) (hn0 : n0 = h0.size) (hkeep : ∀ (b : Addr) (cl : Cell), Z.heap[b]? = some cl → h0[b]? = some cl) (hcw : Jvm.Lit.compactW.before a0 Z = true) (hch : ∀ p ∈ consts_1, Jvm.Lit.constHeld Z p.1 p.2) (wS : ∀ a ∈ Bundle.stringAtoms, a.before a0 Z = true) :
    MetFree l x (head1 (Jvm.Cond.code x code maxLocals ret :: ws) room_1) (fun a U => a = #[(.int p1), (.int p2)] ∧ Z.Warmed39 U.vm ∧ U.heap = h0 ∧ IB Z U.vm []) (fun _ _ _ _ _ => True) (fun _ U o U' => ∃ v L, o = .returned v ∧ Q0 Z p1 p2 cs vf h0 n0 v U'.heap L ∧ ReturnedEndW U o U' L room_1.cells room_1.slots) := by
  refine MetFree.of_bodySF (plainFor_of_name pn_0) hisR ?_
  intro p e s m args below meth c s₁ Bd hml0 hP hK
  obtain ⟨rfl, hZ, hh, hIB0⟩ := hP
  have hx := Bd.exec
  have hby := Bd.bytes
  have hml : c.maxLocals = 8 := hml0
  have hown : s.vm.findClass "com/example/elemento/elemento/PercentEncodingHexValuePinLaw" = some m.cls := findClass_of_methodNamed Bd.named
  have hnm := (name_of_methodNamed Bd.named Bd.method).1
  have X0 : Stand p l e room_1 (s.setVm s.vm) m #[(.int p1), (.int p2)] below meth c s₁ [] 0 0 := by rw [State.setVm_self]; exact Stand.of_body Bd
  have e0 : s₁.heap = h0 := by rw [← hh, Bd.state]; rfl
  have N0 := Fr.nil n0
  have pre0 : ∀ t, Steps p.tables e below (s₁.setTop (mkF m 0 #[.val (.int p1), .val (.int p2), .unset, .unset, .unset, .unset, .unset, .unset] [])) t → Steps p.tables e below (s₁.setTop (entryFrame m #[(.int p1), (.int p2)] maxLocals)) t := fun t k => castTop (ef_0 m p1 p2) k
  have hS0 : s.Since s.vm 0 := (State.WarmedH.refl s).since 0
  have hk0 : 0 ≤ h0.size := Nat.zero_le _
  have hn1 : n0 = s.heap.size := by rw [hh, hn0]
  have hkp : ∀ (b : Addr) (cl : Cell), Z.heap[b]? = some cl → s.heap[b]? = some cl := by rw [hh]; exact hkeep
  obtain ⟨_, _, ⟨T57, L57, k57, n57⟩, -, X57, ⟨Lc57, hQ57, l57, y57, z57⟩, st57⟩ := Jvm.LawKit.callS X0 hx (y := (⟨"com/example/elemento/elemento/PercentEncoding", "hexValue", "(C)I"⟩ : MethodName)) hown (mvT hZ (hw _ (List.mem_of_getElem? (i := 1) rfl))) (mvT hZ (hw _ (List.mem_of_getElem? (i := 2) rfl))) (mvT hZ (hw _ (List.mem_of_getElem? (i := 3) rfl))) (mvT hZ (hw _ (List.mem_of_getElem? (i := 4) rfl))) (by decide) (backOf (W := 0) (rm1 l Z a0 hw [] ((p1 &&& (65535 : Int32)).toUInt32.toUInt16.toUInt32.toInt32) h0 n0 Z0) hZ (hw _ (List.mem_of_getElem? (i := 4) rfl)) (hw _ (List.mem_of_getElem? (i := 3) rfl)) (by decide) (by decide)) (g := (mkF m 7 #[.val (.int p1), .val (.int p2), .val (.int ((p1 &&& (65535 : Int32)).toUInt32.toUInt16.toUInt32.toInt32)), .unset, .unset, .unset, .unset, .unset] [(.int ((p1 &&& (65535 : Int32)).toUInt32.toUInt16.toUInt32.toInt32))])) rfl (by rw [hml]; rfl) (argsL := [(.int ((p1 &&& (65535 : Int32)).toUInt32.toUInt16.toUInt32.toInt32))]) (rest := []) (lenOf pd_4 rfl) rfl (by show 2 * 0 + _ ≤ _; exact Nat.le_of_eq rfl) (hb hby at_7) (fun _ _ => ⟨rfl, e0, (by decide : 0 + 0 ≤ _), (by decide : 0 + 0 ≤ _)⟩)
  dsimp only [Pt.U, Pt.locs, Pt.cells, Pt.slots] at X57 l57 y57 z57 st57 hQ57
  subst l57 y57 z57
  obtain ⟨rfl, N57q, e57⟩ := hQ57
  have N57 := Fr.app N0 N57q
  have pre58 : ∀ t, Steps p.tables e below (T57.setTop (mkF m 13 #[.val (.int p1), .val (.int p2), .val (.int ((p1 &&& (65535 : Int32)).toUInt32.toUInt16.toUInt32.toInt32)), .val (.int (own_F1 ((p1 &&& (65535 : Int32)).toUInt32.toUInt16.toUInt32.toInt32))), .unset, .unset, .unset, .unset] [(.int (-1 : Int32)), (.int (own_F1 ((p1 &&& (65535 : Int32)).toUInt32.toUInt16.toUInt32.toInt32)))])) t → Steps p.tables e below (s₁.setTop (entryFrame m #[(.int p1), (.int p2)] maxLocals)) t := by
    intro t kt
    refine pre0 _ ?_
    show Steps p.tables e below (s₁.setTop (mkF m 0 #[.val (.int p1), .val (.int p2), .unset, .unset, .unset, .unset, .unset, .unset] [])) _
    refine XS.iloadN X0.here hx rfl (hb hby at_0) rfl ?_
    show Steps p.tables e below (s₁.setTop (mkF m 1 #[.val (.int p1), .val (.int p2), .unset, .unset, .unset, .unset, .unset, .unset] [(.int p1)])) _
    refine X0.ldcInt hx hown (mvT hZ (hw _ (List.mem_of_getElem? (i := 0) rfl))) (g := (mkF m 1 #[.val (.int p1), .val (.int p2), .unset, .unset, .unset, .unset, .unset, .unset] [(.int p1)])) rfl (hb hby at_1) _ ?_
    show Steps p.tables e below (s₁.setTop (mkF m 3 #[.val (.int p1), .val (.int p2), .unset, .unset, .unset, .unset, .unset, .unset] [(.int (65535 : Int32)), (.int p1)])) _
    refine XS.iand X0.here hx rfl (hb hby at_3) rfl ?_
    show Steps p.tables e below (s₁.setTop (mkF m 4 #[.val (.int p1), .val (.int p2), .unset, .unset, .unset, .unset, .unset, .unset] [(.int (p1 &&& (65535 : Int32)))])) _
    refine XS.i2c X0.here hx rfl (hb hby at_4) rfl ?_
    show Steps p.tables e below (s₁.setTop (mkF m 5 #[.val (.int p1), .val (.int p2), .unset, .unset, .unset, .unset, .unset, .unset] [(.int ((p1 &&& (65535 : Int32)).toUInt32.toUInt16.toUInt32.toInt32))])) _
    refine XS.istoreN X0.here hx rfl (hb hby at_5) rfl (l' := #[.val (.int p1), .val (.int p2), .val (.int ((p1 &&& (65535 : Int32)).toUInt32.toUInt16.toUInt32.toInt32)), .unset, .unset, .unset, .unset, .unset]) rfl ?_
    show Steps p.tables e below (s₁.setTop (mkF m 6 #[.val (.int p1), .val (.int p2), .val (.int ((p1 &&& (65535 : Int32)).toUInt32.toUInt16.toUInt32.toInt32)), .unset, .unset, .unset, .unset, .unset] [])) _
    refine XS.iloadN X0.here hx rfl (hb hby at_6) rfl ?_
    show Steps p.tables e below (s₁.setTop (mkF m 7 #[.val (.int p1), .val (.int p2), .val (.int ((p1 &&& (65535 : Int32)).toUInt32.toUInt16.toUInt32.toInt32)), .unset, .unset, .unset, .unset, .unset] [(.int ((p1 &&& (65535 : Int32)).toUInt32.toUInt16.toUInt32.toInt32))])) _
    refine st57 _ ?_
    show Steps p.tables e below (T57.setTop (mkF m 10 #[.val (.int p1), .val (.int p2), .val (.int ((p1 &&& (65535 : Int32)).toUInt32.toUInt16.toUInt32.toInt32)), .unset, .unset, .unset, .unset, .unset] [(.int (own_F1 ((p1 &&& (65535 : Int32)).toUInt32.toUInt16.toUInt32.toInt32)))])) _
    refine XS.istoreN X57.here hx rfl (hb hby at_10) rfl (l' := #[.val (.int p1), .val (.int p2), .val (.int ((p1 &&& (65535 : Int32)).toUInt32.toUInt16.toUInt32.toInt32)), .val (.int (own_F1 ((p1 &&& (65535 : Int32)).toUInt32.toUInt16.toUInt32.toInt32))), .unset, .unset, .unset, .unset]) rfl ?_
    show Steps p.tables e below (T57.setTop (mkF m 11 #[.val (.int p1), .val (.int p2), .val (.int ((p1 &&& (65535 : Int32)).toUInt32.toUInt16.toUInt32.toInt32)), .val (.int (own_F1 ((p1 &&& (65535 : Int32)).toUInt32.toUInt16.toUInt32.toInt32))), .unset, .unset, .unset, .unset] [])) _
    refine XS.iloadN X57.here hx rfl (hb hby at_11) rfl ?_
    show Steps p.tables e below (T57.setTop (mkF m 12 #[.val (.int p1), .val (.int p2), .val (.int ((p1 &&& (65535 : Int32)).toUInt32.toUInt16.toUInt32.toInt32)), .val (.int (own_F1 ((p1 &&& (65535 : Int32)).toUInt32.toUInt16.toUInt32.toInt32))), .unset, .unset, .unset, .unset] [(.int (own_F1 ((p1 &&& (65535 : Int32)).toUInt32.toUInt16.toUInt32.toInt32)))])) _
    refine XS.iconst X57.here hx rfl (hb hby at_12) ?_
    exact kt
  by_cases hc13_59 : (own_F1 ((p1 &&& (65535 : Int32)).toUInt32.toUInt16.toUInt32.toInt32)) = (-1 : Int32)
  · have pre61 : ∀ t, Steps p.tables e below (T57.setTop (mkF m 62 #[.val (.int p1), .val (.int p2), .val (.int ((p1 &&& (65535 : Int32)).toUInt32.toUInt16.toUInt32.toInt32)), .val (.int (own_F1 ((p1 &&& (65535 : Int32)).toUInt32.toUInt16.toUInt32.toInt32))), .val (.int (1 : Int32)), .val (.int ((p2 &&& (2147483647 : Int32)) % (22 : Int32))), .unset, .unset] [])) t → Steps p.tables e below (s₁.setTop (entryFrame m #[(.int p1), (.int p2)] maxLocals)) t := by
      intro t kt
      refine pre58 _ ?_
      show Steps p.tables e below (T57.setTop (mkF m 13 #[.val (.int p1), .val (.int p2), .val (.int ((p1 &&& (65535 : Int32)).toUInt32.toUInt16.toUInt32.toInt32)), .val (.int (own_F1 ((p1 &&& (65535 : Int32)).toUInt32.toUInt16.toUInt32.toInt32))), .unset, .unset, .unset, .unset] [(.int (-1 : Int32)), (.int (own_F1 ((p1 &&& (65535 : Int32)).toUInt32.toUInt16.toUInt32.toInt32)))])) _
      refine XS.icmpYes X57.here hx rfl (pc0 := 13) (pc' := 46) rfl (hb hby at_13) rfl (teq hc13_59).1 (by decide) (by decide) ?_
      show Steps p.tables e below (T57.setTop (mkF m 46 #[.val (.int p1), .val (.int p2), .val (.int ((p1 &&& (65535 : Int32)).toUInt32.toUInt16.toUInt32.toInt32)), .val (.int (own_F1 ((p1 &&& (65535 : Int32)).toUInt32.toUInt16.toUInt32.toInt32))), .unset, .unset, .unset, .unset] [])) _
      refine XS.iconst X57.here hx rfl (hb hby at_46) ?_
      show Steps p.tables e below (T57.setTop (mkF m 47 #[.val (.int p1), .val (.int p2), .val (.int ((p1 &&& (65535 : Int32)).toUInt32.toUInt16.toUInt32.toInt32)), .val (.int (own_F1 ((p1 &&& (65535 : Int32)).toUInt32.toUInt16.toUInt32.toInt32))), .unset, .unset, .unset, .unset] [(.int (1 : Int32))])) _
      refine XS.goto X57.here hx rfl (pc0 := 47) (pc' := 51) rfl (hb hby at_47) (by decide) (by decide) ?_
      show Steps p.tables e below (T57.setTop (mkF m 51 #[.val (.int p1), .val (.int p2), .val (.int ((p1 &&& (65535 : Int32)).toUInt32.toUInt16.toUInt32.toInt32)), .val (.int (own_F1 ((p1 &&& (65535 : Int32)).toUInt32.toUInt16.toUInt32.toInt32))), .unset, .unset, .unset, .unset] [(.int (1 : Int32))])) _
      refine XS.istore X57.here hx rfl (hb hby at_51) rfl (l' := #[.val (.int p1), .val (.int p2), .val (.int ((p1 &&& (65535 : Int32)).toUInt32.toUInt16.toUInt32.toInt32)), .val (.int (own_F1 ((p1 &&& (65535 : Int32)).toUInt32.toUInt16.toUInt32.toInt32))), .val (.int (1 : Int32)), .unset, .unset, .unset]) rfl ?_
      show Steps p.tables e below (T57.setTop (mkF m 53 #[.val (.int p1), .val (.int p2), .val (.int ((p1 &&& (65535 : Int32)).toUInt32.toUInt16.toUInt32.toInt32)), .val (.int (own_F1 ((p1 &&& (65535 : Int32)).toUInt32.toUInt16.toUInt32.toInt32))), .val (.int (1 : Int32)), .unset, .unset, .unset] [])) _
      refine XS.iloadN X57.here hx rfl (hb hby at_53) rfl ?_
      show Steps p.tables e below (T57.setTop (mkF m 54 #[.val (.int p1), .val (.int p2), .val (.int ((p1 &&& (65535 : Int32)).toUInt32.toUInt16.toUInt32.toInt32)), .val (.int (own_F1 ((p1 &&& (65535 : Int32)).toUInt32.toUInt16.toUInt32.toInt32))), .val (.int (1 : Int32)), .unset, .unset, .unset] [(.int p2)])) _
      refine X57.ldcInt hx hown (mvT hZ (hw _ (List.mem_of_getElem? (i := 5) rfl))) (g := (mkF m 54 #[.val (.int p1), .val (.int p2), .val (.int ((p1 &&& (65535 : Int32)).toUInt32.toUInt16.toUInt32.toInt32)), .val (.int (own_F1 ((p1 &&& (65535 : Int32)).toUInt32.toUInt16.toUInt32.toInt32))), .val (.int (1 : Int32)), .unset, .unset, .unset] [(.int p2)])) rfl (hb hby at_54) _ ?_
      show Steps p.tables e below (T57.setTop (mkF m 56 #[.val (.int p1), .val (.int p2), .val (.int ((p1 &&& (65535 : Int32)).toUInt32.toUInt16.toUInt32.toInt32)), .val (.int (own_F1 ((p1 &&& (65535 : Int32)).toUInt32.toUInt16.toUInt32.toInt32))), .val (.int (1 : Int32)), .unset, .unset, .unset] [(.int (2147483647 : Int32)), (.int p2)])) _
      refine XS.iand X57.here hx rfl (hb hby at_56) rfl ?_
      show Steps p.tables e below (T57.setTop (mkF m 57 #[.val (.int p1), .val (.int p2), .val (.int ((p1 &&& (65535 : Int32)).toUInt32.toUInt16.toUInt32.toInt32)), .val (.int (own_F1 ((p1 &&& (65535 : Int32)).toUInt32.toUInt16.toUInt32.toInt32))), .val (.int (1 : Int32)), .unset, .unset, .unset] [(.int (p2 &&& (2147483647 : Int32)))])) _
      refine XS.bipush X57.here hx rfl (hb hby at_57) ?_
      show Steps p.tables e below (T57.setTop (mkF m 59 #[.val (.int p1), .val (.int p2), .val (.int ((p1 &&& (65535 : Int32)).toUInt32.toUInt16.toUInt32.toInt32)), .val (.int (own_F1 ((p1 &&& (65535 : Int32)).toUInt32.toUInt16.toUInt32.toInt32))), .val (.int (1 : Int32)), .unset, .unset, .unset] [(.int (22 : Int32)), (.int (p2 &&& (2147483647 : Int32)))])) _
      refine iremM X57 hx rfl (hb hby at_59) rfl (by decide) ?_
      show Steps p.tables e below (T57.setTop (mkF m 60 #[.val (.int p1), .val (.int p2), .val (.int ((p1 &&& (65535 : Int32)).toUInt32.toUInt16.toUInt32.toInt32)), .val (.int (own_F1 ((p1 &&& (65535 : Int32)).toUInt32.toUInt16.toUInt32.toInt32))), .val (.int (1 : Int32)), .unset, .unset, .unset] [(.int ((p2 &&& (2147483647 : Int32)) % (22 : Int32)))])) _
      refine XS.istore X57.here hx rfl (hb hby at_60) rfl (l' := #[.val (.int p1), .val (.int p2), .val (.int ((p1 &&& (65535 : Int32)).toUInt32.toUInt16.toUInt32.toInt32)), .val (.int (own_F1 ((p1 &&& (65535 : Int32)).toUInt32.toUInt16.toUInt32.toInt32))), .val (.int (1 : Int32)), .val (.int ((p2 &&& (2147483647 : Int32)) % (22 : Int32))), .unset, .unset]) rfl ?_
      exact kt
    obtain ⟨a60, T60, h60, k60, b60, c60, X60, e60, E60, hS60, hk60, hZ60, hown60, gE60, gC60, gV60, gA60, -, -, hI60, st60⟩ := ldcSV X57 hx hZ hown (hw _ (List.mem_of_getElem? (i := 6) rfl)) wS e57 hS0 hk0 (show Fr s.heap.size _ by rw [← hn1]; exact N57) hkp hIB0 (Ts := []) (by decide) (hch _ (List.mem_of_getElem? (i := 2) rfl)) hcw (vs := [Value.int (48 : Int32), Value.int (49 : Int32), Value.int (50 : Int32), Value.int (51 : Int32), Value.int (52 : Int32), Value.int (53 : Int32), Value.int (54 : Int32), Value.int (55 : Int32), Value.int (56 : Int32), Value.int (57 : Int32), Value.int (65 : Int32), Value.int (66 : Int32), Value.int (67 : Int32), Value.int (68 : Int32), Value.int (69 : Int32), Value.int (70 : Int32), Value.int (97 : Int32), Value.int (98 : Int32), Value.int (99 : Int32), Value.int (100 : Int32), Value.int (101 : Int32), Value.int (102 : Int32)]) (z := (22 : Int32)) ⟨by decide, by decide⟩ (by decide) (by decide) (g := (mkF m 62 #[.val (.int p1), .val (.int p2), .val (.int ((p1 &&& (65535 : Int32)).toUInt32.toUInt16.toUInt32.toInt32)), .val (.int (own_F1 ((p1 &&& (65535 : Int32)).toUInt32.toUInt16.toUInt32.toInt32))), .val (.int (1 : Int32)), .val (.int ((p2 &&& (2147483647 : Int32)) % (22 : Int32))), .unset, .unset] [])) rfl (hb hby at_62) (n := 88) (by decide) (by decide) (by decide) (by decide)
    have hZ := hZ60
    have hown := hown60
    have K60 : Keep h0 h60 [] := (Keep.refl h0 []).ext E60
    obtain ⟨cl62, Ar62, q62, Sz62, Nz62, Hs62, -⟩ := gA60
    have at62 := Has.at Hs62 (inb_of Sz62 ⟨(own_ix p2).1, (own_ix p2).2⟩) (own_atM ((p2 &&& (2147483647 : Int32)) % (22 : Int32)) (own_ix p2).1 (own_ix p2).2).1
    obtain ⟨cq63, kq63, q63a, q63b, q63c⟩ := isOf hZ e60 gE60
    obtain ⟨_, _, ⟨T63, L63, k63, n63⟩, -, X63, ⟨Lc63, hQ63, l63, y63, z63⟩, st63⟩ := X60.virtualBack hx (y := (⟨"java/lang/String", "charAt", "(I)C"⟩ : MethodName)) (z := (⟨"java/lang/String", "charAt", "(I)C"⟩ : MethodName)) hown (mvT hZ (hw _ (List.mem_of_getElem? (i := 14) rfl))) (mvT hZ (hw _ (List.mem_of_getElem? (i := 15) rfl))) (notFace_of_selects (args := #[]) (mvT hZ (hw _ (List.mem_of_getElem? (i := 17) rfl)))) (mvT hZ (hw _ (List.mem_of_getElem? (i := 17) rfl))) (mvT hZ (hw _ (List.mem_of_getElem? (i := 16) rfl))) (by decide) (backOf (W := 0) (rm2 l Z a0 hw [] a60 ((p2 &&& (2147483647 : Int32)) % (22 : Int32)) b60 cl62 (22 : Int32) (own_m ((p2 &&& (2147483647 : Int32)) % (22 : Int32))) cs vf h60 n0 (Nat.le_trans Z0 E60.1) gE60 gC60 gV60 Ar62 Sz62 Nz62 (own_ix p2).1 (own_ix p2).2 at62 (SC.ext E60) hcs (SF.ext E60) hvf) hZ (hw _ (List.mem_of_getElem? (i := 18) rfl)) (hw _ (List.mem_of_getElem? (i := 7) rfl)) (by decide) (by decide)) q63a q63c (g := (mkF m 66 #[.val (.int p1), .val (.int p2), .val (.int ((p1 &&& (65535 : Int32)).toUInt32.toUInt16.toUInt32.toInt32)), .val (.int (own_F1 ((p1 &&& (65535 : Int32)).toUInt32.toUInt16.toUInt32.toInt32))), .val (.int (1 : Int32)), .val (.int ((p2 &&& (2147483647 : Int32)) % (22 : Int32))), .unset, .unset] [(.int ((p2 &&& (2147483647 : Int32)) % (22 : Int32))), (.ref a60)])) rfl (by rw [hml]; rfl) (Steps.refl _) (argsL := [(.int ((p2 &&& (2147483647 : Int32)) % (22 : Int32)))]) (rest := []) (lenOf pd_5 rfl) rfl (by show 2 * 0 + _ ≤ _; exact Nat.le_of_eq rfl) (hb hby at_66) (fun _ _ => ⟨rfl, e60, (by decide : 2 + 0 ≤ _), (by decide : 92 + 0 ≤ _)⟩)
    dsimp only [Pt.U, Pt.locs, Pt.cells, Pt.slots] at X63 l63 y63 z63 st63 hQ63
    subst l63 y63 z63
    obtain ⟨rfl, N63q, e63⟩ := hQ63
    have N63 := Fr.app N57 N63q
    have pre65 : ∀ t, Steps p.tables e below (T63.setTop (mkF m 88 #[.val (.int p1), .val (.int p2), .val (.int ((p1 &&& (65535 : Int32)).toUInt32.toUInt16.toUInt32.toInt32)), .val (.int (own_F1 ((p1 &&& (65535 : Int32)).toUInt32.toUInt16.toUInt32.toInt32))), .val (.int (1 : Int32)), .val (.int ((p2 &&& (2147483647 : Int32)) % (22 : Int32))), .val (.int (nar .char (own_chr (own_m ((p2 &&& (2147483647 : Int32)) % (22 : Int32)))))), .unset] [(.int (if ((p2 &&& (2147483647 : Int32)) % (22 : Int32)) < (16 : Int32) then ((p2 &&& (2147483647 : Int32)) % (22 : Int32)) else (((p2 &&& (2147483647 : Int32)) % (22 : Int32)) - (6 : Int32))))])) t → Steps p.tables e below (s₁.setTop (entryFrame m #[(.int p1), (.int p2)] maxLocals)) t := by
      intro t kt
      refine pre61 _ ?_
      show Steps p.tables e below (T57.setTop (mkF m 62 #[.val (.int p1), .val (.int p2), .val (.int ((p1 &&& (65535 : Int32)).toUInt32.toUInt16.toUInt32.toInt32)), .val (.int (own_F1 ((p1 &&& (65535 : Int32)).toUInt32.toUInt16.toUInt32.toInt32))), .val (.int (1 : Int32)), .val (.int ((p2 &&& (2147483647 : Int32)) % (22 : Int32))), .unset, .unset] [])) _
      refine st60 _ ?_
      show Steps p.tables e below (T60.setTop (mkF m 64 #[.val (.int p1), .val (.int p2), .val (.int ((p1 &&& (65535 : Int32)).toUInt32.toUInt16.toUInt32.toInt32)), .val (.int (own_F1 ((p1 &&& (65535 : Int32)).toUInt32.toUInt16.toUInt32.toInt32))), .val (.int (1 : Int32)), .val (.int ((p2 &&& (2147483647 : Int32)) % (22 : Int32))), .unset, .unset] [(.ref a60)])) _
      refine XS.iload X60.here hx rfl (hb hby at_64) rfl ?_
      show Steps p.tables e below (T60.setTop (mkF m 66 #[.val (.int p1), .val (.int p2), .val (.int ((p1 &&& (65535 : Int32)).toUInt32.toUInt16.toUInt32.toInt32)), .val (.int (own_F1 ((p1 &&& (65535 : Int32)).toUInt32.toUInt16.toUInt32.toInt32))), .val (.int (1 : Int32)), .val (.int ((p2 &&& (2147483647 : Int32)) % (22 : Int32))), .unset, .unset] [(.int ((p2 &&& (2147483647 : Int32)) % (22 : Int32))), (.ref a60)])) _
      refine st63.trans ?_
      show Steps p.tables e below (T63.setTop (mkF m 69 #[.val (.int p1), .val (.int p2), .val (.int ((p1 &&& (65535 : Int32)).toUInt32.toUInt16.toUInt32.toInt32)), .val (.int (own_F1 ((p1 &&& (65535 : Int32)).toUInt32.toUInt16.toUInt32.toInt32))), .val (.int (1 : Int32)), .val (.int ((p2 &&& (2147483647 : Int32)) % (22 : Int32))), .unset, .unset] [(.int (nar .char (own_chr (own_m ((p2 &&& (2147483647 : Int32)) % (22 : Int32))))))])) _
      refine XS.istore X63.here hx rfl (hb hby at_69) rfl (l' := #[.val (.int p1), .val (.int p2), .val (.int ((p1 &&& (65535 : Int32)).toUInt32.toUInt16.toUInt32.toInt32)), .val (.int (own_F1 ((p1 &&& (65535 : Int32)).toUInt32.toUInt16.toUInt32.toInt32))), .val (.int (1 : Int32)), .val (.int ((p2 &&& (2147483647 : Int32)) % (22 : Int32))), .val (.int (nar .char (own_chr (own_m ((p2 &&& (2147483647 : Int32)) % (22 : Int32)))))), .unset]) rfl ?_
      show Steps p.tables e below (T63.setTop (mkF m 71 #[.val (.int p1), .val (.int p2), .val (.int ((p1 &&& (65535 : Int32)).toUInt32.toUInt16.toUInt32.toInt32)), .val (.int (own_F1 ((p1 &&& (65535 : Int32)).toUInt32.toUInt16.toUInt32.toInt32))), .val (.int (1 : Int32)), .val (.int ((p2 &&& (2147483647 : Int32)) % (22 : Int32))), .val (.int (nar .char (own_chr (own_m ((p2 &&& (2147483647 : Int32)) % (22 : Int32)))))), .unset] [])) _
      refine XS.iload X63.here hx rfl (hb hby at_71) rfl ?_
      show Steps p.tables e below (T63.setTop (mkF m 73 #[.val (.int p1), .val (.int p2), .val (.int ((p1 &&& (65535 : Int32)).toUInt32.toUInt16.toUInt32.toInt32)), .val (.int (own_F1 ((p1 &&& (65535 : Int32)).toUInt32.toUInt16.toUInt32.toInt32))), .val (.int (1 : Int32)), .val (.int ((p2 &&& (2147483647 : Int32)) % (22 : Int32))), .val (.int (nar .char (own_chr (own_m ((p2 &&& (2147483647 : Int32)) % (22 : Int32)))))), .unset] [(.int ((p2 &&& (2147483647 : Int32)) % (22 : Int32)))])) _
      refine XS.bipush X63.here hx rfl (hb hby at_73) ?_
      by_cases hj75_64 : ((p2 &&& (2147483647 : Int32)) % (22 : Int32)) < (16 : Int32)
      · rw [if_pos hj75_64] at kt
        show Steps p.tables e below (T63.setTop (mkF m 75 #[.val (.int p1), .val (.int p2), .val (.int ((p1 &&& (65535 : Int32)).toUInt32.toUInt16.toUInt32.toInt32)), .val (.int (own_F1 ((p1 &&& (65535 : Int32)).toUInt32.toUInt16.toUInt32.toInt32))), .val (.int (1 : Int32)), .val (.int ((p2 &&& (2147483647 : Int32)) % (22 : Int32))), .val (.int (nar .char (own_chr (own_m ((p2 &&& (2147483647 : Int32)) % (22 : Int32)))))), .unset] [(.int (16 : Int32)), (.int ((p2 &&& (2147483647 : Int32)) % (22 : Int32)))])) _
        refine XS.icmpNo X63.here hx rfl (hb hby at_75) rfl (tlt hj75_64).2.1 ?_
        show Steps p.tables e below (T63.setTop (mkF m 78 #[.val (.int p1), .val (.int p2), .val (.int ((p1 &&& (65535 : Int32)).toUInt32.toUInt16.toUInt32.toInt32)), .val (.int (own_F1 ((p1 &&& (65535 : Int32)).toUInt32.toUInt16.toUInt32.toInt32))), .val (.int (1 : Int32)), .val (.int ((p2 &&& (2147483647 : Int32)) % (22 : Int32))), .val (.int (nar .char (own_chr (own_m ((p2 &&& (2147483647 : Int32)) % (22 : Int32)))))), .unset] [])) _
        refine XS.iload X63.here hx rfl (hb hby at_78) rfl ?_
        show Steps p.tables e below (T63.setTop (mkF m 80 #[.val (.int p1), .val (.int p2), .val (.int ((p1 &&& (65535 : Int32)).toUInt32.toUInt16.toUInt32.toInt32)), .val (.int (own_F1 ((p1 &&& (65535 : Int32)).toUInt32.toUInt16.toUInt32.toInt32))), .val (.int (1 : Int32)), .val (.int ((p2 &&& (2147483647 : Int32)) % (22 : Int32))), .val (.int (nar .char (own_chr (own_m ((p2 &&& (2147483647 : Int32)) % (22 : Int32)))))), .unset] [(.int ((p2 &&& (2147483647 : Int32)) % (22 : Int32)))])) _
        refine XS.goto X63.here hx rfl (pc0 := 80) (pc' := 88) rfl (hb hby at_80) (by decide) (by decide) ?_
        exact kt
      · rw [if_neg hj75_64] at kt
        show Steps p.tables e below (T63.setTop (mkF m 75 #[.val (.int p1), .val (.int p2), .val (.int ((p1 &&& (65535 : Int32)).toUInt32.toUInt16.toUInt32.toInt32)), .val (.int (own_F1 ((p1 &&& (65535 : Int32)).toUInt32.toUInt16.toUInt32.toInt32))), .val (.int (1 : Int32)), .val (.int ((p2 &&& (2147483647 : Int32)) % (22 : Int32))), .val (.int (nar .char (own_chr (own_m ((p2 &&& (2147483647 : Int32)) % (22 : Int32)))))), .unset] [(.int (16 : Int32)), (.int ((p2 &&& (2147483647 : Int32)) % (22 : Int32)))])) _
        refine XS.icmpYes X63.here hx rfl (pc0 := 75) (pc' := 83) rfl (hb hby at_75) rfl (flt hj75_64).2.1 (by decide) (by decide) ?_
        show Steps p.tables e below (T63.setTop (mkF m 83 #[.val (.int p1), .val (.int p2), .val (.int ((p1 &&& (65535 : Int32)).toUInt32.toUInt16.toUInt32.toInt32)), .val (.int (own_F1 ((p1 &&& (65535 : Int32)).toUInt32.toUInt16.toUInt32.toInt32))), .val (.int (1 : Int32)), .val (.int ((p2 &&& (2147483647 : Int32)) % (22 : Int32))), .val (.int (nar .char (own_chr (own_m ((p2 &&& (2147483647 : Int32)) % (22 : Int32)))))), .unset] [])) _
        refine XS.iload X63.here hx rfl (hb hby at_83) rfl ?_
        show Steps p.tables e below (T63.setTop (mkF m 85 #[.val (.int p1), .val (.int p2), .val (.int ((p1 &&& (65535 : Int32)).toUInt32.toUInt16.toUInt32.toInt32)), .val (.int (own_F1 ((p1 &&& (65535 : Int32)).toUInt32.toUInt16.toUInt32.toInt32))), .val (.int (1 : Int32)), .val (.int ((p2 &&& (2147483647 : Int32)) % (22 : Int32))), .val (.int (nar .char (own_chr (own_m ((p2 &&& (2147483647 : Int32)) % (22 : Int32)))))), .unset] [(.int ((p2 &&& (2147483647 : Int32)) % (22 : Int32)))])) _
        refine XS.bipush X63.here hx rfl (hb hby at_85) ?_
        show Steps p.tables e below (T63.setTop (mkF m 87 #[.val (.int p1), .val (.int p2), .val (.int ((p1 &&& (65535 : Int32)).toUInt32.toUInt16.toUInt32.toInt32)), .val (.int (own_F1 ((p1 &&& (65535 : Int32)).toUInt32.toUInt16.toUInt32.toInt32))), .val (.int (1 : Int32)), .val (.int ((p2 &&& (2147483647 : Int32)) % (22 : Int32))), .val (.int (nar .char (own_chr (own_m ((p2 &&& (2147483647 : Int32)) % (22 : Int32)))))), .unset] [(.int (6 : Int32)), (.int ((p2 &&& (2147483647 : Int32)) % (22 : Int32)))])) _
        refine XS.isub X63.here hx rfl (hb hby at_87) rfl ?_
        exact kt
    obtain ⟨_, _, ⟨T66, L66, k66, n66⟩, -, X66, ⟨Lc66, hQ66, l66, y66, z66⟩, st66⟩ := Jvm.LawKit.callS X63 hx (y := (⟨"com/example/elemento/elemento/PercentEncoding", "hexValue", "(C)I"⟩ : MethodName)) hown (mvT hZ (hw _ (List.mem_of_getElem? (i := 1) rfl))) (mvT hZ (hw _ (List.mem_of_getElem? (i := 2) rfl))) (mvT hZ (hw _ (List.mem_of_getElem? (i := 3) rfl))) (mvT hZ (hw _ (List.mem_of_getElem? (i := 4) rfl))) (by decide) (backOf (W := 0) (rm1 l Z a0 hw [] (nar .char (own_chr (own_m ((p2 &&& (2147483647 : Int32)) % (22 : Int32))))) h60 n0 (Nat.le_trans Z0 E60.1)) hZ (hw _ (List.mem_of_getElem? (i := 4) rfl)) (hw _ (List.mem_of_getElem? (i := 3) rfl)) (by decide) (by decide)) (g := (mkF m 97 #[.val (.int p1), .val (.int p2), .val (.int ((p1 &&& (65535 : Int32)).toUInt32.toUInt16.toUInt32.toInt32)), .val (.int (own_F1 ((p1 &&& (65535 : Int32)).toUInt32.toUInt16.toUInt32.toInt32))), .val (.int (1 : Int32)), .val (.int ((p2 &&& (2147483647 : Int32)) % (22 : Int32))), .val (.int (nar .char (own_chr (own_m ((p2 &&& (2147483647 : Int32)) % (22 : Int32)))))), .val (.int (if ((p2 &&& (2147483647 : Int32)) % (22 : Int32)) < (16 : Int32) then ((p2 &&& (2147483647 : Int32)) % (22 : Int32)) else (((p2 &&& (2147483647 : Int32)) % (22 : Int32)) - (6 : Int32))))] [(.int (nar .char (own_chr (own_m ((p2 &&& (2147483647 : Int32)) % (22 : Int32))))))])) rfl (by rw [hml]; rfl) (argsL := [(.int (nar .char (own_chr (own_m ((p2 &&& (2147483647 : Int32)) % (22 : Int32))))))]) (rest := []) (lenOf pd_4 rfl) rfl (by show 2 * 0 + _ ≤ _; exact Nat.le_of_eq rfl) (hb hby at_97) (fun _ _ => ⟨rfl, e63, (by decide : 2 + 0 ≤ _), (by decide : 92 + 0 ≤ _)⟩)
    dsimp only [Pt.U, Pt.locs, Pt.cells, Pt.slots] at X66 l66 y66 z66 st66 hQ66
    subst l66 y66 z66
    obtain ⟨rfl, N66q, e66⟩ := hQ66
    have N66 := Fr.app N63 N66q
    have pre67 : ∀ t, Steps p.tables e below (T66.setTop (mkF m 110 #[.val (.int p1), .val (.int p2), .val (.int ((p1 &&& (65535 : Int32)).toUInt32.toUInt16.toUInt32.toInt32)), .val (.int (own_F1 ((p1 &&& (65535 : Int32)).toUInt32.toUInt16.toUInt32.toInt32))), .val (.int (1 : Int32)), .val (.int ((p2 &&& (2147483647 : Int32)) % (22 : Int32))), .val (.int (nar .char (own_chr (own_m ((p2 &&& (2147483647 : Int32)) % (22 : Int32)))))), .val (.int (if ((p2 &&& (2147483647 : Int32)) % (22 : Int32)) < (16 : Int32) then ((p2 &&& (2147483647 : Int32)) % (22 : Int32)) else (((p2 &&& (2147483647 : Int32)) % (22 : Int32)) - (6 : Int32))))] [(.int (1 : Int32))])) t → Steps p.tables e below (s₁.setTop (entryFrame m #[(.int p1), (.int p2)] maxLocals)) t := by
      intro t kt
      refine pre65 _ ?_
      show Steps p.tables e below (T63.setTop (mkF m 88 #[.val (.int p1), .val (.int p2), .val (.int ((p1 &&& (65535 : Int32)).toUInt32.toUInt16.toUInt32.toInt32)), .val (.int (own_F1 ((p1 &&& (65535 : Int32)).toUInt32.toUInt16.toUInt32.toInt32))), .val (.int (1 : Int32)), .val (.int ((p2 &&& (2147483647 : Int32)) % (22 : Int32))), .val (.int (nar .char (own_chr (own_m ((p2 &&& (2147483647 : Int32)) % (22 : Int32)))))), .unset] [(.int (if ((p2 &&& (2147483647 : Int32)) % (22 : Int32)) < (16 : Int32) then ((p2 &&& (2147483647 : Int32)) % (22 : Int32)) else (((p2 &&& (2147483647 : Int32)) % (22 : Int32)) - (6 : Int32))))])) _
      refine XS.istore X63.here hx rfl (hb hby at_88) rfl (l' := #[.val (.int p1), .val (.int p2), .val (.int ((p1 &&& (65535 : Int32)).toUInt32.toUInt16.toUInt32.toInt32)), .val (.int (own_F1 ((p1 &&& (65535 : Int32)).toUInt32.toUInt16.toUInt32.toInt32))), .val (.int (1 : Int32)), .val (.int ((p2 &&& (2147483647 : Int32)) % (22 : Int32))), .val (.int (nar .char (own_chr (own_m ((p2 &&& (2147483647 : Int32)) % (22 : Int32)))))), .val (.int (if ((p2 &&& (2147483647 : Int32)) % (22 : Int32)) < (16 : Int32) then ((p2 &&& (2147483647 : Int32)) % (22 : Int32)) else (((p2 &&& (2147483647 : Int32)) % (22 : Int32)) - (6 : Int32))))]) rfl ?_
      show Steps p.tables e below (T63.setTop (mkF m 90 #[.val (.int p1), .val (.int p2), .val (.int ((p1 &&& (65535 : Int32)).toUInt32.toUInt16.toUInt32.toInt32)), .val (.int (own_F1 ((p1 &&& (65535 : Int32)).toUInt32.toUInt16.toUInt32.toInt32))), .val (.int (1 : Int32)), .val (.int ((p2 &&& (2147483647 : Int32)) % (22 : Int32))), .val (.int (nar .char (own_chr (own_m ((p2 &&& (2147483647 : Int32)) % (22 : Int32)))))), .val (.int (if ((p2 &&& (2147483647 : Int32)) % (22 : Int32)) < (16 : Int32) then ((p2 &&& (2147483647 : Int32)) % (22 : Int32)) else (((p2 &&& (2147483647 : Int32)) % (22 : Int32)) - (6 : Int32))))] [])) _
      refine XS.iload X63.here hx rfl (hb hby at_90) rfl ?_
      show Steps p.tables e below (T63.setTop (mkF m 92 #[.val (.int p1), .val (.int p2), .val (.int ((p1 &&& (65535 : Int32)).toUInt32.toUInt16.toUInt32.toInt32)), .val (.int (own_F1 ((p1 &&& (65535 : Int32)).toUInt32.toUInt16.toUInt32.toInt32))), .val (.int (1 : Int32)), .val (.int ((p2 &&& (2147483647 : Int32)) % (22 : Int32))), .val (.int (nar .char (own_chr (own_m ((p2 &&& (2147483647 : Int32)) % (22 : Int32)))))), .val (.int (if ((p2 &&& (2147483647 : Int32)) % (22 : Int32)) < (16 : Int32) then ((p2 &&& (2147483647 : Int32)) % (22 : Int32)) else (((p2 &&& (2147483647 : Int32)) % (22 : Int32)) - (6 : Int32))))] [(.int (1 : Int32))])) _
      refine XS.ifNo X63.here hx rfl (hb hby at_92) rfl ((if0 _ _).trans (feq (by decide : ¬ ((1 : Int32) = (0 : Int32)))).1) ?_
      show Steps p.tables e below (T63.setTop (mkF m 95 #[.val (.int p1), .val (.int p2), .val (.int ((p1 &&& (65535 : Int32)).toUInt32.toUInt16.toUInt32.toInt32)), .val (.int (own_F1 ((p1 &&& (65535 : Int32)).toUInt32.toUInt16.toUInt32.toInt32))), .val (.int (1 : Int32)), .val (.int ((p2 &&& (2147483647 : Int32)) % (22 : Int32))), .val (.int (nar .char (own_chr (own_m ((p2 &&& (2147483647 : Int32)) % (22 : Int32)))))), .val (.int (if ((p2 &&& (2147483647 : Int32)) % (22 : Int32)) < (16 : Int32) then ((p2 &&& (2147483647 : Int32)) % (22 : Int32)) else (((p2 &&& (2147483647 : Int32)) % (22 : Int32)) - (6 : Int32))))] [])) _
      refine XS.iload X63.here hx rfl (hb hby at_95) rfl ?_
      show Steps p.tables e below (T63.setTop (mkF m 97 #[.val (.int p1), .val (.int p2), .val (.int ((p1 &&& (65535 : Int32)).toUInt32.toUInt16.toUInt32.toInt32)), .val (.int (own_F1 ((p1 &&& (65535 : Int32)).toUInt32.toUInt16.toUInt32.toInt32))), .val (.int (1 : Int32)), .val (.int ((p2 &&& (2147483647 : Int32)) % (22 : Int32))), .val (.int (nar .char (own_chr (own_m ((p2 &&& (2147483647 : Int32)) % (22 : Int32)))))), .val (.int (if ((p2 &&& (2147483647 : Int32)) % (22 : Int32)) < (16 : Int32) then ((p2 &&& (2147483647 : Int32)) % (22 : Int32)) else (((p2 &&& (2147483647 : Int32)) % (22 : Int32)) - (6 : Int32))))] [(.int (nar .char (own_chr (own_m ((p2 &&& (2147483647 : Int32)) % (22 : Int32))))))])) _
      refine st66 _ ?_
      show Steps p.tables e below (T66.setTop (mkF m 100 #[.val (.int p1), .val (.int p2), .val (.int ((p1 &&& (65535 : Int32)).toUInt32.toUInt16.toUInt32.toInt32)), .val (.int (own_F1 ((p1 &&& (65535 : Int32)).toUInt32.toUInt16.toUInt32.toInt32))), .val (.int (1 : Int32)), .val (.int ((p2 &&& (2147483647 : Int32)) % (22 : Int32))), .val (.int (nar .char (own_chr (own_m ((p2 &&& (2147483647 : Int32)) % (22 : Int32)))))), .val (.int (if ((p2 &&& (2147483647 : Int32)) % (22 : Int32)) < (16 : Int32) then ((p2 &&& (2147483647 : Int32)) % (22 : Int32)) else (((p2 &&& (2147483647 : Int32)) % (22 : Int32)) - (6 : Int32))))] [(.int (own_F1 (nar .char (own_chr (own_m ((p2 &&& (2147483647 : Int32)) % (22 : Int32)))))))])) _
      refine XS.iload X66.here hx rfl (hb hby at_100) rfl ?_
      show Steps p.tables e below (T66.setTop (mkF m 102 #[.val (.int p1), .val (.int p2), .val (.int ((p1 &&& (65535 : Int32)).toUInt32.toUInt16.toUInt32.toInt32)), .val (.int (own_F1 ((p1 &&& (65535 : Int32)).toUInt32.toUInt16.toUInt32.toInt32))), .val (.int (1 : Int32)), .val (.int ((p2 &&& (2147483647 : Int32)) % (22 : Int32))), .val (.int (nar .char (own_chr (own_m ((p2 &&& (2147483647 : Int32)) % (22 : Int32)))))), .val (.int (if ((p2 &&& (2147483647 : Int32)) % (22 : Int32)) < (16 : Int32) then ((p2 &&& (2147483647 : Int32)) % (22 : Int32)) else (((p2 &&& (2147483647 : Int32)) % (22 : Int32)) - (6 : Int32))))] [(.int (if ((p2 &&& (2147483647 : Int32)) % (22 : Int32)) < (16 : Int32) then ((p2 &&& (2147483647 : Int32)) % (22 : Int32)) else (((p2 &&& (2147483647 : Int32)) % (22 : Int32)) - (6 : Int32)))), (.int (own_F1 (nar .char (own_chr (own_m ((p2 &&& (2147483647 : Int32)) % (22 : Int32)))))))])) _
      refine XS.icmpNo X66.here hx rfl (hb hby at_102) rfl (teq ((own_m0 _ (own_ix p2).1 (own_ix p2).2) : (own_F1 (nar .char (own_chr (own_m ((p2 &&& (2147483647 : Int32)) % (22 : Int32)))))) = (if ((p2 &&& (2147483647 : Int32)) % (22 : Int32)) < (16 : Int32) then ((p2 &&& (2147483647 : Int32)) % (22 : Int32)) else (((p2 &&& (2147483647 : Int32)) % (22 : Int32)) - (6 : Int32))))).2 ?_
      show Steps p.tables e below (T66.setTop (mkF m 105 #[.val (.int p1), .val (.int p2), .val (.int ((p1 &&& (65535 : Int32)).toUInt32.toUInt16.toUInt32.toInt32)), .val (.int (own_F1 ((p1 &&& (65535 : Int32)).toUInt32.toUInt16.toUInt32.toInt32))), .val (.int (1 : Int32)), .val (.int ((p2 &&& (2147483647 : Int32)) % (22 : Int32))), .val (.int (nar .char (own_chr (own_m ((p2 &&& (2147483647 : Int32)) % (22 : Int32)))))), .val (.int (if ((p2 &&& (2147483647 : Int32)) % (22 : Int32)) < (16 : Int32) then ((p2 &&& (2147483647 : Int32)) % (22 : Int32)) else (((p2 &&& (2147483647 : Int32)) % (22 : Int32)) - (6 : Int32))))] [])) _
      refine XS.iconst X66.here hx rfl (hb hby at_105) ?_
      show Steps p.tables e below (T66.setTop (mkF m 106 #[.val (.int p1), .val (.int p2), .val (.int ((p1 &&& (65535 : Int32)).toUInt32.toUInt16.toUInt32.toInt32)), .val (.int (own_F1 ((p1 &&& (65535 : Int32)).toUInt32.toUInt16.toUInt32.toInt32))), .val (.int (1 : Int32)), .val (.int ((p2 &&& (2147483647 : Int32)) % (22 : Int32))), .val (.int (nar .char (own_chr (own_m ((p2 &&& (2147483647 : Int32)) % (22 : Int32)))))), .val (.int (if ((p2 &&& (2147483647 : Int32)) % (22 : Int32)) < (16 : Int32) then ((p2 &&& (2147483647 : Int32)) % (22 : Int32)) else (((p2 &&& (2147483647 : Int32)) % (22 : Int32)) - (6 : Int32))))] [(.int (1 : Int32))])) _
      refine XS.goto X66.here hx rfl (pc0 := 106) (pc' := 110) rfl (hb hby at_106) (by decide) (by decide) ?_
      exact kt
    obtain ⟨fs, hr, hrun, hended, hRE⟩ := X66.leaveW hS60 (show _ ≤ T66.heap.size by rw [e66]; exact hk60) (v := some (.int (1 : Int32))) (fun h => by rw [Bd.returns] at h; cases h)
    refine ⟨_, _, pre67 _ ?_, hrun, hended, _, _, rfl, ?_, hRE.1, hRE.2.1, hRE.2.2.1, hRE.2.2.2.mono (by decide) (by decide)⟩
    · show Steps p.tables e below (T66.setTop (mkF m 110 #[.val (.int p1), .val (.int p2), .val (.int ((p1 &&& (65535 : Int32)).toUInt32.toUInt16.toUInt32.toInt32)), .val (.int (own_F1 ((p1 &&& (65535 : Int32)).toUInt32.toUInt16.toUInt32.toInt32))), .val (.int (1 : Int32)), .val (.int ((p2 &&& (2147483647 : Int32)) % (22 : Int32))), .val (.int (nar .char (own_chr (own_m ((p2 &&& (2147483647 : Int32)) % (22 : Int32)))))), .val (.int (if ((p2 &&& (2147483647 : Int32)) % (22 : Int32)) < (16 : Int32) then ((p2 &&& (2147483647 : Int32)) % (22 : Int32)) else (((p2 &&& (2147483647 : Int32)) % (22 : Int32)) - (6 : Int32))))] [(.int (1 : Int32))])) _
      exact retN X66 hx (t := .boolean) Bd.returns (by simp) (hb hby at_110) hr
    · show Q0 Z p1 p2 cs vf h0 n0 _ T66.heap _
      rw [e66]
      exact ⟨rfl, N66⟩
  · obtain ⟨hr1, hr2, hr3⟩ := own_hxr ((p1 &&& (65535 : Int32)).toUInt32.toUInt16.toUInt32.toInt32) (own_c0 _) hc13_59
    have pre69 : ∀ t, Steps p.tables e below (T57.setTop (mkF m 27 #[.val (.int p1), .val (.int p2), .val (.int ((p1 &&& (65535 : Int32)).toUInt32.toUInt16.toUInt32.toInt32)), .val (.int (own_F1 ((p1 &&& (65535 : Int32)).toUInt32.toUInt16.toUInt32.toInt32))), .unset, .unset, .unset, .unset] [(.int ((p1 &&& (65535 : Int32)).toUInt32.toUInt16.toUInt32.toInt32))])) t → Steps p.tables e below (s₁.setTop (entryFrame m #[(.int p1), (.int p2)] maxLocals)) t := by
      intro t kt
      refine pre58 _ ?_
      show Steps p.tables e below (T57.setTop (mkF m 13 #[.val (.int p1), .val (.int p2), .val (.int ((p1 &&& (65535 : Int32)).toUInt32.toUInt16.toUInt32.toInt32)), .val (.int (own_F1 ((p1 &&& (65535 : Int32)).toUInt32.toUInt16.toUInt32.toInt32))), .unset, .unset, .unset, .unset] [(.int (-1 : Int32)), (.int (own_F1 ((p1 &&& (65535 : Int32)).toUInt32.toUInt16.toUInt32.toInt32)))])) _
      refine XS.icmpNo X57.here hx rfl (hb hby at_13) rfl (feq hc13_59).1 ?_
      show Steps p.tables e below (T57.setTop (mkF m 16 #[.val (.int p1), .val (.int p2), .val (.int ((p1 &&& (65535 : Int32)).toUInt32.toUInt16.toUInt32.toInt32)), .val (.int (own_F1 ((p1 &&& (65535 : Int32)).toUInt32.toUInt16.toUInt32.toInt32))), .unset, .unset, .unset, .unset] [])) _
      refine XS.iloadN X57.here hx rfl (hb hby at_16) rfl ?_
      show Steps p.tables e below (T57.setTop (mkF m 17 #[.val (.int p1), .val (.int p2), .val (.int ((p1 &&& (65535 : Int32)).toUInt32.toUInt16.toUInt32.toInt32)), .val (.int (own_F1 ((p1 &&& (65535 : Int32)).toUInt32.toUInt16.toUInt32.toInt32))), .unset, .unset, .unset, .unset] [(.int (own_F1 ((p1 &&& (65535 : Int32)).toUInt32.toUInt16.toUInt32.toInt32)))])) _
      refine XS.ifNo X57.here hx rfl (hb hby at_17) rfl ((if0 _ _).trans (flt (hr1 : ¬ ((own_F1 ((p1 &&& (65535 : Int32)).toUInt32.toUInt16.toUInt32.toInt32)) < (0 : Int32)))).1) ?_
      show Steps p.tables e below (T57.setTop (mkF m 20 #[.val (.int p1), .val (.int p2), .val (.int ((p1 &&& (65535 : Int32)).toUInt32.toUInt16.toUInt32.toInt32)), .val (.int (own_F1 ((p1 &&& (65535 : Int32)).toUInt32.toUInt16.toUInt32.toInt32))), .unset, .unset, .unset, .unset] [])) _
      refine XS.iloadN X57.here hx rfl (hb hby at_20) rfl ?_
      show Steps p.tables e below (T57.setTop (mkF m 21 #[.val (.int p1), .val (.int p2), .val (.int ((p1 &&& (65535 : Int32)).toUInt32.toUInt16.toUInt32.toInt32)), .val (.int (own_F1 ((p1 &&& (65535 : Int32)).toUInt32.toUInt16.toUInt32.toInt32))), .unset, .unset, .unset, .unset] [(.int (own_F1 ((p1 &&& (65535 : Int32)).toUInt32.toUInt16.toUInt32.toInt32)))])) _
      refine XS.bipush X57.here hx rfl (hb hby at_21) ?_
      show Steps p.tables e below (T57.setTop (mkF m 23 #[.val (.int p1), .val (.int p2), .val (.int ((p1 &&& (65535 : Int32)).toUInt32.toUInt16.toUInt32.toInt32)), .val (.int (own_F1 ((p1 &&& (65535 : Int32)).toUInt32.toUInt16.toUInt32.toInt32))), .unset, .unset, .unset, .unset] [(.int (16 : Int32)), (.int (own_F1 ((p1 &&& (65535 : Int32)).toUInt32.toUInt16.toUInt32.toInt32)))])) _
      refine XS.icmpNo X57.here hx rfl (hb hby at_23) rfl (tlt (hr2 : (own_F1 ((p1 &&& (65535 : Int32)).toUInt32.toUInt16.toUInt32.toInt32)) < (16 : Int32))).2.1 ?_
      show Steps p.tables e below (T57.setTop (mkF m 26 #[.val (.int p1), .val (.int p2), .val (.int ((p1 &&& (65535 : Int32)).toUInt32.toUInt16.toUInt32.toInt32)), .val (.int (own_F1 ((p1 &&& (65535 : Int32)).toUInt32.toUInt16.toUInt32.toInt32))), .unset, .unset, .unset, .unset] [])) _
      refine XS.iloadN X57.here hx rfl (hb hby at_26) rfl ?_
      exact kt
    obtain ⟨a68, T68, h68, k68, b68, c68, X68, e68, E68, hS68, hk68, hZ68, hown68, gE68, gC68, gV68, gA68, -, -, hI68, st68⟩ := ldcSV X57 hx hZ hown (hw _ (List.mem_of_getElem? (i := 39) rfl)) wS e57 hS0 hk0 (show Fr s.heap.size _ by rw [← hn1]; exact N57) hkp hIB0 (Ts := []) (by decide) (hch _ (List.mem_of_getElem? (i := 0) rfl)) hcw (vs := [Value.int (48 : Int32), Value.int (49 : Int32), Value.int (50 : Int32), Value.int (51 : Int32), Value.int (52 : Int32), Value.int (53 : Int32), Value.int (54 : Int32), Value.int (55 : Int32), Value.int (56 : Int32), Value.int (57 : Int32), Value.int (65 : Int32), Value.int (66 : Int32), Value.int (67 : Int32), Value.int (68 : Int32), Value.int (69 : Int32), Value.int (70 : Int32)]) (z := (16 : Int32)) ⟨by decide, by decide⟩ (by decide) (by decide) (g := (mkF m 27 #[.val (.int p1), .val (.int p2), .val (.int ((p1 &&& (65535 : Int32)).toUInt32.toUInt16.toUInt32.toInt32)), .val (.int (own_F1 ((p1 &&& (65535 : Int32)).toUInt32.toUInt16.toUInt32.toInt32))), .unset, .unset, .unset, .unset] [(.int ((p1 &&& (65535 : Int32)).toUInt32.toUInt16.toUInt32.toInt32))])) rfl (hb hby at_27) (n := 64) (by decide) (by decide) (by decide) (by decide)
    have hZ := hZ68
    have hown := hown68
    have K68 : Keep h0 h68 [] := (Keep.refl h0 []).ext E68
    obtain ⟨cl70, Ar70, q70, Sz70, Nz70, Hs70, -⟩ := gA68
    have at70 := Has.at Hs70 (inb_of Sz70 ⟨hr1, hr2⟩) (own_atU (own_F1 ((p1 &&& (65535 : Int32)).toUInt32.toUInt16.toUInt32.toInt32)) hr1 hr2).1
    obtain ⟨cq71, kq71, q71a, q71b, q71c⟩ := isOf hZ e68 gE68
    obtain ⟨_, _, ⟨T71, L71, k71, n71⟩, -, X71, ⟨Lc71, hQ71, l71, y71, z71⟩, st71⟩ := X68.virtualBack hx (y := (⟨"java/lang/String", "charAt", "(I)C"⟩ : MethodName)) (z := (⟨"java/lang/String", "charAt", "(I)C"⟩ : MethodName)) hown (mvT hZ (hw _ (List.mem_of_getElem? (i := 14) rfl))) (mvT hZ (hw _ (List.mem_of_getElem? (i := 15) rfl))) (notFace_of_selects (args := #[]) (mvT hZ (hw _ (List.mem_of_getElem? (i := 17) rfl)))) (mvT hZ (hw _ (List.mem_of_getElem? (i := 17) rfl))) (mvT hZ (hw _ (List.mem_of_getElem? (i := 16) rfl))) (by decide) (backOf (W := 1) (rm2 l Z a0 hw [] a68 (own_F1 ((p1 &&& (65535 : Int32)).toUInt32.toUInt16.toUInt32.toInt32)) b68 cl70 (16 : Int32) (own_u (own_F1 ((p1 &&& (65535 : Int32)).toUInt32.toUInt16.toUInt32.toInt32))) cs vf h68 n0 (Nat.le_trans Z0 E68.1) gE68 gC68 gV68 Ar70 Sz70 Nz70 hr1 hr2 at70 (SC.ext E68) hcs (SF.ext E68) hvf) hZ (hw _ (List.mem_of_getElem? (i := 18) rfl)) (hw _ (List.mem_of_getElem? (i := 7) rfl)) (by decide) (by decide)) q71a q71c (g := (mkF m 30 #[.val (.int p1), .val (.int p2), .val (.int ((p1 &&& (65535 : Int32)).toUInt32.toUInt16.toUInt32.toInt32)), .val (.int (own_F1 ((p1 &&& (65535 : Int32)).toUInt32.toUInt16.toUInt32.toInt32))), .unset, .unset, .unset, .unset] [(.int (own_F1 ((p1 &&& (65535 : Int32)).toUInt32.toUInt16.toUInt32.toInt32))), (.ref a68), (.int ((p1 &&& (65535 : Int32)).toUInt32.toUInt16.toUInt32.toInt32))])) rfl (by rw [hml]; rfl) (Steps.refl _) (argsL := [(.int (own_F1 ((p1 &&& (65535 : Int32)).toUInt32.toUInt16.toUInt32.toInt32)))]) (rest := [(.int ((p1 &&& (65535 : Int32)).toUInt32.toUInt16.toUInt32.toInt32))]) (lenOf pd_5 rfl) rfl (by show 2 * 0 + _ ≤ _; exact Nat.le_of_eq rfl) (hb hby at_30) (fun _ _ => ⟨rfl, e68, (by decide : 2 + 0 ≤ _), (by decide : 68 + 0 ≤ _)⟩)
    dsimp only [Pt.U, Pt.locs, Pt.cells, Pt.slots] at X71 l71 y71 z71 st71 hQ71
    subst l71 y71 z71
    obtain ⟨rfl, N71q, e71⟩ := hQ71
    have N71 := Fr.app N57 N71q
    have pre72 : ∀ t, Steps p.tables e below (T71.setTop (mkF m 33 #[.val (.int p1), .val (.int p2), .val (.int ((p1 &&& (65535 : Int32)).toUInt32.toUInt16.toUInt32.toInt32)), .val (.int (own_F1 ((p1 &&& (65535 : Int32)).toUInt32.toUInt16.toUInt32.toInt32))), .unset, .unset, .unset, .unset] [(.int (nar .char (own_chr (own_u (own_F1 ((p1 &&& (65535 : Int32)).toUInt32.toUInt16.toUInt32.toInt32)))))), (.int ((p1 &&& (65535 : Int32)).toUInt32.toUInt16.toUInt32.toInt32))])) t → Steps p.tables e below (s₁.setTop (entryFrame m #[(.int p1), (.int p2)] maxLocals)) t := by
      intro t kt
      refine pre69 _ ?_
      show Steps p.tables e below (T57.setTop (mkF m 27 #[.val (.int p1), .val (.int p2), .val (.int ((p1 &&& (65535 : Int32)).toUInt32.toUInt16.toUInt32.toInt32)), .val (.int (own_F1 ((p1 &&& (65535 : Int32)).toUInt32.toUInt16.toUInt32.toInt32))), .unset, .unset, .unset, .unset] [(.int ((p1 &&& (65535 : Int32)).toUInt32.toUInt16.toUInt32.toInt32))])) _
      refine st68 _ ?_
      show Steps p.tables e below (T68.setTop (mkF m 29 #[.val (.int p1), .val (.int p2), .val (.int ((p1 &&& (65535 : Int32)).toUInt32.toUInt16.toUInt32.toInt32)), .val (.int (own_F1 ((p1 &&& (65535 : Int32)).toUInt32.toUInt16.toUInt32.toInt32))), .unset, .unset, .unset, .unset] [(.ref a68), (.int ((p1 &&& (65535 : Int32)).toUInt32.toUInt16.toUInt32.toInt32))])) _
      refine XS.iloadN X68.here hx rfl (hb hby at_29) rfl ?_
      show Steps p.tables e below (T68.setTop (mkF m 30 #[.val (.int p1), .val (.int p2), .val (.int ((p1 &&& (65535 : Int32)).toUInt32.toUInt16.toUInt32.toInt32)), .val (.int (own_F1 ((p1 &&& (65535 : Int32)).toUInt32.toUInt16.toUInt32.toInt32))), .unset, .unset, .unset, .unset] [(.int (own_F1 ((p1 &&& (65535 : Int32)).toUInt32.toUInt16.toUInt32.toInt32))), (.ref a68), (.int ((p1 &&& (65535 : Int32)).toUInt32.toUInt16.toUInt32.toInt32))])) _
      refine st71.trans ?_
      exact kt
    by_cases hc33_73 : ((p1 &&& (65535 : Int32)).toUInt32.toUInt16.toUInt32.toInt32) = (nar .char (own_chr (own_u (own_F1 ((p1 &&& (65535 : Int32)).toUInt32.toUInt16.toUInt32.toInt32)))))
    · have pre75 : ∀ t, Steps p.tables e below (T71.setTop (mkF m 62 #[.val (.int p1), .val (.int p2), .val (.int ((p1 &&& (65535 : Int32)).toUInt32.toUInt16.toUInt32.toInt32)), .val (.int (own_F1 ((p1 &&& (65535 : Int32)).toUInt32.toUInt16.toUInt32.toInt32))), .val (.int (1 : Int32)), .val (.int ((p2 &&& (2147483647 : Int32)) % (22 : Int32))), .unset, .unset] [])) t → Steps p.tables e below (s₁.setTop (entryFrame m #[(.int p1), (.int p2)] maxLocals)) t := by
        intro t kt
        refine pre72 _ ?_
        show Steps p.tables e below (T71.setTop (mkF m 33 #[.val (.int p1), .val (.int p2), .val (.int ((p1 &&& (65535 : Int32)).toUInt32.toUInt16.toUInt32.toInt32)), .val (.int (own_F1 ((p1 &&& (65535 : Int32)).toUInt32.toUInt16.toUInt32.toInt32))), .unset, .unset, .unset, .unset] [(.int (nar .char (own_chr (own_u (own_F1 ((p1 &&& (65535 : Int32)).toUInt32.toUInt16.toUInt32.toInt32)))))), (.int ((p1 &&& (65535 : Int32)).toUInt32.toUInt16.toUInt32.toInt32))])) _
        refine XS.icmpYes X71.here hx rfl (pc0 := 33) (pc' := 46) rfl (hb hby at_33) rfl (teq hc33_73).1 (by decide) (by decide) ?_
        show Steps p.tables e below (T71.setTop (mkF m 46 #[.val (.int p1), .val (.int p2), .val (.int ((p1 &&& (65535 : Int32)).toUInt32.toUInt16.toUInt32.toInt32)), .val (.int (own_F1 ((p1 &&& (65535 : Int32)).toUInt32.toUInt16.toUInt32.toInt32))), .unset, .unset, .unset, .unset] [])) _
        refine XS.iconst X71.here hx rfl (hb hby at_46) ?_
        show Steps p.tables e below (T71.setTop (mkF m 47 #[.val (.int p1), .val (.int p2), .val (.int ((p1 &&& (65535 : Int32)).toUInt32.toUInt16.toUInt32.toInt32)), .val (.int (own_F1 ((p1 &&& (65535 : Int32)).toUInt32.toUInt16.toUInt32.toInt32))), .unset, .unset, .unset, .unset] [(.int (1 : Int32))])) _
        refine XS.goto X71.here hx rfl (pc0 := 47) (pc' := 51) rfl (hb hby at_47) (by decide) (by decide) ?_
        show Steps p.tables e below (T71.setTop (mkF m 51 #[.val (.int p1), .val (.int p2), .val (.int ((p1 &&& (65535 : Int32)).toUInt32.toUInt16.toUInt32.toInt32)), .val (.int (own_F1 ((p1 &&& (65535 : Int32)).toUInt32.toUInt16.toUInt32.toInt32))), .unset, .unset, .unset, .unset] [(.int (1 : Int32))])) _
        refine XS.istore X71.here hx rfl (hb hby at_51) rfl (l' := #[.val (.int p1), .val (.int p2), .val (.int ((p1 &&& (65535 : Int32)).toUInt32.toUInt16.toUInt32.toInt32)), .val (.int (own_F1 ((p1 &&& (65535 : Int32)).toUInt32.toUInt16.toUInt32.toInt32))), .val (.int (1 : Int32)), .unset, .unset, .unset]) rfl ?_
        show Steps p.tables e below (T71.setTop (mkF m 53 #[.val (.int p1), .val (.int p2), .val (.int ((p1 &&& (65535 : Int32)).toUInt32.toUInt16.toUInt32.toInt32)), .val (.int (own_F1 ((p1 &&& (65535 : Int32)).toUInt32.toUInt16.toUInt32.toInt32))), .val (.int (1 : Int32)), .unset, .unset, .unset] [])) _
        refine XS.iloadN X71.here hx rfl (hb hby at_53) rfl ?_
        show Steps p.tables e below (T71.setTop (mkF m 54 #[.val (.int p1), .val (.int p2), .val (.int ((p1 &&& (65535 : Int32)).toUInt32.toUInt16.toUInt32.toInt32)), .val (.int (own_F1 ((p1 &&& (65535 : Int32)).toUInt32.toUInt16.toUInt32.toInt32))), .val (.int (1 : Int32)), .unset, .unset, .unset] [(.int p2)])) _
        refine X71.ldcInt hx hown (mvT hZ (hw _ (List.mem_of_getElem? (i := 5) rfl))) (g := (mkF m 54 #[.val (.int p1), .val (.int p2), .val (.int ((p1 &&& (65535 : Int32)).toUInt32.toUInt16.toUInt32.toInt32)), .val (.int (own_F1 ((p1 &&& (65535 : Int32)).toUInt32.toUInt16.toUInt32.toInt32))), .val (.int (1 : Int32)), .unset, .unset, .unset] [(.int p2)])) rfl (hb hby at_54) _ ?_
        show Steps p.tables e below (T71.setTop (mkF m 56 #[.val (.int p1), .val (.int p2), .val (.int ((p1 &&& (65535 : Int32)).toUInt32.toUInt16.toUInt32.toInt32)), .val (.int (own_F1 ((p1 &&& (65535 : Int32)).toUInt32.toUInt16.toUInt32.toInt32))), .val (.int (1 : Int32)), .unset, .unset, .unset] [(.int (2147483647 : Int32)), (.int p2)])) _
        refine XS.iand X71.here hx rfl (hb hby at_56) rfl ?_
        show Steps p.tables e below (T71.setTop (mkF m 57 #[.val (.int p1), .val (.int p2), .val (.int ((p1 &&& (65535 : Int32)).toUInt32.toUInt16.toUInt32.toInt32)), .val (.int (own_F1 ((p1 &&& (65535 : Int32)).toUInt32.toUInt16.toUInt32.toInt32))), .val (.int (1 : Int32)), .unset, .unset, .unset] [(.int (p2 &&& (2147483647 : Int32)))])) _
        refine XS.bipush X71.here hx rfl (hb hby at_57) ?_
        show Steps p.tables e below (T71.setTop (mkF m 59 #[.val (.int p1), .val (.int p2), .val (.int ((p1 &&& (65535 : Int32)).toUInt32.toUInt16.toUInt32.toInt32)), .val (.int (own_F1 ((p1 &&& (65535 : Int32)).toUInt32.toUInt16.toUInt32.toInt32))), .val (.int (1 : Int32)), .unset, .unset, .unset] [(.int (22 : Int32)), (.int (p2 &&& (2147483647 : Int32)))])) _
        refine iremM X71 hx rfl (hb hby at_59) rfl (by decide) ?_
        show Steps p.tables e below (T71.setTop (mkF m 60 #[.val (.int p1), .val (.int p2), .val (.int ((p1 &&& (65535 : Int32)).toUInt32.toUInt16.toUInt32.toInt32)), .val (.int (own_F1 ((p1 &&& (65535 : Int32)).toUInt32.toUInt16.toUInt32.toInt32))), .val (.int (1 : Int32)), .unset, .unset, .unset] [(.int ((p2 &&& (2147483647 : Int32)) % (22 : Int32)))])) _
        refine XS.istore X71.here hx rfl (hb hby at_60) rfl (l' := #[.val (.int p1), .val (.int p2), .val (.int ((p1 &&& (65535 : Int32)).toUInt32.toUInt16.toUInt32.toInt32)), .val (.int (own_F1 ((p1 &&& (65535 : Int32)).toUInt32.toUInt16.toUInt32.toInt32))), .val (.int (1 : Int32)), .val (.int ((p2 &&& (2147483647 : Int32)) % (22 : Int32))), .unset, .unset]) rfl ?_
        exact kt
      obtain ⟨a74, T74, h74, k74, b74, c74, X74, e74, E74, hS74, hk74, hZ74, hown74, gE74, gC74, gV74, gA74, -, -, hI74, st74⟩ := ldcSV X71 hx hZ hown (hw _ (List.mem_of_getElem? (i := 6) rfl)) wS e71 hS68 hk68 (show Fr s.heap.size _ by rw [← hn1]; exact N71) hkp hI68 (Ts := ["0123456789ABCDEF"]) (by decide) (hch _ (List.mem_of_getElem? (i := 2) rfl)) hcw (vs := [Value.int (48 : Int32), Value.int (49 : Int32), Value.int (50 : Int32), Value.int (51 : Int32), Value.int (52 : Int32), Value.int (53 : Int32), Value.int (54 : Int32), Value.int (55 : Int32), Value.int (56 : Int32), Value.int (57 : Int32), Value.int (65 : Int32), Value.int (66 : Int32), Value.int (67 : Int32), Value.int (68 : Int32), Value.int (69 : Int32), Value.int (70 : Int32), Value.int (97 : Int32), Value.int (98 : Int32), Value.int (99 : Int32), Value.int (100 : Int32), Value.int (101 : Int32), Value.int (102 : Int32)]) (z := (22 : Int32)) ⟨by decide, by decide⟩ (by decide) (by decide) (g := (mkF m 62 #[.val (.int p1), .val (.int p2), .val (.int ((p1 &&& (65535 : Int32)).toUInt32.toUInt16.toUInt32.toInt32)), .val (.int (own_F1 ((p1 &&& (65535 : Int32)).toUInt32.toUInt16.toUInt32.toInt32))), .val (.int (1 : Int32)), .val (.int ((p2 &&& (2147483647 : Int32)) % (22 : Int32))), .unset, .unset] [])) rfl (hb hby at_62) (n := 88) (by decide) (by decide) (by decide) (by decide)
      have hZ := hZ74
      have hown := hown74
      have K74 : Keep h0 h74 [] := K68.ext E74
      have z76 : n0 ≤ h74.size := (Nat.le_trans (Nat.le_trans Z0 E68.1) E74.1)
      obtain ⟨cl77, Ar77, q77, Sz77, Nz77, Hs77, -⟩ := gA74
      have at77 := Has.at Hs77 (inb_of Sz77 ⟨(own_ix p2).1, (own_ix p2).2⟩) (own_atM ((p2 &&& (2147483647 : Int32)) % (22 : Int32)) (own_ix p2).1 (own_ix p2).2).1
      obtain ⟨cq78, kq78, q78a, q78b, q78c⟩ := isOf hZ e74 gE74
      obtain ⟨_, _, ⟨T78, L78, k78, n78⟩, -, X78, ⟨Lc78, hQ78, l78, y78, z78⟩, st78⟩ := X74.virtualBack hx (y := (⟨"java/lang/String", "charAt", "(I)C"⟩ : MethodName)) (z := (⟨"java/lang/String", "charAt", "(I)C"⟩ : MethodName)) hown (mvT hZ (hw _ (List.mem_of_getElem? (i := 14) rfl))) (mvT hZ (hw _ (List.mem_of_getElem? (i := 15) rfl))) (notFace_of_selects (args := #[]) (mvT hZ (hw _ (List.mem_of_getElem? (i := 17) rfl)))) (mvT hZ (hw _ (List.mem_of_getElem? (i := 17) rfl))) (mvT hZ (hw _ (List.mem_of_getElem? (i := 16) rfl))) (by decide) (backOf (W := 0) (rm2 l Z a0 hw [] a74 ((p2 &&& (2147483647 : Int32)) % (22 : Int32)) b74 cl77 (22 : Int32) (own_m ((p2 &&& (2147483647 : Int32)) % (22 : Int32))) cs vf h74 n0 z76 gE74 gC74 gV74 Ar77 Sz77 Nz77 (own_ix p2).1 (own_ix p2).2 at77 ((SC.ext E68).ext E74) hcs ((SF.ext E68).ext E74) hvf) hZ (hw _ (List.mem_of_getElem? (i := 18) rfl)) (hw _ (List.mem_of_getElem? (i := 7) rfl)) (by decide) (by decide)) q78a q78c (g := (mkF m 66 #[.val (.int p1), .val (.int p2), .val (.int ((p1 &&& (65535 : Int32)).toUInt32.toUInt16.toUInt32.toInt32)), .val (.int (own_F1 ((p1 &&& (65535 : Int32)).toUInt32.toUInt16.toUInt32.toInt32))), .val (.int (1 : Int32)), .val (.int ((p2 &&& (2147483647 : Int32)) % (22 : Int32))), .unset, .unset] [(.int ((p2 &&& (2147483647 : Int32)) % (22 : Int32))), (.ref a74)])) rfl (by rw [hml]; rfl) (Steps.refl _) (argsL := [(.int ((p2 &&& (2147483647 : Int32)) % (22 : Int32)))]) (rest := []) (lenOf pd_5 rfl) rfl (by show 2 * 0 + _ ≤ _; exact Nat.le_of_eq rfl) (hb hby at_66) (fun _ _ => ⟨rfl, e74, (by decide : 4 + 0 ≤ _), (by decide : 160 + 0 ≤ _)⟩)
      dsimp only [Pt.U, Pt.locs, Pt.cells, Pt.slots] at X78 l78 y78 z78 st78 hQ78
      subst l78 y78 z78
      obtain ⟨rfl, N78q, e78⟩ := hQ78
      have N78 := Fr.app N71 N78q
      have pre80 : ∀ t, Steps p.tables e below (T78.setTop (mkF m 88 #[.val (.int p1), .val (.int p2), .val (.int ((p1 &&& (65535 : Int32)).toUInt32.toUInt16.toUInt32.toInt32)), .val (.int (own_F1 ((p1 &&& (65535 : Int32)).toUInt32.toUInt16.toUInt32.toInt32))), .val (.int (1 : Int32)), .val (.int ((p2 &&& (2147483647 : Int32)) % (22 : Int32))), .val (.int (nar .char (own_chr (own_m ((p2 &&& (2147483647 : Int32)) % (22 : Int32)))))), .unset] [(.int (if ((p2 &&& (2147483647 : Int32)) % (22 : Int32)) < (16 : Int32) then ((p2 &&& (2147483647 : Int32)) % (22 : Int32)) else (((p2 &&& (2147483647 : Int32)) % (22 : Int32)) - (6 : Int32))))])) t → Steps p.tables e below (s₁.setTop (entryFrame m #[(.int p1), (.int p2)] maxLocals)) t := by
        intro t kt
        refine pre75 _ ?_
        show Steps p.tables e below (T71.setTop (mkF m 62 #[.val (.int p1), .val (.int p2), .val (.int ((p1 &&& (65535 : Int32)).toUInt32.toUInt16.toUInt32.toInt32)), .val (.int (own_F1 ((p1 &&& (65535 : Int32)).toUInt32.toUInt16.toUInt32.toInt32))), .val (.int (1 : Int32)), .val (.int ((p2 &&& (2147483647 : Int32)) % (22 : Int32))), .unset, .unset] [])) _
        refine st74 _ ?_
        show Steps p.tables e below (T74.setTop (mkF m 64 #[.val (.int p1), .val (.int p2), .val (.int ((p1 &&& (65535 : Int32)).toUInt32.toUInt16.toUInt32.toInt32)), .val (.int (own_F1 ((p1 &&& (65535 : Int32)).toUInt32.toUInt16.toUInt32.toInt32))), .val (.int (1 : Int32)), .val (.int ((p2 &&& (2147483647 : Int32)) % (22 : Int32))), .unset, .unset] [(.ref a74)])) _
        refine XS.iload X74.here hx rfl (hb hby at_64) rfl ?_
        show Steps p.tables e below (T74.setTop (mkF m 66 #[.val (.int p1), .val (.int p2), .val (.int ((p1 &&& (65535 : Int32)).toUInt32.toUInt16.toUInt32.toInt32)), .val (.int (own_F1 ((p1 &&& (65535 : Int32)).toUInt32.toUInt16.toUInt32.toInt32))), .val (.int (1 : Int32)), .val (.int ((p2 &&& (2147483647 : Int32)) % (22 : Int32))), .unset, .unset] [(.int ((p2 &&& (2147483647 : Int32)) % (22 : Int32))), (.ref a74)])) _
        refine st78.trans ?_
        show Steps p.tables e below (T78.setTop (mkF m 69 #[.val (.int p1), .val (.int p2), .val (.int ((p1 &&& (65535 : Int32)).toUInt32.toUInt16.toUInt32.toInt32)), .val (.int (own_F1 ((p1 &&& (65535 : Int32)).toUInt32.toUInt16.toUInt32.toInt32))), .val (.int (1 : Int32)), .val (.int ((p2 &&& (2147483647 : Int32)) % (22 : Int32))), .unset, .unset] [(.int (nar .char (own_chr (own_m ((p2 &&& (2147483647 : Int32)) % (22 : Int32))))))])) _
        refine XS.istore X78.here hx rfl (hb hby at_69) rfl (l' := #[.val (.int p1), .val (.int p2), .val (.int ((p1 &&& (65535 : Int32)).toUInt32.toUInt16.toUInt32.toInt32)), .val (.int (own_F1 ((p1 &&& (65535 : Int32)).toUInt32.toUInt16.toUInt32.toInt32))), .val (.int (1 : Int32)), .val (.int ((p2 &&& (2147483647 : Int32)) % (22 : Int32))), .val (.int (nar .char (own_chr (own_m ((p2 &&& (2147483647 : Int32)) % (22 : Int32)))))), .unset]) rfl ?_
        show Steps p.tables e below (T78.setTop (mkF m 71 #[.val (.int p1), .val (.int p2), .val (.int ((p1 &&& (65535 : Int32)).toUInt32.toUInt16.toUInt32.toInt32)), .val (.int (own_F1 ((p1 &&& (65535 : Int32)).toUInt32.toUInt16.toUInt32.toInt32))), .val (.int (1 : Int32)), .val (.int ((p2 &&& (2147483647 : Int32)) % (22 : Int32))), .val (.int (nar .char (own_chr (own_m ((p2 &&& (2147483647 : Int32)) % (22 : Int32)))))), .unset] [])) _
        refine XS.iload X78.here hx rfl (hb hby at_71) rfl ?_
        show Steps p.tables e below (T78.setTop (mkF m 73 #[.val (.int p1), .val (.int p2), .val (.int ((p1 &&& (65535 : Int32)).toUInt32.toUInt16.toUInt32.toInt32)), .val (.int (own_F1 ((p1 &&& (65535 : Int32)).toUInt32.toUInt16.toUInt32.toInt32))), .val (.int (1 : Int32)), .val (.int ((p2 &&& (2147483647 : Int32)) % (22 : Int32))), .val (.int (nar .char (own_chr (own_m ((p2 &&& (2147483647 : Int32)) % (22 : Int32)))))), .unset] [(.int ((p2 &&& (2147483647 : Int32)) % (22 : Int32)))])) _
        refine XS.bipush X78.here hx rfl (hb hby at_73) ?_
        by_cases hj75_79 : ((p2 &&& (2147483647 : Int32)) % (22 : Int32)) < (16 : Int32)
        · rw [if_pos hj75_79] at kt
          show Steps p.tables e below (T78.setTop (mkF m 75 #[.val (.int p1), .val (.int p2), .val (.int ((p1 &&& (65535 : Int32)).toUInt32.toUInt16.toUInt32.toInt32)), .val (.int (own_F1 ((p1 &&& (65535 : Int32)).toUInt32.toUInt16.toUInt32.toInt32))), .val (.int (1 : Int32)), .val (.int ((p2 &&& (2147483647 : Int32)) % (22 : Int32))), .val (.int (nar .char (own_chr (own_m ((p2 &&& (2147483647 : Int32)) % (22 : Int32)))))), .unset] [(.int (16 : Int32)), (.int ((p2 &&& (2147483647 : Int32)) % (22 : Int32)))])) _
          refine XS.icmpNo X78.here hx rfl (hb hby at_75) rfl (tlt hj75_79).2.1 ?_
          show Steps p.tables e below (T78.setTop (mkF m 78 #[.val (.int p1), .val (.int p2), .val (.int ((p1 &&& (65535 : Int32)).toUInt32.toUInt16.toUInt32.toInt32)), .val (.int (own_F1 ((p1 &&& (65535 : Int32)).toUInt32.toUInt16.toUInt32.toInt32))), .val (.int (1 : Int32)), .val (.int ((p2 &&& (2147483647 : Int32)) % (22 : Int32))), .val (.int (nar .char (own_chr (own_m ((p2 &&& (2147483647 : Int32)) % (22 : Int32)))))), .unset] [])) _
          refine XS.iload X78.here hx rfl (hb hby at_78) rfl ?_
          show Steps p.tables e below (T78.setTop (mkF m 80 #[.val (.int p1), .val (.int p2), .val (.int ((p1 &&& (65535 : Int32)).toUInt32.toUInt16.toUInt32.toInt32)), .val (.int (own_F1 ((p1 &&& (65535 : Int32)).toUInt32.toUInt16.toUInt32.toInt32))), .val (.int (1 : Int32)), .val (.int ((p2 &&& (2147483647 : Int32)) % (22 : Int32))), .val (.int (nar .char (own_chr (own_m ((p2 &&& (2147483647 : Int32)) % (22 : Int32)))))), .unset] [(.int ((p2 &&& (2147483647 : Int32)) % (22 : Int32)))])) _
          refine XS.goto X78.here hx rfl (pc0 := 80) (pc' := 88) rfl (hb hby at_80) (by decide) (by decide) ?_
          exact kt
        · rw [if_neg hj75_79] at kt
          show Steps p.tables e below (T78.setTop (mkF m 75 #[.val (.int p1), .val (.int p2), .val (.int ((p1 &&& (65535 : Int32)).toUInt32.toUInt16.toUInt32.toInt32)), .val (.int (own_F1 ((p1 &&& (65535 : Int32)).toUInt32.toUInt16.toUInt32.toInt32))), .val (.int (1 : Int32)), .val (.int ((p2 &&& (2147483647 : Int32)) % (22 : Int32))), .val (.int (nar .char (own_chr (own_m ((p2 &&& (2147483647 : Int32)) % (22 : Int32)))))), .unset] [(.int (16 : Int32)), (.int ((p2 &&& (2147483647 : Int32)) % (22 : Int32)))])) _
          refine XS.icmpYes X78.here hx rfl (pc0 := 75) (pc' := 83) rfl (hb hby at_75) rfl (flt hj75_79).2.1 (by decide) (by decide) ?_
          show Steps p.tables e below (T78.setTop (mkF m 83 #[.val (.int p1), .val (.int p2), .val (.int ((p1 &&& (65535 : Int32)).toUInt32.toUInt16.toUInt32.toInt32)), .val (.int (own_F1 ((p1 &&& (65535 : Int32)).toUInt32.toUInt16.toUInt32.toInt32))), .val (.int (1 : Int32)), .val (.int ((p2 &&& (2147483647 : Int32)) % (22 : Int32))), .val (.int (nar .char (own_chr (own_m ((p2 &&& (2147483647 : Int32)) % (22 : Int32)))))), .unset] [])) _
          refine XS.iload X78.here hx rfl (hb hby at_83) rfl ?_
          show Steps p.tables e below (T78.setTop (mkF m 85 #[.val (.int p1), .val (.int p2), .val (.int ((p1 &&& (65535 : Int32)).toUInt32.toUInt16.toUInt32.toInt32)), .val (.int (own_F1 ((p1 &&& (65535 : Int32)).toUInt32.toUInt16.toUInt32.toInt32))), .val (.int (1 : Int32)), .val (.int ((p2 &&& (2147483647 : Int32)) % (22 : Int32))), .val (.int (nar .char (own_chr (own_m ((p2 &&& (2147483647 : Int32)) % (22 : Int32)))))), .unset] [(.int ((p2 &&& (2147483647 : Int32)) % (22 : Int32)))])) _
          refine XS.bipush X78.here hx rfl (hb hby at_85) ?_
          show Steps p.tables e below (T78.setTop (mkF m 87 #[.val (.int p1), .val (.int p2), .val (.int ((p1 &&& (65535 : Int32)).toUInt32.toUInt16.toUInt32.toInt32)), .val (.int (own_F1 ((p1 &&& (65535 : Int32)).toUInt32.toUInt16.toUInt32.toInt32))), .val (.int (1 : Int32)), .val (.int ((p2 &&& (2147483647 : Int32)) % (22 : Int32))), .val (.int (nar .char (own_chr (own_m ((p2 &&& (2147483647 : Int32)) % (22 : Int32)))))), .unset] [(.int (6 : Int32)), (.int ((p2 &&& (2147483647 : Int32)) % (22 : Int32)))])) _
          refine XS.isub X78.here hx rfl (hb hby at_87) rfl ?_
          exact kt
      obtain ⟨_, _, ⟨T81, L81, k81, n81⟩, -, X81, ⟨Lc81, hQ81, l81, y81, z81⟩, st81⟩ := Jvm.LawKit.callS X78 hx (y := (⟨"com/example/elemento/elemento/PercentEncoding", "hexValue", "(C)I"⟩ : MethodName)) hown (mvT hZ (hw _ (List.mem_of_getElem? (i := 1) rfl))) (mvT hZ (hw _ (List.mem_of_getElem? (i := 2) rfl))) (mvT hZ (hw _ (List.mem_of_getElem? (i := 3) rfl))) (mvT hZ (hw _ (List.mem_of_getElem? (i := 4) rfl))) (by decide) (backOf (W := 0) (rm1 l Z a0 hw [] (nar .char (own_chr (own_m ((p2 &&& (2147483647 : Int32)) % (22 : Int32))))) h74 n0 z76) hZ (hw _ (List.mem_of_getElem? (i := 4) rfl)) (hw _ (List.mem_of_getElem? (i := 3) rfl)) (by decide) (by decide)) (g := (mkF m 97 #[.val (.int p1), .val (.int p2), .val (.int ((p1 &&& (65535 : Int32)).toUInt32.toUInt16.toUInt32.toInt32)), .val (.int (own_F1 ((p1 &&& (65535 : Int32)).toUInt32.toUInt16.toUInt32.toInt32))), .val (.int (1 : Int32)), .val (.int ((p2 &&& (2147483647 : Int32)) % (22 : Int32))), .val (.int (nar .char (own_chr (own_m ((p2 &&& (2147483647 : Int32)) % (22 : Int32)))))), .val (.int (if ((p2 &&& (2147483647 : Int32)) % (22 : Int32)) < (16 : Int32) then ((p2 &&& (2147483647 : Int32)) % (22 : Int32)) else (((p2 &&& (2147483647 : Int32)) % (22 : Int32)) - (6 : Int32))))] [(.int (nar .char (own_chr (own_m ((p2 &&& (2147483647 : Int32)) % (22 : Int32))))))])) rfl (by rw [hml]; rfl) (argsL := [(.int (nar .char (own_chr (own_m ((p2 &&& (2147483647 : Int32)) % (22 : Int32))))))]) (rest := []) (lenOf pd_4 rfl) rfl (by show 2 * 0 + _ ≤ _; exact Nat.le_of_eq rfl) (hb hby at_97) (fun _ _ => ⟨rfl, e78, (by decide : 4 + 0 ≤ _), (by decide : 160 + 0 ≤ _)⟩)
      dsimp only [Pt.U, Pt.locs, Pt.cells, Pt.slots] at X81 l81 y81 z81 st81 hQ81
      subst l81 y81 z81
      obtain ⟨rfl, N81q, e81⟩ := hQ81
      have N81 := Fr.app N78 N81q
      have pre82 : ∀ t, Steps p.tables e below (T81.setTop (mkF m 110 #[.val (.int p1), .val (.int p2), .val (.int ((p1 &&& (65535 : Int32)).toUInt32.toUInt16.toUInt32.toInt32)), .val (.int (own_F1 ((p1 &&& (65535 : Int32)).toUInt32.toUInt16.toUInt32.toInt32))), .val (.int (1 : Int32)), .val (.int ((p2 &&& (2147483647 : Int32)) % (22 : Int32))), .val (.int (nar .char (own_chr (own_m ((p2 &&& (2147483647 : Int32)) % (22 : Int32)))))), .val (.int (if ((p2 &&& (2147483647 : Int32)) % (22 : Int32)) < (16 : Int32) then ((p2 &&& (2147483647 : Int32)) % (22 : Int32)) else (((p2 &&& (2147483647 : Int32)) % (22 : Int32)) - (6 : Int32))))] [(.int (1 : Int32))])) t → Steps p.tables e below (s₁.setTop (entryFrame m #[(.int p1), (.int p2)] maxLocals)) t := by
        intro t kt
        refine pre80 _ ?_
        show Steps p.tables e below (T78.setTop (mkF m 88 #[.val (.int p1), .val (.int p2), .val (.int ((p1 &&& (65535 : Int32)).toUInt32.toUInt16.toUInt32.toInt32)), .val (.int (own_F1 ((p1 &&& (65535 : Int32)).toUInt32.toUInt16.toUInt32.toInt32))), .val (.int (1 : Int32)), .val (.int ((p2 &&& (2147483647 : Int32)) % (22 : Int32))), .val (.int (nar .char (own_chr (own_m ((p2 &&& (2147483647 : Int32)) % (22 : Int32)))))), .unset] [(.int (if ((p2 &&& (2147483647 : Int32)) % (22 : Int32)) < (16 : Int32) then ((p2 &&& (2147483647 : Int32)) % (22 : Int32)) else (((p2 &&& (2147483647 : Int32)) % (22 : Int32)) - (6 : Int32))))])) _
        refine XS.istore X78.here hx rfl (hb hby at_88) rfl (l' := #[.val (.int p1), .val (.int p2), .val (.int ((p1 &&& (65535 : Int32)).toUInt32.toUInt16.toUInt32.toInt32)), .val (.int (own_F1 ((p1 &&& (65535 : Int32)).toUInt32.toUInt16.toUInt32.toInt32))), .val (.int (1 : Int32)), .val (.int ((p2 &&& (2147483647 : Int32)) % (22 : Int32))), .val (.int (nar .char (own_chr (own_m ((p2 &&& (2147483647 : Int32)) % (22 : Int32)))))), .val (.int (if ((p2 &&& (2147483647 : Int32)) % (22 : Int32)) < (16 : Int32) then ((p2 &&& (2147483647 : Int32)) % (22 : Int32)) else (((p2 &&& (2147483647 : Int32)) % (22 : Int32)) - (6 : Int32))))]) rfl ?_
        show Steps p.tables e below (T78.setTop (mkF m 90 #[.val (.int p1), .val (.int p2), .val (.int ((p1 &&& (65535 : Int32)).toUInt32.toUInt16.toUInt32.toInt32)), .val (.int (own_F1 ((p1 &&& (65535 : Int32)).toUInt32.toUInt16.toUInt32.toInt32))), .val (.int (1 : Int32)), .val (.int ((p2 &&& (2147483647 : Int32)) % (22 : Int32))), .val (.int (nar .char (own_chr (own_m ((p2 &&& (2147483647 : Int32)) % (22 : Int32)))))), .val (.int (if ((p2 &&& (2147483647 : Int32)) % (22 : Int32)) < (16 : Int32) then ((p2 &&& (2147483647 : Int32)) % (22 : Int32)) else (((p2 &&& (2147483647 : Int32)) % (22 : Int32)) - (6 : Int32))))] [])) _
        refine XS.iload X78.here hx rfl (hb hby at_90) rfl ?_
        show Steps p.tables e below (T78.setTop (mkF m 92 #[.val (.int p1), .val (.int p2), .val (.int ((p1 &&& (65535 : Int32)).toUInt32.toUInt16.toUInt32.toInt32)), .val (.int (own_F1 ((p1 &&& (65535 : Int32)).toUInt32.toUInt16.toUInt32.toInt32))), .val (.int (1 : Int32)), .val (.int ((p2 &&& (2147483647 : Int32)) % (22 : Int32))), .val (.int (nar .char (own_chr (own_m ((p2 &&& (2147483647 : Int32)) % (22 : Int32)))))), .val (.int (if ((p2 &&& (2147483647 : Int32)) % (22 : Int32)) < (16 : Int32) then ((p2 &&& (2147483647 : Int32)) % (22 : Int32)) else (((p2 &&& (2147483647 : Int32)) % (22 : Int32)) - (6 : Int32))))] [(.int (1 : Int32))])) _
        refine XS.ifNo X78.here hx rfl (hb hby at_92) rfl ((if0 _ _).trans (feq (by decide : ¬ ((1 : Int32) = (0 : Int32)))).1) ?_
        show Steps p.tables e below (T78.setTop (mkF m 95 #[.val (.int p1), .val (.int p2), .val (.int ((p1 &&& (65535 : Int32)).toUInt32.toUInt16.toUInt32.toInt32)), .val (.int (own_F1 ((p1 &&& (65535 : Int32)).toUInt32.toUInt16.toUInt32.toInt32))), .val (.int (1 : Int32)), .val (.int ((p2 &&& (2147483647 : Int32)) % (22 : Int32))), .val (.int (nar .char (own_chr (own_m ((p2 &&& (2147483647 : Int32)) % (22 : Int32)))))), .val (.int (if ((p2 &&& (2147483647 : Int32)) % (22 : Int32)) < (16 : Int32) then ((p2 &&& (2147483647 : Int32)) % (22 : Int32)) else (((p2 &&& (2147483647 : Int32)) % (22 : Int32)) - (6 : Int32))))] [])) _
        refine XS.iload X78.here hx rfl (hb hby at_95) rfl ?_
        show Steps p.tables e below (T78.setTop (mkF m 97 #[.val (.int p1), .val (.int p2), .val (.int ((p1 &&& (65535 : Int32)).toUInt32.toUInt16.toUInt32.toInt32)), .val (.int (own_F1 ((p1 &&& (65535 : Int32)).toUInt32.toUInt16.toUInt32.toInt32))), .val (.int (1 : Int32)), .val (.int ((p2 &&& (2147483647 : Int32)) % (22 : Int32))), .val (.int (nar .char (own_chr (own_m ((p2 &&& (2147483647 : Int32)) % (22 : Int32)))))), .val (.int (if ((p2 &&& (2147483647 : Int32)) % (22 : Int32)) < (16 : Int32) then ((p2 &&& (2147483647 : Int32)) % (22 : Int32)) else (((p2 &&& (2147483647 : Int32)) % (22 : Int32)) - (6 : Int32))))] [(.int (nar .char (own_chr (own_m ((p2 &&& (2147483647 : Int32)) % (22 : Int32))))))])) _
        refine st81 _ ?_
        show Steps p.tables e below (T81.setTop (mkF m 100 #[.val (.int p1), .val (.int p2), .val (.int ((p1 &&& (65535 : Int32)).toUInt32.toUInt16.toUInt32.toInt32)), .val (.int (own_F1 ((p1 &&& (65535 : Int32)).toUInt32.toUInt16.toUInt32.toInt32))), .val (.int (1 : Int32)), .val (.int ((p2 &&& (2147483647 : Int32)) % (22 : Int32))), .val (.int (nar .char (own_chr (own_m ((p2 &&& (2147483647 : Int32)) % (22 : Int32)))))), .val (.int (if ((p2 &&& (2147483647 : Int32)) % (22 : Int32)) < (16 : Int32) then ((p2 &&& (2147483647 : Int32)) % (22 : Int32)) else (((p2 &&& (2147483647 : Int32)) % (22 : Int32)) - (6 : Int32))))] [(.int (own_F1 (nar .char (own_chr (own_m ((p2 &&& (2147483647 : Int32)) % (22 : Int32)))))))])) _
        refine XS.iload X81.here hx rfl (hb hby at_100) rfl ?_
        show Steps p.tables e below (T81.setTop (mkF m 102 #[.val (.int p1), .val (.int p2), .val (.int ((p1 &&& (65535 : Int32)).toUInt32.toUInt16.toUInt32.toInt32)), .val (.int (own_F1 ((p1 &&& (65535 : Int32)).toUInt32.toUInt16.toUInt32.toInt32))), .val (.int (1 : Int32)), .val (.int ((p2 &&& (2147483647 : Int32)) % (22 : Int32))), .val (.int (nar .char (own_chr (own_m ((p2 &&& (2147483647 : Int32)) % (22 : Int32)))))), .val (.int (if ((p2 &&& (2147483647 : Int32)) % (22 : Int32)) < (16 : Int32) then ((p2 &&& (2147483647 : Int32)) % (22 : Int32)) else (((p2 &&& (2147483647 : Int32)) % (22 : Int32)) - (6 : Int32))))] [(.int (if ((p2 &&& (2147483647 : Int32)) % (22 : Int32)) < (16 : Int32) then ((p2 &&& (2147483647 : Int32)) % (22 : Int32)) else (((p2 &&& (2147483647 : Int32)) % (22 : Int32)) - (6 : Int32)))), (.int (own_F1 (nar .char (own_chr (own_m ((p2 &&& (2147483647 : Int32)) % (22 : Int32)))))))])) _
        refine XS.icmpNo X81.here hx rfl (hb hby at_102) rfl (teq ((own_m0 _ (own_ix p2).1 (own_ix p2).2) : (own_F1 (nar .char (own_chr (own_m ((p2 &&& (2147483647 : Int32)) % (22 : Int32)))))) = (if ((p2 &&& (2147483647 : Int32)) % (22 : Int32)) < (16 : Int32) then ((p2 &&& (2147483647 : Int32)) % (22 : Int32)) else (((p2 &&& (2147483647 : Int32)) % (22 : Int32)) - (6 : Int32))))).2 ?_
        show Steps p.tables e below (T81.setTop (mkF m 105 #[.val (.int p1), .val (.int p2), .val (.int ((p1 &&& (65535 : Int32)).toUInt32.toUInt16.toUInt32.toInt32)), .val (.int (own_F1 ((p1 &&& (65535 : Int32)).toUInt32.toUInt16.toUInt32.toInt32))), .val (.int (1 : Int32)), .val (.int ((p2 &&& (2147483647 : Int32)) % (22 : Int32))), .val (.int (nar .char (own_chr (own_m ((p2 &&& (2147483647 : Int32)) % (22 : Int32)))))), .val (.int (if ((p2 &&& (2147483647 : Int32)) % (22 : Int32)) < (16 : Int32) then ((p2 &&& (2147483647 : Int32)) % (22 : Int32)) else (((p2 &&& (2147483647 : Int32)) % (22 : Int32)) - (6 : Int32))))] [])) _
        refine XS.iconst X81.here hx rfl (hb hby at_105) ?_
        show Steps p.tables e below (T81.setTop (mkF m 106 #[.val (.int p1), .val (.int p2), .val (.int ((p1 &&& (65535 : Int32)).toUInt32.toUInt16.toUInt32.toInt32)), .val (.int (own_F1 ((p1 &&& (65535 : Int32)).toUInt32.toUInt16.toUInt32.toInt32))), .val (.int (1 : Int32)), .val (.int ((p2 &&& (2147483647 : Int32)) % (22 : Int32))), .val (.int (nar .char (own_chr (own_m ((p2 &&& (2147483647 : Int32)) % (22 : Int32)))))), .val (.int (if ((p2 &&& (2147483647 : Int32)) % (22 : Int32)) < (16 : Int32) then ((p2 &&& (2147483647 : Int32)) % (22 : Int32)) else (((p2 &&& (2147483647 : Int32)) % (22 : Int32)) - (6 : Int32))))] [(.int (1 : Int32))])) _
        refine XS.goto X81.here hx rfl (pc0 := 106) (pc' := 110) rfl (hb hby at_106) (by decide) (by decide) ?_
        exact kt
      obtain ⟨fs, hr, hrun, hended, hRE⟩ := X81.leaveW hS74 (show _ ≤ T81.heap.size by rw [e81]; exact hk74) (v := some (.int (1 : Int32))) (fun h => by rw [Bd.returns] at h; cases h)
      refine ⟨_, _, pre82 _ ?_, hrun, hended, _, _, rfl, ?_, hRE.1, hRE.2.1, hRE.2.2.1, hRE.2.2.2.mono (by decide) (by decide)⟩
      · show Steps p.tables e below (T81.setTop (mkF m 110 #[.val (.int p1), .val (.int p2), .val (.int ((p1 &&& (65535 : Int32)).toUInt32.toUInt16.toUInt32.toInt32)), .val (.int (own_F1 ((p1 &&& (65535 : Int32)).toUInt32.toUInt16.toUInt32.toInt32))), .val (.int (1 : Int32)), .val (.int ((p2 &&& (2147483647 : Int32)) % (22 : Int32))), .val (.int (nar .char (own_chr (own_m ((p2 &&& (2147483647 : Int32)) % (22 : Int32)))))), .val (.int (if ((p2 &&& (2147483647 : Int32)) % (22 : Int32)) < (16 : Int32) then ((p2 &&& (2147483647 : Int32)) % (22 : Int32)) else (((p2 &&& (2147483647 : Int32)) % (22 : Int32)) - (6 : Int32))))] [(.int (1 : Int32))])) _
        exact retN X81 hx (t := .boolean) Bd.returns (by simp) (hb hby at_110) hr
      · show Q0 Z p1 p2 cs vf h0 n0 _ T81.heap _
        rw [e81]
        exact ⟨rfl, N81⟩
    · have pre84 : ∀ t, Steps p.tables e below (T71.setTop (mkF m 37 #[.val (.int p1), .val (.int p2), .val (.int ((p1 &&& (65535 : Int32)).toUInt32.toUInt16.toUInt32.toInt32)), .val (.int (own_F1 ((p1 &&& (65535 : Int32)).toUInt32.toUInt16.toUInt32.toInt32))), .unset, .unset, .unset, .unset] [(.int ((p1 &&& (65535 : Int32)).toUInt32.toUInt16.toUInt32.toInt32))])) t → Steps p.tables e below (s₁.setTop (entryFrame m #[(.int p1), (.int p2)] maxLocals)) t := by
        intro t kt
        refine pre72 _ ?_
        show Steps p.tables e below (T71.setTop (mkF m 33 #[.val (.int p1), .val (.int p2), .val (.int ((p1 &&& (65535 : Int32)).toUInt32.toUInt16.toUInt32.toInt32)), .val (.int (own_F1 ((p1 &&& (65535 : Int32)).toUInt32.toUInt16.toUInt32.toInt32))), .unset, .unset, .unset, .unset] [(.int (nar .char (own_chr (own_u (own_F1 ((p1 &&& (65535 : Int32)).toUInt32.toUInt16.toUInt32.toInt32)))))), (.int ((p1 &&& (65535 : Int32)).toUInt32.toUInt16.toUInt32.toInt32))])) _
        refine XS.icmpNo X71.here hx rfl (hb hby at_33) rfl (feq hc33_73).1 ?_
        show Steps p.tables e below (T71.setTop (mkF m 36 #[.val (.int p1), .val (.int p2), .val (.int ((p1 &&& (65535 : Int32)).toUInt32.toUInt16.toUInt32.toInt32)), .val (.int (own_F1 ((p1 &&& (65535 : Int32)).toUInt32.toUInt16.toUInt32.toInt32))), .unset, .unset, .unset, .unset] [])) _
        refine XS.iloadN X71.here hx rfl (hb hby at_36) rfl ?_
        exact kt
      obtain ⟨a83, T83, h83, k83, b83, c83, X83, e83, E83, hS83, hk83, hZ83, hown83, gE83, gC83, gV83, gA83, -, -, hI83, st83⟩ := ldcSV X71 hx hZ hown (hw _ (List.mem_of_getElem? (i := 40) rfl)) wS e71 hS68 hk68 (show Fr s.heap.size _ by rw [← hn1]; exact N71) hkp hI68 (Ts := ["0123456789ABCDEF"]) (by decide) (hch _ (List.mem_of_getElem? (i := 1) rfl)) hcw (vs := [Value.int (48 : Int32), Value.int (49 : Int32), Value.int (50 : Int32), Value.int (51 : Int32), Value.int (52 : Int32), Value.int (53 : Int32), Value.int (54 : Int32), Value.int (55 : Int32), Value.int (56 : Int32), Value.int (57 : Int32), Value.int (97 : Int32), Value.int (98 : Int32), Value.int (99 : Int32), Value.int (100 : Int32), Value.int (101 : Int32), Value.int (102 : Int32)]) (z := (16 : Int32)) ⟨by decide, by decide⟩ (by decide) (by decide) (g := (mkF m 37 #[.val (.int p1), .val (.int p2), .val (.int ((p1 &&& (65535 : Int32)).toUInt32.toUInt16.toUInt32.toInt32)), .val (.int (own_F1 ((p1 &&& (65535 : Int32)).toUInt32.toUInt16.toUInt32.toInt32))), .unset, .unset, .unset, .unset] [(.int ((p1 &&& (65535 : Int32)).toUInt32.toUInt16.toUInt32.toInt32))])) rfl (hb hby at_37) (n := 64) (by decide) (by decide) (by decide) (by decide)
      have hZ := hZ83
      have hown := hown83
      have K83 : Keep h0 h83 [] := K68.ext E83
      have z85 : n0 ≤ h83.size := (Nat.le_trans (Nat.le_trans Z0 E68.1) E83.1)
      obtain ⟨cl86, Ar86, q86, Sz86, Nz86, Hs86, -⟩ := gA83
      have at86 := Has.at Hs86 (inb_of Sz86 ⟨hr1, hr2⟩) (own_atL (own_F1 ((p1 &&& (65535 : Int32)).toUInt32.toUInt16.toUInt32.toInt32)) hr1 hr2).1
      obtain ⟨cq87, kq87, q87a, q87b, q87c⟩ := isOf hZ e83 gE83
      obtain ⟨_, _, ⟨T87, L87, k87, n87⟩, -, X87, ⟨Lc87, hQ87, l87, y87, z87⟩, st87⟩ := X83.virtualBack hx (y := (⟨"java/lang/String", "charAt", "(I)C"⟩ : MethodName)) (z := (⟨"java/lang/String", "charAt", "(I)C"⟩ : MethodName)) hown (mvT hZ (hw _ (List.mem_of_getElem? (i := 14) rfl))) (mvT hZ (hw _ (List.mem_of_getElem? (i := 15) rfl))) (notFace_of_selects (args := #[]) (mvT hZ (hw _ (List.mem_of_getElem? (i := 17) rfl)))) (mvT hZ (hw _ (List.mem_of_getElem? (i := 17) rfl))) (mvT hZ (hw _ (List.mem_of_getElem? (i := 16) rfl))) (by decide) (backOf (W := 1) (rm2 l Z a0 hw [] a83 (own_F1 ((p1 &&& (65535 : Int32)).toUInt32.toUInt16.toUInt32.toInt32)) b83 cl86 (16 : Int32) (own_l (own_F1 ((p1 &&& (65535 : Int32)).toUInt32.toUInt16.toUInt32.toInt32))) cs vf h83 n0 z85 gE83 gC83 gV83 Ar86 Sz86 Nz86 hr1 hr2 at86 ((SC.ext E68).ext E83) hcs ((SF.ext E68).ext E83) hvf) hZ (hw _ (List.mem_of_getElem? (i := 18) rfl)) (hw _ (List.mem_of_getElem? (i := 7) rfl)) (by decide) (by decide)) q87a q87c (g := (mkF m 40 #[.val (.int p1), .val (.int p2), .val (.int ((p1 &&& (65535 : Int32)).toUInt32.toUInt16.toUInt32.toInt32)), .val (.int (own_F1 ((p1 &&& (65535 : Int32)).toUInt32.toUInt16.toUInt32.toInt32))), .unset, .unset, .unset, .unset] [(.int (own_F1 ((p1 &&& (65535 : Int32)).toUInt32.toUInt16.toUInt32.toInt32))), (.ref a83), (.int ((p1 &&& (65535 : Int32)).toUInt32.toUInt16.toUInt32.toInt32))])) rfl (by rw [hml]; rfl) (Steps.refl _) (argsL := [(.int (own_F1 ((p1 &&& (65535 : Int32)).toUInt32.toUInt16.toUInt32.toInt32)))]) (rest := [(.int ((p1 &&& (65535 : Int32)).toUInt32.toUInt16.toUInt32.toInt32))]) (lenOf pd_5 rfl) rfl (by show 2 * 0 + _ ≤ _; exact Nat.le_of_eq rfl) (hb hby at_40) (fun _ _ => ⟨rfl, e83, (by decide : 4 + 0 ≤ _), (by decide : 136 + 0 ≤ _)⟩)
      dsimp only [Pt.U, Pt.locs, Pt.cells, Pt.slots] at X87 l87 y87 z87 st87 hQ87
      subst l87 y87 z87
      obtain ⟨rfl, N87q, e87⟩ := hQ87
      have N87 := Fr.app N71 N87q
      have pre89 : ∀ t, Steps p.tables e below (T87.setTop (mkF m 62 #[.val (.int p1), .val (.int p2), .val (.int ((p1 &&& (65535 : Int32)).toUInt32.toUInt16.toUInt32.toInt32)), .val (.int (own_F1 ((p1 &&& (65535 : Int32)).toUInt32.toUInt16.toUInt32.toInt32))), .val (.int (1 : Int32)), .val (.int ((p2 &&& (2147483647 : Int32)) % (22 : Int32))), .unset, .unset] [])) t → Steps p.tables e below (s₁.setTop (entryFrame m #[(.int p1), (.int p2)] maxLocals)) t := by
        intro t kt
        refine pre84 _ ?_
        show Steps p.tables e below (T71.setTop (mkF m 37 #[.val (.int p1), .val (.int p2), .val (.int ((p1 &&& (65535 : Int32)).toUInt32.toUInt16.toUInt32.toInt32)), .val (.int (own_F1 ((p1 &&& (65535 : Int32)).toUInt32.toUInt16.toUInt32.toInt32))), .unset, .unset, .unset, .unset] [(.int ((p1 &&& (65535 : Int32)).toUInt32.toUInt16.toUInt32.toInt32))])) _
        refine st83 _ ?_
        show Steps p.tables e below (T83.setTop (mkF m 39 #[.val (.int p1), .val (.int p2), .val (.int ((p1 &&& (65535 : Int32)).toUInt32.toUInt16.toUInt32.toInt32)), .val (.int (own_F1 ((p1 &&& (65535 : Int32)).toUInt32.toUInt16.toUInt32.toInt32))), .unset, .unset, .unset, .unset] [(.ref a83), (.int ((p1 &&& (65535 : Int32)).toUInt32.toUInt16.toUInt32.toInt32))])) _
        refine XS.iloadN X83.here hx rfl (hb hby at_39) rfl ?_
        show Steps p.tables e below (T83.setTop (mkF m 40 #[.val (.int p1), .val (.int p2), .val (.int ((p1 &&& (65535 : Int32)).toUInt32.toUInt16.toUInt32.toInt32)), .val (.int (own_F1 ((p1 &&& (65535 : Int32)).toUInt32.toUInt16.toUInt32.toInt32))), .unset, .unset, .unset, .unset] [(.int (own_F1 ((p1 &&& (65535 : Int32)).toUInt32.toUInt16.toUInt32.toInt32))), (.ref a83), (.int ((p1 &&& (65535 : Int32)).toUInt32.toUInt16.toUInt32.toInt32))])) _
        refine st87.trans ?_
        show Steps p.tables e below (T87.setTop (mkF m 43 #[.val (.int p1), .val (.int p2), .val (.int ((p1 &&& (65535 : Int32)).toUInt32.toUInt16.toUInt32.toInt32)), .val (.int (own_F1 ((p1 &&& (65535 : Int32)).toUInt32.toUInt16.toUInt32.toInt32))), .unset, .unset, .unset, .unset] [(.int (nar .char (own_chr (own_l (own_F1 ((p1 &&& (65535 : Int32)).toUInt32.toUInt16.toUInt32.toInt32)))))), (.int ((p1 &&& (65535 : Int32)).toUInt32.toUInt16.toUInt32.toInt32))])) _
        refine XS.icmpNo X87.here hx rfl (hb hby at_43) rfl (teq ((own_low hr1 hr2 hr3 hc33_73) : ((p1 &&& (65535 : Int32)).toUInt32.toUInt16.toUInt32.toInt32) = (nar .char (own_chr (own_l (own_F1 ((p1 &&& (65535 : Int32)).toUInt32.toUInt16.toUInt32.toInt32))))))).2 ?_
        show Steps p.tables e below (T87.setTop (mkF m 46 #[.val (.int p1), .val (.int p2), .val (.int ((p1 &&& (65535 : Int32)).toUInt32.toUInt16.toUInt32.toInt32)), .val (.int (own_F1 ((p1 &&& (65535 : Int32)).toUInt32.toUInt16.toUInt32.toInt32))), .unset, .unset, .unset, .unset] [])) _
        refine XS.iconst X87.here hx rfl (hb hby at_46) ?_
        show Steps p.tables e below (T87.setTop (mkF m 47 #[.val (.int p1), .val (.int p2), .val (.int ((p1 &&& (65535 : Int32)).toUInt32.toUInt16.toUInt32.toInt32)), .val (.int (own_F1 ((p1 &&& (65535 : Int32)).toUInt32.toUInt16.toUInt32.toInt32))), .unset, .unset, .unset, .unset] [(.int (1 : Int32))])) _
        refine XS.goto X87.here hx rfl (pc0 := 47) (pc' := 51) rfl (hb hby at_47) (by decide) (by decide) ?_
        show Steps p.tables e below (T87.setTop (mkF m 51 #[.val (.int p1), .val (.int p2), .val (.int ((p1 &&& (65535 : Int32)).toUInt32.toUInt16.toUInt32.toInt32)), .val (.int (own_F1 ((p1 &&& (65535 : Int32)).toUInt32.toUInt16.toUInt32.toInt32))), .unset, .unset, .unset, .unset] [(.int (1 : Int32))])) _
        refine XS.istore X87.here hx rfl (hb hby at_51) rfl (l' := #[.val (.int p1), .val (.int p2), .val (.int ((p1 &&& (65535 : Int32)).toUInt32.toUInt16.toUInt32.toInt32)), .val (.int (own_F1 ((p1 &&& (65535 : Int32)).toUInt32.toUInt16.toUInt32.toInt32))), .val (.int (1 : Int32)), .unset, .unset, .unset]) rfl ?_
        show Steps p.tables e below (T87.setTop (mkF m 53 #[.val (.int p1), .val (.int p2), .val (.int ((p1 &&& (65535 : Int32)).toUInt32.toUInt16.toUInt32.toInt32)), .val (.int (own_F1 ((p1 &&& (65535 : Int32)).toUInt32.toUInt16.toUInt32.toInt32))), .val (.int (1 : Int32)), .unset, .unset, .unset] [])) _
        refine XS.iloadN X87.here hx rfl (hb hby at_53) rfl ?_
        show Steps p.tables e below (T87.setTop (mkF m 54 #[.val (.int p1), .val (.int p2), .val (.int ((p1 &&& (65535 : Int32)).toUInt32.toUInt16.toUInt32.toInt32)), .val (.int (own_F1 ((p1 &&& (65535 : Int32)).toUInt32.toUInt16.toUInt32.toInt32))), .val (.int (1 : Int32)), .unset, .unset, .unset] [(.int p2)])) _
        refine X87.ldcInt hx hown (mvT hZ (hw _ (List.mem_of_getElem? (i := 5) rfl))) (g := (mkF m 54 #[.val (.int p1), .val (.int p2), .val (.int ((p1 &&& (65535 : Int32)).toUInt32.toUInt16.toUInt32.toInt32)), .val (.int (own_F1 ((p1 &&& (65535 : Int32)).toUInt32.toUInt16.toUInt32.toInt32))), .val (.int (1 : Int32)), .unset, .unset, .unset] [(.int p2)])) rfl (hb hby at_54) _ ?_
        show Steps p.tables e below (T87.setTop (mkF m 56 #[.val (.int p1), .val (.int p2), .val (.int ((p1 &&& (65535 : Int32)).toUInt32.toUInt16.toUInt32.toInt32)), .val (.int (own_F1 ((p1 &&& (65535 : Int32)).toUInt32.toUInt16.toUInt32.toInt32))), .val (.int (1 : Int32)), .unset, .unset, .unset] [(.int (2147483647 : Int32)), (.int p2)])) _
        refine XS.iand X87.here hx rfl (hb hby at_56) rfl ?_
        show Steps p.tables e below (T87.setTop (mkF m 57 #[.val (.int p1), .val (.int p2), .val (.int ((p1 &&& (65535 : Int32)).toUInt32.toUInt16.toUInt32.toInt32)), .val (.int (own_F1 ((p1 &&& (65535 : Int32)).toUInt32.toUInt16.toUInt32.toInt32))), .val (.int (1 : Int32)), .unset, .unset, .unset] [(.int (p2 &&& (2147483647 : Int32)))])) _
        refine XS.bipush X87.here hx rfl (hb hby at_57) ?_
        show Steps p.tables e below (T87.setTop (mkF m 59 #[.val (.int p1), .val (.int p2), .val (.int ((p1 &&& (65535 : Int32)).toUInt32.toUInt16.toUInt32.toInt32)), .val (.int (own_F1 ((p1 &&& (65535 : Int32)).toUInt32.toUInt16.toUInt32.toInt32))), .val (.int (1 : Int32)), .unset, .unset, .unset] [(.int (22 : Int32)), (.int (p2 &&& (2147483647 : Int32)))])) _
        refine iremM X87 hx rfl (hb hby at_59) rfl (by decide) ?_
        show Steps p.tables e below (T87.setTop (mkF m 60 #[.val (.int p1), .val (.int p2), .val (.int ((p1 &&& (65535 : Int32)).toUInt32.toUInt16.toUInt32.toInt32)), .val (.int (own_F1 ((p1 &&& (65535 : Int32)).toUInt32.toUInt16.toUInt32.toInt32))), .val (.int (1 : Int32)), .unset, .unset, .unset] [(.int ((p2 &&& (2147483647 : Int32)) % (22 : Int32)))])) _
        refine XS.istore X87.here hx rfl (hb hby at_60) rfl (l' := #[.val (.int p1), .val (.int p2), .val (.int ((p1 &&& (65535 : Int32)).toUInt32.toUInt16.toUInt32.toInt32)), .val (.int (own_F1 ((p1 &&& (65535 : Int32)).toUInt32.toUInt16.toUInt32.toInt32))), .val (.int (1 : Int32)), .val (.int ((p2 &&& (2147483647 : Int32)) % (22 : Int32))), .unset, .unset]) rfl ?_
        exact kt
      obtain ⟨a88, T88, h88, k88, b88, c88, X88, e88, E88, hS88, hk88, hZ88, hown88, gE88, gC88, gV88, gA88, -, -, hI88, st88⟩ := ldcSV X87 hx hZ hown (hw _ (List.mem_of_getElem? (i := 6) rfl)) wS e87 hS83 hk83 (show Fr s.heap.size _ by rw [← hn1]; exact N87) hkp hI83 (Ts := ["0123456789abcdef", "0123456789ABCDEF"]) (by decide) (hch _ (List.mem_of_getElem? (i := 2) rfl)) hcw (vs := [Value.int (48 : Int32), Value.int (49 : Int32), Value.int (50 : Int32), Value.int (51 : Int32), Value.int (52 : Int32), Value.int (53 : Int32), Value.int (54 : Int32), Value.int (55 : Int32), Value.int (56 : Int32), Value.int (57 : Int32), Value.int (65 : Int32), Value.int (66 : Int32), Value.int (67 : Int32), Value.int (68 : Int32), Value.int (69 : Int32), Value.int (70 : Int32), Value.int (97 : Int32), Value.int (98 : Int32), Value.int (99 : Int32), Value.int (100 : Int32), Value.int (101 : Int32), Value.int (102 : Int32)]) (z := (22 : Int32)) ⟨by decide, by decide⟩ (by decide) (by decide) (g := (mkF m 62 #[.val (.int p1), .val (.int p2), .val (.int ((p1 &&& (65535 : Int32)).toUInt32.toUInt16.toUInt32.toInt32)), .val (.int (own_F1 ((p1 &&& (65535 : Int32)).toUInt32.toUInt16.toUInt32.toInt32))), .val (.int (1 : Int32)), .val (.int ((p2 &&& (2147483647 : Int32)) % (22 : Int32))), .unset, .unset] [])) rfl (hb hby at_62) (n := 88) (by decide) (by decide) (by decide) (by decide)
      have hZ := hZ88
      have hown := hown88
      have K88 : Keep h0 h88 [] := K83.ext E88
      have f90 := (((SC.ext E68).ext E83).ext E88)
      have f91 := (((SF.ext E68).ext E83).ext E88)
      obtain ⟨cl92, Ar92, q92, Sz92, Nz92, Hs92, -⟩ := gA88
      have at92 := Has.at Hs92 (inb_of Sz92 ⟨(own_ix p2).1, (own_ix p2).2⟩) (own_atM ((p2 &&& (2147483647 : Int32)) % (22 : Int32)) (own_ix p2).1 (own_ix p2).2).1
      obtain ⟨cq93, kq93, q93a, q93b, q93c⟩ := isOf hZ e88 gE88
      obtain ⟨_, _, ⟨T93, L93, k93, n93⟩, -, X93, ⟨Lc93, hQ93, l93, y93, z93⟩, st93⟩ := X88.virtualBack hx (y := (⟨"java/lang/String", "charAt", "(I)C"⟩ : MethodName)) (z := (⟨"java/lang/String", "charAt", "(I)C"⟩ : MethodName)) hown (mvT hZ (hw _ (List.mem_of_getElem? (i := 14) rfl))) (mvT hZ (hw _ (List.mem_of_getElem? (i := 15) rfl))) (notFace_of_selects (args := #[]) (mvT hZ (hw _ (List.mem_of_getElem? (i := 17) rfl)))) (mvT hZ (hw _ (List.mem_of_getElem? (i := 17) rfl))) (mvT hZ (hw _ (List.mem_of_getElem? (i := 16) rfl))) (by decide) (backOf (W := 0) (rm2 l Z a0 hw [] a88 ((p2 &&& (2147483647 : Int32)) % (22 : Int32)) b88 cl92 (22 : Int32) (own_m ((p2 &&& (2147483647 : Int32)) % (22 : Int32))) cs vf h88 n0 (Nat.le_trans z85 E88.1) gE88 gC88 gV88 Ar92 Sz92 Nz92 (own_ix p2).1 (own_ix p2).2 at92 f90 hcs f91 hvf) hZ (hw _ (List.mem_of_getElem? (i := 18) rfl)) (hw _ (List.mem_of_getElem? (i := 7) rfl)) (by decide) (by decide)) q93a q93c (g := (mkF m 66 #[.val (.int p1), .val (.int p2), .val (.int ((p1 &&& (65535 : Int32)).toUInt32.toUInt16.toUInt32.toInt32)), .val (.int (own_F1 ((p1 &&& (65535 : Int32)).toUInt32.toUInt16.toUInt32.toInt32))), .val (.int (1 : Int32)), .val (.int ((p2 &&& (2147483647 : Int32)) % (22 : Int32))), .unset, .unset] [(.int ((p2 &&& (2147483647 : Int32)) % (22 : Int32))), (.ref a88)])) rfl (by rw [hml]; rfl) (Steps.refl _) (argsL := [(.int ((p2 &&& (2147483647 : Int32)) % (22 : Int32)))]) (rest := []) (lenOf pd_5 rfl) rfl (by show 2 * 0 + _ ≤ _; exact Nat.le_of_eq rfl) (hb hby at_66) (fun _ _ => ⟨rfl, e88, (by decide : 6 + 0 ≤ _), (by decide : 228 + 0 ≤ _)⟩)
      dsimp only [Pt.U, Pt.locs, Pt.cells, Pt.slots] at X93 l93 y93 z93 st93 hQ93
      subst l93 y93 z93
      obtain ⟨rfl, N93q, e93⟩ := hQ93
      have N93 := Fr.app N87 N93q
      have pre95 : ∀ t, Steps p.tables e below (T93.setTop (mkF m 88 #[.val (.int p1), .val (.int p2), .val (.int ((p1 &&& (65535 : Int32)).toUInt32.toUInt16.toUInt32.toInt32)), .val (.int (own_F1 ((p1 &&& (65535 : Int32)).toUInt32.toUInt16.toUInt32.toInt32))), .val (.int (1 : Int32)), .val (.int ((p2 &&& (2147483647 : Int32)) % (22 : Int32))), .val (.int (nar .char (own_chr (own_m ((p2 &&& (2147483647 : Int32)) % (22 : Int32)))))), .unset] [(.int (if ((p2 &&& (2147483647 : Int32)) % (22 : Int32)) < (16 : Int32) then ((p2 &&& (2147483647 : Int32)) % (22 : Int32)) else (((p2 &&& (2147483647 : Int32)) % (22 : Int32)) - (6 : Int32))))])) t → Steps p.tables e below (s₁.setTop (entryFrame m #[(.int p1), (.int p2)] maxLocals)) t := by
        intro t kt
        refine pre89 _ ?_
        show Steps p.tables e below (T87.setTop (mkF m 62 #[.val (.int p1), .val (.int p2), .val (.int ((p1 &&& (65535 : Int32)).toUInt32.toUInt16.toUInt32.toInt32)), .val (.int (own_F1 ((p1 &&& (65535 : Int32)).toUInt32.toUInt16.toUInt32.toInt32))), .val (.int (1 : Int32)), .val (.int ((p2 &&& (2147483647 : Int32)) % (22 : Int32))), .unset, .unset] [])) _
        refine st88 _ ?_
        show Steps p.tables e below (T88.setTop (mkF m 64 #[.val (.int p1), .val (.int p2), .val (.int ((p1 &&& (65535 : Int32)).toUInt32.toUInt16.toUInt32.toInt32)), .val (.int (own_F1 ((p1 &&& (65535 : Int32)).toUInt32.toUInt16.toUInt32.toInt32))), .val (.int (1 : Int32)), .val (.int ((p2 &&& (2147483647 : Int32)) % (22 : Int32))), .unset, .unset] [(.ref a88)])) _
        refine XS.iload X88.here hx rfl (hb hby at_64) rfl ?_
        show Steps p.tables e below (T88.setTop (mkF m 66 #[.val (.int p1), .val (.int p2), .val (.int ((p1 &&& (65535 : Int32)).toUInt32.toUInt16.toUInt32.toInt32)), .val (.int (own_F1 ((p1 &&& (65535 : Int32)).toUInt32.toUInt16.toUInt32.toInt32))), .val (.int (1 : Int32)), .val (.int ((p2 &&& (2147483647 : Int32)) % (22 : Int32))), .unset, .unset] [(.int ((p2 &&& (2147483647 : Int32)) % (22 : Int32))), (.ref a88)])) _
        refine st93.trans ?_
        show Steps p.tables e below (T93.setTop (mkF m 69 #[.val (.int p1), .val (.int p2), .val (.int ((p1 &&& (65535 : Int32)).toUInt32.toUInt16.toUInt32.toInt32)), .val (.int (own_F1 ((p1 &&& (65535 : Int32)).toUInt32.toUInt16.toUInt32.toInt32))), .val (.int (1 : Int32)), .val (.int ((p2 &&& (2147483647 : Int32)) % (22 : Int32))), .unset, .unset] [(.int (nar .char (own_chr (own_m ((p2 &&& (2147483647 : Int32)) % (22 : Int32))))))])) _
        refine XS.istore X93.here hx rfl (hb hby at_69) rfl (l' := #[.val (.int p1), .val (.int p2), .val (.int ((p1 &&& (65535 : Int32)).toUInt32.toUInt16.toUInt32.toInt32)), .val (.int (own_F1 ((p1 &&& (65535 : Int32)).toUInt32.toUInt16.toUInt32.toInt32))), .val (.int (1 : Int32)), .val (.int ((p2 &&& (2147483647 : Int32)) % (22 : Int32))), .val (.int (nar .char (own_chr (own_m ((p2 &&& (2147483647 : Int32)) % (22 : Int32)))))), .unset]) rfl ?_
        show Steps p.tables e below (T93.setTop (mkF m 71 #[.val (.int p1), .val (.int p2), .val (.int ((p1 &&& (65535 : Int32)).toUInt32.toUInt16.toUInt32.toInt32)), .val (.int (own_F1 ((p1 &&& (65535 : Int32)).toUInt32.toUInt16.toUInt32.toInt32))), .val (.int (1 : Int32)), .val (.int ((p2 &&& (2147483647 : Int32)) % (22 : Int32))), .val (.int (nar .char (own_chr (own_m ((p2 &&& (2147483647 : Int32)) % (22 : Int32)))))), .unset] [])) _
        refine XS.iload X93.here hx rfl (hb hby at_71) rfl ?_
        show Steps p.tables e below (T93.setTop (mkF m 73 #[.val (.int p1), .val (.int p2), .val (.int ((p1 &&& (65535 : Int32)).toUInt32.toUInt16.toUInt32.toInt32)), .val (.int (own_F1 ((p1 &&& (65535 : Int32)).toUInt32.toUInt16.toUInt32.toInt32))), .val (.int (1 : Int32)), .val (.int ((p2 &&& (2147483647 : Int32)) % (22 : Int32))), .val (.int (nar .char (own_chr (own_m ((p2 &&& (2147483647 : Int32)) % (22 : Int32)))))), .unset] [(.int ((p2 &&& (2147483647 : Int32)) % (22 : Int32)))])) _
        refine XS.bipush X93.here hx rfl (hb hby at_73) ?_
        by_cases hj75_94 : ((p2 &&& (2147483647 : Int32)) % (22 : Int32)) < (16 : Int32)
        · rw [if_pos hj75_94] at kt
          show Steps p.tables e below (T93.setTop (mkF m 75 #[.val (.int p1), .val (.int p2), .val (.int ((p1 &&& (65535 : Int32)).toUInt32.toUInt16.toUInt32.toInt32)), .val (.int (own_F1 ((p1 &&& (65535 : Int32)).toUInt32.toUInt16.toUInt32.toInt32))), .val (.int (1 : Int32)), .val (.int ((p2 &&& (2147483647 : Int32)) % (22 : Int32))), .val (.int (nar .char (own_chr (own_m ((p2 &&& (2147483647 : Int32)) % (22 : Int32)))))), .unset] [(.int (16 : Int32)), (.int ((p2 &&& (2147483647 : Int32)) % (22 : Int32)))])) _
          refine XS.icmpNo X93.here hx rfl (hb hby at_75) rfl (tlt hj75_94).2.1 ?_
          show Steps p.tables e below (T93.setTop (mkF m 78 #[.val (.int p1), .val (.int p2), .val (.int ((p1 &&& (65535 : Int32)).toUInt32.toUInt16.toUInt32.toInt32)), .val (.int (own_F1 ((p1 &&& (65535 : Int32)).toUInt32.toUInt16.toUInt32.toInt32))), .val (.int (1 : Int32)), .val (.int ((p2 &&& (2147483647 : Int32)) % (22 : Int32))), .val (.int (nar .char (own_chr (own_m ((p2 &&& (2147483647 : Int32)) % (22 : Int32)))))), .unset] [])) _
          refine XS.iload X93.here hx rfl (hb hby at_78) rfl ?_
          show Steps p.tables e below (T93.setTop (mkF m 80 #[.val (.int p1), .val (.int p2), .val (.int ((p1 &&& (65535 : Int32)).toUInt32.toUInt16.toUInt32.toInt32)), .val (.int (own_F1 ((p1 &&& (65535 : Int32)).toUInt32.toUInt16.toUInt32.toInt32))), .val (.int (1 : Int32)), .val (.int ((p2 &&& (2147483647 : Int32)) % (22 : Int32))), .val (.int (nar .char (own_chr (own_m ((p2 &&& (2147483647 : Int32)) % (22 : Int32)))))), .unset] [(.int ((p2 &&& (2147483647 : Int32)) % (22 : Int32)))])) _
          refine XS.goto X93.here hx rfl (pc0 := 80) (pc' := 88) rfl (hb hby at_80) (by decide) (by decide) ?_
          exact kt
        · rw [if_neg hj75_94] at kt
          show Steps p.tables e below (T93.setTop (mkF m 75 #[.val (.int p1), .val (.int p2), .val (.int ((p1 &&& (65535 : Int32)).toUInt32.toUInt16.toUInt32.toInt32)), .val (.int (own_F1 ((p1 &&& (65535 : Int32)).toUInt32.toUInt16.toUInt32.toInt32))), .val (.int (1 : Int32)), .val (.int ((p2 &&& (2147483647 : Int32)) % (22 : Int32))), .val (.int (nar .char (own_chr (own_m ((p2 &&& (2147483647 : Int32)) % (22 : Int32)))))), .unset] [(.int (16 : Int32)), (.int ((p2 &&& (2147483647 : Int32)) % (22 : Int32)))])) _
          refine XS.icmpYes X93.here hx rfl (pc0 := 75) (pc' := 83) rfl (hb hby at_75) rfl (flt hj75_94).2.1 (by decide) (by decide) ?_
          show Steps p.tables e below (T93.setTop (mkF m 83 #[.val (.int p1), .val (.int p2), .val (.int ((p1 &&& (65535 : Int32)).toUInt32.toUInt16.toUInt32.toInt32)), .val (.int (own_F1 ((p1 &&& (65535 : Int32)).toUInt32.toUInt16.toUInt32.toInt32))), .val (.int (1 : Int32)), .val (.int ((p2 &&& (2147483647 : Int32)) % (22 : Int32))), .val (.int (nar .char (own_chr (own_m ((p2 &&& (2147483647 : Int32)) % (22 : Int32)))))), .unset] [])) _
          refine XS.iload X93.here hx rfl (hb hby at_83) rfl ?_
          show Steps p.tables e below (T93.setTop (mkF m 85 #[.val (.int p1), .val (.int p2), .val (.int ((p1 &&& (65535 : Int32)).toUInt32.toUInt16.toUInt32.toInt32)), .val (.int (own_F1 ((p1 &&& (65535 : Int32)).toUInt32.toUInt16.toUInt32.toInt32))), .val (.int (1 : Int32)), .val (.int ((p2 &&& (2147483647 : Int32)) % (22 : Int32))), .val (.int (nar .char (own_chr (own_m ((p2 &&& (2147483647 : Int32)) % (22 : Int32)))))), .unset] [(.int ((p2 &&& (2147483647 : Int32)) % (22 : Int32)))])) _
          refine XS.bipush X93.here hx rfl (hb hby at_85) ?_
          show Steps p.tables e below (T93.setTop (mkF m 87 #[.val (.int p1), .val (.int p2), .val (.int ((p1 &&& (65535 : Int32)).toUInt32.toUInt16.toUInt32.toInt32)), .val (.int (own_F1 ((p1 &&& (65535 : Int32)).toUInt32.toUInt16.toUInt32.toInt32))), .val (.int (1 : Int32)), .val (.int ((p2 &&& (2147483647 : Int32)) % (22 : Int32))), .val (.int (nar .char (own_chr (own_m ((p2 &&& (2147483647 : Int32)) % (22 : Int32)))))), .unset] [(.int (6 : Int32)), (.int ((p2 &&& (2147483647 : Int32)) % (22 : Int32)))])) _
          refine XS.isub X93.here hx rfl (hb hby at_87) rfl ?_
          exact kt
      obtain ⟨_, _, ⟨T96, L96, k96, n96⟩, -, X96, ⟨Lc96, hQ96, l96, y96, z96⟩, st96⟩ := Jvm.LawKit.callS X93 hx (y := (⟨"com/example/elemento/elemento/PercentEncoding", "hexValue", "(C)I"⟩ : MethodName)) hown (mvT hZ (hw _ (List.mem_of_getElem? (i := 1) rfl))) (mvT hZ (hw _ (List.mem_of_getElem? (i := 2) rfl))) (mvT hZ (hw _ (List.mem_of_getElem? (i := 3) rfl))) (mvT hZ (hw _ (List.mem_of_getElem? (i := 4) rfl))) (by decide) (backOf (W := 0) (rm1 l Z a0 hw [] (nar .char (own_chr (own_m ((p2 &&& (2147483647 : Int32)) % (22 : Int32))))) h88 n0 (Nat.le_trans z85 E88.1)) hZ (hw _ (List.mem_of_getElem? (i := 4) rfl)) (hw _ (List.mem_of_getElem? (i := 3) rfl)) (by decide) (by decide)) (g := (mkF m 97 #[.val (.int p1), .val (.int p2), .val (.int ((p1 &&& (65535 : Int32)).toUInt32.toUInt16.toUInt32.toInt32)), .val (.int (own_F1 ((p1 &&& (65535 : Int32)).toUInt32.toUInt16.toUInt32.toInt32))), .val (.int (1 : Int32)), .val (.int ((p2 &&& (2147483647 : Int32)) % (22 : Int32))), .val (.int (nar .char (own_chr (own_m ((p2 &&& (2147483647 : Int32)) % (22 : Int32)))))), .val (.int (if ((p2 &&& (2147483647 : Int32)) % (22 : Int32)) < (16 : Int32) then ((p2 &&& (2147483647 : Int32)) % (22 : Int32)) else (((p2 &&& (2147483647 : Int32)) % (22 : Int32)) - (6 : Int32))))] [(.int (nar .char (own_chr (own_m ((p2 &&& (2147483647 : Int32)) % (22 : Int32))))))])) rfl (by rw [hml]; rfl) (argsL := [(.int (nar .char (own_chr (own_m ((p2 &&& (2147483647 : Int32)) % (22 : Int32))))))]) (rest := []) (lenOf pd_4 rfl) rfl (by show 2 * 0 + _ ≤ _; exact Nat.le_of_eq rfl) (hb hby at_97) (fun _ _ => ⟨rfl, e93, (by decide : 6 + 0 ≤ _), (by decide : 228 + 0 ≤ _)⟩)
      dsimp only [Pt.U, Pt.locs, Pt.cells, Pt.slots] at X96 l96 y96 z96 st96 hQ96
      subst l96 y96 z96
      obtain ⟨rfl, N96q, e96⟩ := hQ96
      have N96 := Fr.app N93 N96q
      have pre97 : ∀ t, Steps p.tables e below (T96.setTop (mkF m 110 #[.val (.int p1), .val (.int p2), .val (.int ((p1 &&& (65535 : Int32)).toUInt32.toUInt16.toUInt32.toInt32)), .val (.int (own_F1 ((p1 &&& (65535 : Int32)).toUInt32.toUInt16.toUInt32.toInt32))), .val (.int (1 : Int32)), .val (.int ((p2 &&& (2147483647 : Int32)) % (22 : Int32))), .val (.int (nar .char (own_chr (own_m ((p2 &&& (2147483647 : Int32)) % (22 : Int32)))))), .val (.int (if ((p2 &&& (2147483647 : Int32)) % (22 : Int32)) < (16 : Int32) then ((p2 &&& (2147483647 : Int32)) % (22 : Int32)) else (((p2 &&& (2147483647 : Int32)) % (22 : Int32)) - (6 : Int32))))] [(.int (1 : Int32))])) t → Steps p.tables e below (s₁.setTop (entryFrame m #[(.int p1), (.int p2)] maxLocals)) t := by
        intro t kt
        refine pre95 _ ?_
        show Steps p.tables e below (T93.setTop (mkF m 88 #[.val (.int p1), .val (.int p2), .val (.int ((p1 &&& (65535 : Int32)).toUInt32.toUInt16.toUInt32.toInt32)), .val (.int (own_F1 ((p1 &&& (65535 : Int32)).toUInt32.toUInt16.toUInt32.toInt32))), .val (.int (1 : Int32)), .val (.int ((p2 &&& (2147483647 : Int32)) % (22 : Int32))), .val (.int (nar .char (own_chr (own_m ((p2 &&& (2147483647 : Int32)) % (22 : Int32)))))), .unset] [(.int (if ((p2 &&& (2147483647 : Int32)) % (22 : Int32)) < (16 : Int32) then ((p2 &&& (2147483647 : Int32)) % (22 : Int32)) else (((p2 &&& (2147483647 : Int32)) % (22 : Int32)) - (6 : Int32))))])) _
        refine XS.istore X93.here hx rfl (hb hby at_88) rfl (l' := #[.val (.int p1), .val (.int p2), .val (.int ((p1 &&& (65535 : Int32)).toUInt32.toUInt16.toUInt32.toInt32)), .val (.int (own_F1 ((p1 &&& (65535 : Int32)).toUInt32.toUInt16.toUInt32.toInt32))), .val (.int (1 : Int32)), .val (.int ((p2 &&& (2147483647 : Int32)) % (22 : Int32))), .val (.int (nar .char (own_chr (own_m ((p2 &&& (2147483647 : Int32)) % (22 : Int32)))))), .val (.int (if ((p2 &&& (2147483647 : Int32)) % (22 : Int32)) < (16 : Int32) then ((p2 &&& (2147483647 : Int32)) % (22 : Int32)) else (((p2 &&& (2147483647 : Int32)) % (22 : Int32)) - (6 : Int32))))]) rfl ?_
        show Steps p.tables e below (T93.setTop (mkF m 90 #[.val (.int p1), .val (.int p2), .val (.int ((p1 &&& (65535 : Int32)).toUInt32.toUInt16.toUInt32.toInt32)), .val (.int (own_F1 ((p1 &&& (65535 : Int32)).toUInt32.toUInt16.toUInt32.toInt32))), .val (.int (1 : Int32)), .val (.int ((p2 &&& (2147483647 : Int32)) % (22 : Int32))), .val (.int (nar .char (own_chr (own_m ((p2 &&& (2147483647 : Int32)) % (22 : Int32)))))), .val (.int (if ((p2 &&& (2147483647 : Int32)) % (22 : Int32)) < (16 : Int32) then ((p2 &&& (2147483647 : Int32)) % (22 : Int32)) else (((p2 &&& (2147483647 : Int32)) % (22 : Int32)) - (6 : Int32))))] [])) _
        refine XS.iload X93.here hx rfl (hb hby at_90) rfl ?_
        show Steps p.tables e below (T93.setTop (mkF m 92 #[.val (.int p1), .val (.int p2), .val (.int ((p1 &&& (65535 : Int32)).toUInt32.toUInt16.toUInt32.toInt32)), .val (.int (own_F1 ((p1 &&& (65535 : Int32)).toUInt32.toUInt16.toUInt32.toInt32))), .val (.int (1 : Int32)), .val (.int ((p2 &&& (2147483647 : Int32)) % (22 : Int32))), .val (.int (nar .char (own_chr (own_m ((p2 &&& (2147483647 : Int32)) % (22 : Int32)))))), .val (.int (if ((p2 &&& (2147483647 : Int32)) % (22 : Int32)) < (16 : Int32) then ((p2 &&& (2147483647 : Int32)) % (22 : Int32)) else (((p2 &&& (2147483647 : Int32)) % (22 : Int32)) - (6 : Int32))))] [(.int (1 : Int32))])) _
        refine XS.ifNo X93.here hx rfl (hb hby at_92) rfl ((if0 _ _).trans (feq (by decide : ¬ ((1 : Int32) = (0 : Int32)))).1) ?_
        show Steps p.tables e below (T93.setTop (mkF m 95 #[.val (.int p1), .val (.int p2), .val (.int ((p1 &&& (65535 : Int32)).toUInt32.toUInt16.toUInt32.toInt32)), .val (.int (own_F1 ((p1 &&& (65535 : Int32)).toUInt32.toUInt16.toUInt32.toInt32))), .val (.int (1 : Int32)), .val (.int ((p2 &&& (2147483647 : Int32)) % (22 : Int32))), .val (.int (nar .char (own_chr (own_m ((p2 &&& (2147483647 : Int32)) % (22 : Int32)))))), .val (.int (if ((p2 &&& (2147483647 : Int32)) % (22 : Int32)) < (16 : Int32) then ((p2 &&& (2147483647 : Int32)) % (22 : Int32)) else (((p2 &&& (2147483647 : Int32)) % (22 : Int32)) - (6 : Int32))))] [])) _
        refine XS.iload X93.here hx rfl (hb hby at_95) rfl ?_
        show Steps p.tables e below (T93.setTop (mkF m 97 #[.val (.int p1), .val (.int p2), .val (.int ((p1 &&& (65535 : Int32)).toUInt32.toUInt16.toUInt32.toInt32)), .val (.int (own_F1 ((p1 &&& (65535 : Int32)).toUInt32.toUInt16.toUInt32.toInt32))), .val (.int (1 : Int32)), .val (.int ((p2 &&& (2147483647 : Int32)) % (22 : Int32))), .val (.int (nar .char (own_chr (own_m ((p2 &&& (2147483647 : Int32)) % (22 : Int32)))))), .val (.int (if ((p2 &&& (2147483647 : Int32)) % (22 : Int32)) < (16 : Int32) then ((p2 &&& (2147483647 : Int32)) % (22 : Int32)) else (((p2 &&& (2147483647 : Int32)) % (22 : Int32)) - (6 : Int32))))] [(.int (nar .char (own_chr (own_m ((p2 &&& (2147483647 : Int32)) % (22 : Int32))))))])) _
        refine st96 _ ?_
        show Steps p.tables e below (T96.setTop (mkF m 100 #[.val (.int p1), .val (.int p2), .val (.int ((p1 &&& (65535 : Int32)).toUInt32.toUInt16.toUInt32.toInt32)), .val (.int (own_F1 ((p1 &&& (65535 : Int32)).toUInt32.toUInt16.toUInt32.toInt32))), .val (.int (1 : Int32)), .val (.int ((p2 &&& (2147483647 : Int32)) % (22 : Int32))), .val (.int (nar .char (own_chr (own_m ((p2 &&& (2147483647 : Int32)) % (22 : Int32)))))), .val (.int (if ((p2 &&& (2147483647 : Int32)) % (22 : Int32)) < (16 : Int32) then ((p2 &&& (2147483647 : Int32)) % (22 : Int32)) else (((p2 &&& (2147483647 : Int32)) % (22 : Int32)) - (6 : Int32))))] [(.int (own_F1 (nar .char (own_chr (own_m ((p2 &&& (2147483647 : Int32)) % (22 : Int32)))))))])) _
        refine XS.iload X96.here hx rfl (hb hby at_100) rfl ?_
        show Steps p.tables e below (T96.setTop (mkF m 102 #[.val (.int p1), .val (.int p2), .val (.int ((p1 &&& (65535 : Int32)).toUInt32.toUInt16.toUInt32.toInt32)), .val (.int (own_F1 ((p1 &&& (65535 : Int32)).toUInt32.toUInt16.toUInt32.toInt32))), .val (.int (1 : Int32)), .val (.int ((p2 &&& (2147483647 : Int32)) % (22 : Int32))), .val (.int (nar .char (own_chr (own_m ((p2 &&& (2147483647 : Int32)) % (22 : Int32)))))), .val (.int (if ((p2 &&& (2147483647 : Int32)) % (22 : Int32)) < (16 : Int32) then ((p2 &&& (2147483647 : Int32)) % (22 : Int32)) else (((p2 &&& (2147483647 : Int32)) % (22 : Int32)) - (6 : Int32))))] [(.int (if ((p2 &&& (2147483647 : Int32)) % (22 : Int32)) < (16 : Int32) then ((p2 &&& (2147483647 : Int32)) % (22 : Int32)) else (((p2 &&& (2147483647 : Int32)) % (22 : Int32)) - (6 : Int32)))), (.int (own_F1 (nar .char (own_chr (own_m ((p2 &&& (2147483647 : Int32)) % (22 : Int32)))))))])) _
        refine XS.icmpNo X96.here hx rfl (hb hby at_102) rfl (teq ((own_m0 _ (own_ix p2).1 (own_ix p2).2) : (own_F1 (nar .char (own_chr (own_m ((p2 &&& (2147483647 : Int32)) % (22 : Int32)))))) = (if ((p2 &&& (2147483647 : Int32)) % (22 : Int32)) < (16 : Int32) then ((p2 &&& (2147483647 : Int32)) % (22 : Int32)) else (((p2 &&& (2147483647 : Int32)) % (22 : Int32)) - (6 : Int32))))).2 ?_
        show Steps p.tables e below (T96.setTop (mkF m 105 #[.val (.int p1), .val (.int p2), .val (.int ((p1 &&& (65535 : Int32)).toUInt32.toUInt16.toUInt32.toInt32)), .val (.int (own_F1 ((p1 &&& (65535 : Int32)).toUInt32.toUInt16.toUInt32.toInt32))), .val (.int (1 : Int32)), .val (.int ((p2 &&& (2147483647 : Int32)) % (22 : Int32))), .val (.int (nar .char (own_chr (own_m ((p2 &&& (2147483647 : Int32)) % (22 : Int32)))))), .val (.int (if ((p2 &&& (2147483647 : Int32)) % (22 : Int32)) < (16 : Int32) then ((p2 &&& (2147483647 : Int32)) % (22 : Int32)) else (((p2 &&& (2147483647 : Int32)) % (22 : Int32)) - (6 : Int32))))] [])) _
        refine XS.iconst X96.here hx rfl (hb hby at_105) ?_
        show Steps p.tables e below (T96.setTop (mkF m 106 #[.val (.int p1), .val (.int p2), .val (.int ((p1 &&& (65535 : Int32)).toUInt32.toUInt16.toUInt32.toInt32)), .val (.int (own_F1 ((p1 &&& (65535 : Int32)).toUInt32.toUInt16.toUInt32.toInt32))), .val (.int (1 : Int32)), .val (.int ((p2 &&& (2147483647 : Int32)) % (22 : Int32))), .val (.int (nar .char (own_chr (own_m ((p2 &&& (2147483647 : Int32)) % (22 : Int32)))))), .val (.int (if ((p2 &&& (2147483647 : Int32)) % (22 : Int32)) < (16 : Int32) then ((p2 &&& (2147483647 : Int32)) % (22 : Int32)) else (((p2 &&& (2147483647 : Int32)) % (22 : Int32)) - (6 : Int32))))] [(.int (1 : Int32))])) _
        refine XS.goto X96.here hx rfl (pc0 := 106) (pc' := 110) rfl (hb hby at_106) (by decide) (by decide) ?_
        exact kt
      obtain ⟨fs, hr, hrun, hended, hRE⟩ := X96.leaveW hS88 (show _ ≤ T96.heap.size by rw [e96]; exact hk88) (v := some (.int (1 : Int32))) (fun h => by rw [Bd.returns] at h; cases h)
      refine ⟨_, _, pre97 _ ?_, hrun, hended, _, _, rfl, ?_, hRE.1, hRE.2.1, hRE.2.2.1, hRE.2.2.2.mono (by decide) (by decide)⟩
      · show Steps p.tables e below (T96.setTop (mkF m 110 #[.val (.int p1), .val (.int p2), .val (.int ((p1 &&& (65535 : Int32)).toUInt32.toUInt16.toUInt32.toInt32)), .val (.int (own_F1 ((p1 &&& (65535 : Int32)).toUInt32.toUInt16.toUInt32.toInt32))), .val (.int (1 : Int32)), .val (.int ((p2 &&& (2147483647 : Int32)) % (22 : Int32))), .val (.int (nar .char (own_chr (own_m ((p2 &&& (2147483647 : Int32)) % (22 : Int32)))))), .val (.int (if ((p2 &&& (2147483647 : Int32)) % (22 : Int32)) < (16 : Int32) then ((p2 &&& (2147483647 : Int32)) % (22 : Int32)) else (((p2 &&& (2147483647 : Int32)) % (22 : Int32)) - (6 : Int32))))] [(.int (1 : Int32))])) _
        exact retN X96 hx (t := .boolean) Bd.returns (by simp) (hb hby at_110) hr
      · show Q0 Z p1 p2 cs vf h0 n0 _ T96.heap _
        rw [e96]
        exact ⟨rfl, N96⟩
theorem own_isR {Z : State} {args : Array Value} {t : Term} (h : (Jvm.Cond.isRef t).value args Z none Z [] = some true) : ∃ v, t.eval args Z none [] Z = some v ∧ v.isRef = true := isR_v h
set_option maxRecDepth 65536 in
set_option maxHeartbeats 40000000 in
theorem comes_1 {Post : Tables → Env → Array Value → State → Outcome → State → Prop} (hpost : ∀ tb e args s v u, (limb_1_1.after args s (.returned v) u = true ∧ limb_1_2.after args s (.returned v) u = true ∧ True) → ReturnedEndW s (.returned v) u (Jvm.fieldLocs frame_1_writes args s ++ Jvm.arrayLocs frame_1_arrays args s ++ Jvm.staticLocs frame_1_statics s) 8 3136 → Post tb e args s (.returned v) u) :
    ArmFor flags0 classFile x code maxLocals ret World_1 tables_1 room_1 Calls_1 rest_1 Pre_1 Post := by
  intro l hfl _ _ p e ha hc hk s m args below hf hA hF happ hP
  obtain ⟨hcalls, hrest, hpre⟩ := hP
  obtain ⟨-, -, -, hnamed, -, -, -, hat⟩ := (Spec.applies_iff hf).mp happ
  obtain ⟨hg, hn⟩ := and_e (Cond.before_iff.mp (show (Jvm.Cond.and given_1 narrow_1).before args s = true from hpre))
  obtain ⟨gc, gr0⟩ := and_e hg
  obtain ⟨ga0, gr1⟩ := and_e gr0
  obtain ⟨w0, w1, rfl⟩ : ∃ w0 w1 : Value, args = #[w0, w1] := by
    have hs : args.size = 2 := by simpa [Cond.value, given_1] using gc
    obtain ⟨L⟩ := args
    match L, hs with
    | [w0, w1], _ => exact ⟨w0, w1, rfl⟩
  have hw := fun d (hd : d ∈ tables_1) => atoms_spec (ws := Jvm.Cond.code x code maxLocals ret :: tables_1) hat d (List.mem_cons_of_mem _ hd)
  have hfit : Fit s := fun {y c} hc i hi => by
    obtain ⟨ha, rfl⟩ := Array.getElem?_eq_some_iff.mp hc
    have q := List.all_eq_true.mp ((Array.all_eq_true_iff_forall_mem.mp hF) _ (Array.getElem_mem ha)) i (List.mem_range.mpr hi)
    simpa [Array.getElem?_eq_getElem hi] using q
  obtain ⟨i0, ei0⟩ := is_v ga0
  obtain rfl : w0 = (.int i0) := Option.some.inj ei0
  obtain ⟨i1, ei1⟩ := is_v gr1
  obtain rfl : w1 = (.int i1) := Option.some.inj ei1
  obtain ⟨hsets, hown0⟩ := atoms_of _ (rest_1_c_eq ▸ (show rest_1_c.before _ s = true from hrest))
  obtain ⟨cs, evC⟩ := is_v (Cond.before_iff.mp (hsets _ (List.mem_of_getElem? (i := 1) rfl)))
  have SC := Sta.start evC (Or.inl (hsets _ (List.mem_of_getElem? (i := 0) rfl)))
  have hcs : ¬ cs = (0 : Int32) := by
    have q := Cond.before_iff.mp (hsets _ (List.mem_of_getElem? (i := 2) rfl))
    intro h
    subst h
    simp [Cond.value, evC, Term.int_eval] at q
  obtain ⟨vf, evF, hvf⟩ := isR_v (Cond.before_iff.mp (hsets _ (List.mem_of_getElem? (i := 8) rfl)))
  have SF := Sta.start evF (Or.inl (hsets _ (List.mem_of_getElem? (i := 7) rfl)))
  have wS : ∀ a ∈ Bundle.stringAtoms, a.before _ s = true := fun a ha => by
    simp only [Bundle.stringAtoms, List.mem_cons, List.not_mem_nil, or_false] at ha
    rcases ha with rfl | rfl | rfl | rfl | rfl | rfl | rfl
    · exact (hw _ (List.mem_of_getElem? (i := 7) rfl))
    · exact (hw _ (List.mem_of_getElem? (i := 8) rfl))
    · exact (hw _ (List.mem_of_getElem? (i := 9) rfl))
    · exact (hw _ (List.mem_of_getElem? (i := 10) rfl))
    · exact (hw _ (List.mem_of_getElem? (i := 11) rfl))
    · exact (hw _ (List.mem_of_getElem? (i := 12) rfl))
    · exact (hw _ (List.mem_of_getElem? (i := 13) rfl))
  obtain ⟨n, o, h1, h2, h3, _, L, rfl, ⟨rfl, N⟩, hq⟩ := rm0 l s _ hw tables_1 i0 i1 cs vf s.heap s.heap.size (Nat.le_refl _) SC hcs SF hvf rfl (fun _ _ q => q) (hsets _ (List.mem_of_getElem? (i := 2) rfl)) hcalls.1 wS p e ha hc hk s m _ below hf ((Spec.applies_iff_loose hf).mp happ).1 ⟨rfl, State.Warmed39.refl s, rfl, IB.start⟩ trivial
  refine ⟨n, _, h1, h2, h3, hpost _ _ _ _ _ _ ⟨Cond.after_iff.mpr rfl, Cond.after_iff.mpr (eq_i res_at (Term.int_eval (1)) rfl), trivial⟩ ⟨hq.1, hq.2.1, hq.2.2.1, (hq.2.2.2.sift fun y hy => Or.inr (N y hy)).mono (by decide) (by decide)⟩⟩
theorem main_1_1 : Claimed_1_1 := comes_1 fun _ _ _ _ _ _ h hF => ⟨h.1, hF⟩
theorem main_1_2 : Claimed_1_2 := comes_1 fun _ _ _ _ _ _ h hF => ⟨h.2.1, hF⟩
end Jvm.Pilot.@@N@@
namespace Jvm.Pilot.@@N@@
open Jvm Jvm.ClassFile Sem Op Lib Jvm.Free Jvm.Stand Jvm.Pilot.@@N@@.Jvm.D
/-! MADE BY PROGRAM (witnessworld.py) out of the Statement's table words and the real class files: 17 classes; the members and pool entries that the words name. The judged class is class 1, her method 1. -/
namespace start1
open Jvm.ClassFile
def u (s : String) : CpInfo := .utf8 (stringToUtf16 s)
/-- a pool by its gaps: so many unusable entries, then the entry; so many at the end -/
def gap : Nat → List CpInfo → List CpInfo
  | 0, r => r
  | n + 1, r => .unusable :: gap n r
def poolList (es : List (Nat × CpInfo)) (last : Nat) : List CpInfo := es.foldr (fun e r => gap e.1 (e.2 :: r)) (gap last [])
def pool (es : List (Nat × CpInfo)) (last : Nat) : Array CpInfo := ⟨poolList es last⟩
def fileOf (pool : Array CpInfo) (this : Nat) (attrs : Array Attribute := #[]) (ms : Array MethodInfo := #[]) (fl : Nat := 33) (sup : Nat := 0) (ifs : Array Nat := #[]) (fds : Array FieldInfo := #[]) : ClassFile where
  minorVersion := 0
  majorVersion := 65
  constantPool := pool
  accessFlags := fl
  thisClass := this
  superClass := sup
  interfaces := ifs
  fields := fds
  methods := ms
  attributes := attrs
def plain (name : String) (sup : Option ClassId) : Class where
  name := name
  kind := .ordinary
  loader := none
  accessFlags := 33
  super := sup
  interfaces := #[]
  cf := none
  fields := #[]
  methods := #[]
  instanceTypes := #[]
  staticTypes := #[]
  resolved := #[]
  callSites := []
  init := .initialized
  statics := none
  mirror := none

def pool0 : Array CpInfo := pool [(5, u "<init>"), (0, u "()V"), (1, .class_ 10), (1, u "java/lang/Object")] 113

def k0m0 : Method := { name := "<init>", desc := "()V", sig := { parameters := [], returnType := none }, accessFlags := 1, code := none }
/-- java/lang/Object -/
def k0 : Class := { plain "java/lang/Object" none with
  accessFlags := 33
  interfaces := #[]
  cf := some (fileOf pool0 8 #[] #[{ accessFlags := 1, nameIndex := 5, descriptorIndex := 6, attributes := #[] }] 33 0 #[] #[])
  fields := #[]
  methods := #[k0m0]
  instanceTypes := #[]
  staticTypes := #[]
  resolved := Array.replicate 124 none
  statics := none }

def pool1 : Array CpInfo := pool [(2, .class_ 4), (1, u "java/lang/Object"), (0, u "<init>"), (0, u "()V"), (0, .integer 65535), (0, .methodref 9 10), (0, .class_ 11), (0, .nameAndType 12 13), (0, u "com/example/elemento/elemento/PercentEncoding"), (0, u "hexValue"), (0, u "(C)I"), (0, .string 15), (0, u "0123456789ABCDEF"), (0, .methodref 17 18), (0, .class_ 19), (0, .nameAndType 20 21), (0, u "java/lang/String"), (0, u "charAt"), (0, u "(I)C"), (0, .string 23), (0, u "0123456789abcdef"), (0, .integer 2147483647), (0, .string 26), (0, u "0123456789ABCDEFabcdef"), (0, .class_ 28), (0, u "com/example/elemento/elemento/PercentEncodingHexValuePinLaw"), (2, u "law"), (0, u "(II)Z")] 3

def k1m0 : Method := { name := "<init>", desc := "()V", sig := { parameters := [], returnType := none }, accessFlags := 2, code := none }
def k1c1 : Code := { maxStack := 3, maxLocals := 8, code := code, exceptionTable := #[], attributes := #[] }
def k1m1 : Method := { name := "law", desc := "(II)Z", sig := { parameters := [.int, .int], returnType := some .boolean }, accessFlags := 9, code := some k1c1 }
/-- com/example/elemento/elemento/PercentEncodingHexValuePinLaw -/
def k1 : Class := { plain "com/example/elemento/elemento/PercentEncodingHexValuePinLaw" (some 0) with
  accessFlags := 49
  interfaces := #[]
  cf := some (fileOf pool1 27 #[] #[{ accessFlags := 2, nameIndex := 5, descriptorIndex := 6, attributes := #[] }, { accessFlags := 9, nameIndex := 31, descriptorIndex := 32, attributes := #[] }] 49 2 #[] #[])
  fields := #[]
  methods := #[k1m0, k1m1]
  instanceTypes := #[]
  staticTypes := #[]
  resolved := Array.replicate 36 none
  statics := none }

def pool2 : Array CpInfo := pool [(2, .class_ 4), (1, u "java/lang/Object"), (0, u "<init>"), (0, u "()V"), (0, .class_ 8), (0, u "com/example/elemento/elemento/PercentEncoding"), (8, u "hexValue"), (0, u "(C)I"), (30, u "ESCAPE"), (0, u "C"), (2, u "DIGITS"), (0, u "I"), (1, u "HEX_DIGITS"), (0, u "Ljava/lang/String;"), (0, u "HEX")] 14

def k2m0 : Method := { name := "<init>", desc := "()V", sig := { parameters := [], returnType := none }, accessFlags := 2, code := none }
def k2c1 : Code := { maxStack := 2, maxLocals := 2, code := prog_48_method_6_code, exceptionTable := #[], attributes := #[] }
def k2m1 : Method := { name := "hexValue", desc := "(C)I", sig := { parameters := [.char], returnType := some .int }, accessFlags := 8, code := some k2c1 }
/-- com/example/elemento/elemento/PercentEncoding -/
def k2 : Class := { plain "com/example/elemento/elemento/PercentEncoding" (some 0) with
  accessFlags := 48
  interfaces := #[]
  cf := some (fileOf pool2 7 #[] #[{ accessFlags := 2, nameIndex := 5, descriptorIndex := 6, attributes := #[] }, { accessFlags := 8, nameIndex := 17, descriptorIndex := 18, attributes := #[] }] 48 2 #[] #[{ accessFlags := 26, nameIndex := 49, descriptorIndex := 50, attributes := #[] }, { accessFlags := 26, nameIndex := 53, descriptorIndex := 54, attributes := #[] }, { accessFlags := 26, nameIndex := 56, descriptorIndex := 57, attributes := #[] }, { accessFlags := 26, nameIndex := 58, descriptorIndex := 54, attributes := #[] }])
  fields := #[{ name := "ESCAPE", type := .char, accessFlags := 26, slot := 0, constantValue := 0 }, { name := "DIGITS", type := .int, accessFlags := 26, slot := 1, constantValue := 0 }, { name := "HEX_DIGITS", type := (.object "java/lang/String"), accessFlags := 26, slot := 2, constantValue := 0 }, { name := "HEX", type := .int, accessFlags := 26, slot := 3, constantValue := 0 }]
  methods := #[k2m0, k2m1]
  instanceTypes := #[]
  staticTypes := #[.char, .int, (.object "java/lang/String"), .int]
  resolved := Array.replicate 73 none
  statics := none }

def pool3 : Array CpInfo := pool [(1, .class_ 2), (0, u "java/io/Serializable"), (0, .class_ 4), (0, u "java/lang/Object")] 2

/-- java/io/Serializable -/
def k3 : Class := { plain "java/io/Serializable" (some 0) with
  accessFlags := 1537
  interfaces := #[]
  cf := some (fileOf pool3 1 #[] #[] 1537 3 #[] #[])
  fields := #[]
  methods := #[]
  instanceTypes := #[]
  staticTypes := #[]
  resolved := Array.replicate 7 none
  statics := none }

def pool4 : Array CpInfo := pool [(1, .class_ 2), (0, u "java/lang/Comparable"), (0, .class_ 4), (0, u "java/lang/Object")] 7

/-- java/lang/Comparable -/
def k4 : Class := { plain "java/lang/Comparable" (some 0) with
  accessFlags := 1537
  interfaces := #[]
  cf := some (fileOf pool4 1 #[] #[] 1537 3 #[] #[])
  fields := #[]
  methods := #[]
  instanceTypes := #[]
  staticTypes := #[]
  resolved := Array.replicate 12 none
  statics := none }

def pool5 : Array CpInfo := pool [(2, .class_ 4), (1, u "java/lang/CharSequence"), (42, .class_ 48), (0, u "java/lang/CharSequence$1CodePointIterator"), (10, .class_ 60), (0, u "java/lang/CharSequence$1CharIterator"), (5, .class_ 67), (0, u "java/lang/Object")] 63

/-- java/lang/CharSequence -/
def k5 : Class := { plain "java/lang/CharSequence" (some 0) with
  accessFlags := 1537
  interfaces := #[]
  cf := some (fileOf pool5 2 #[.nestMembers #[47, 59]] #[] 1537 66 #[] #[])
  fields := #[]
  methods := #[]
  instanceTypes := #[]
  staticTypes := #[]
  resolved := Array.replicate 131 none
  statics := none }

def pool6 : Array CpInfo := pool [(1, .class_ 2), (0, u "java/lang/constant/Constable"), (0, .class_ 4), (0, u "java/lang/Object")] 6

/-- java/lang/constant/Constable -/
def k6 : Class := { plain "java/lang/constant/Constable" (some 0) with
  accessFlags := 1537
  interfaces := #[]
  cf := some (fileOf pool6 1 #[] #[] 1537 3 #[] #[])
  fields := #[]
  methods := #[]
  instanceTypes := #[]
  staticTypes := #[]
  resolved := Array.replicate 11 none
  statics := none }

def pool7 : Array CpInfo := pool [(1, .class_ 2), (0, u "java/lang/constant/ConstantDesc"), (0, .class_ 4), (0, u "java/lang/Object")] 32

/-- java/lang/constant/ConstantDesc -/
def k7 : Class := { plain "java/lang/constant/ConstantDesc" (some 0) with
  accessFlags := 1537
  interfaces := #[]
  cf := some (fileOf pool7 1 #[] #[] 1537 3 #[] #[])
  fields := #[]
  methods := #[]
  instanceTypes := #[]
  staticTypes := #[]
  resolved := Array.replicate 37 none
  statics := none }

def pool8 : Array CpInfo := pool [(2, .class_ 4), (1, u "java/lang/Object"), (0, u "<init>"), (0, u "()V"), (2, .fieldref 10 11), (0, .class_ 12), (0, .nameAndType 13 14), (0, u "java/lang/String"), (0, u "value"), (0, u "[B"), (0, .fieldref 10 16), (0, .nameAndType 17 18), (0, u "coder"), (0, u "B"), (2, u "hash"), (0, u "I"), (2, u "hashIsZero"), (0, u "Z"), (11, .fieldref 10 39), (0, .nameAndType 40 26), (0, u "COMPACT_STRINGS"), (66, .class_ 109), (1, u "java/lang/StringLatin1"), (32, u "()Z"), (220, u "([BI)C"), (27, u "(II)V"), (35, u "(I)C"), (64, .methodref 10 493), (0, .nameAndType 494 142), (0, u "isLatin1"), (0, .methodref 107 496), (0, .nameAndType 497 363), (0, u "charAt"), (3, u "checkIndex"), (73, .class_ 576), (0, u "java/lang/CharSequence"), (22, u "CASE_INSENSITIVE_ORDER"), (0, u "Ljava/util/Comparator;"), (452, .fieldref 1054 1055), (0, .class_ 1056), (0, .nameAndType 1057 1058), (0, u "jdk/internal/util/Preconditions"), (0, u "SIOOBE_FORMATTER"), (0, u "Ljava/util/function/BiFunction;"), (0, .methodref 1054 1060), (0, .nameAndType 501 1061), (0, u "(IILjava/util/function/BiFunction;)I"), (39, u "serialPersistentFields"), (0, u "[Ljava/io/ObjectStreamField;"), (0, .class_ 1104), (0, u "java/lang/String$CaseInsensitiveComparator"), (1, .class_ 1107), (0, u "java/io/Serializable"), (0, .class_ 1109), (0, u "java/lang/Comparable"), (0, .class_ 1111), (0, u "java/lang/constant/Constable"), (0, .class_ 1113), (0, u "java/lang/constant/ConstantDesc"), (2, u "serialVersionUID"), (0, u "J"), (3, u "REPL"), (0, u "C"), (2, u "LATIN1"), (1, u "UTF16")] 323

def k8m0 : Method := { name := "<init>", desc := "()V", sig := { parameters := [], returnType := none }, accessFlags := 1, code := none }
def k8c1 : Code := { maxStack := 2, maxLocals := 2, code := jdk_42_method_56_code, exceptionTable := #[], attributes := #[] }
def k8m1 : Method := { name := "charAt", desc := "(I)C", sig := { parameters := [.int], returnType := some .char }, accessFlags := 1, code := some k8c1 }
def k8c2 : Code := { maxStack := 1, maxLocals := 1, code := jdk_42_method_154_code, exceptionTable := #[], attributes := #[] }
def k8m2 : Method := { name := "isLatin1", desc := "()Z", sig := { parameters := [], returnType := some .boolean }, accessFlags := 0, code := some k8c2 }
def k8c3 : Code := { maxStack := 3, maxLocals := 2, code := jdk_42_method_155_code, exceptionTable := #[], attributes := #[] }
def k8m3 : Method := { name := "checkIndex", desc := "(II)V", sig := { parameters := [.int, .int], returnType := none }, accessFlags := 8, code := some k8c3 }
/-- java/lang/String -/
def k8 : Class := { plain "java/lang/String" (some 0) with
  accessFlags := 49
  interfaces := #[3, 4, 5, 6, 7]
  cf := some (fileOf pool8 10 #[.nestMembers #[1103]] #[{ accessFlags := 1, nameIndex := 5, descriptorIndex := 6, attributes := #[] }, { accessFlags := 1, nameIndex := 497, descriptorIndex := 427, attributes := #[] }, { accessFlags := 0, nameIndex := 494, descriptorIndex := 142, attributes := #[] }, { accessFlags := 8, nameIndex := 501, descriptorIndex := 391, attributes := #[] }] 49 2 #[1106, 1108, 575, 1110, 1112] #[{ accessFlags := 18, nameIndex := 13, descriptorIndex := 14, attributes := #[] }, { accessFlags := 18, nameIndex := 17, descriptorIndex := 18, attributes := #[] }, { accessFlags := 2, nameIndex := 21, descriptorIndex := 22, attributes := #[] }, { accessFlags := 2, nameIndex := 25, descriptorIndex := 26, attributes := #[] }, { accessFlags := 26, nameIndex := 1116, descriptorIndex := 1117, attributes := #[] }, { accessFlags := 24, nameIndex := 40, descriptorIndex := 26, attributes := #[] }, { accessFlags := 26, nameIndex := 1101, descriptorIndex := 1102, attributes := #[] }, { accessFlags := 26, nameIndex := 1121, descriptorIndex := 1122, attributes := #[] }, { accessFlags := 25, nameIndex := 599, descriptorIndex := 600, attributes := #[] }, { accessFlags := 24, nameIndex := 1125, descriptorIndex := 18, attributes := #[] }, { accessFlags := 24, nameIndex := 1127, descriptorIndex := 18, attributes := #[] }])
  fields := #[{ name := "value", type := (.array .byte), accessFlags := 18, slot := 0, constantValue := 0 }, { name := "coder", type := .byte, accessFlags := 18, slot := 1, constantValue := 0 }, { name := "hash", type := .int, accessFlags := 2, slot := 2, constantValue := 0 }, { name := "hashIsZero", type := .boolean, accessFlags := 2, slot := 3, constantValue := 0 }, { name := "serialVersionUID", type := .long, accessFlags := 26, slot := 0, constantValue := 0 }, { name := "COMPACT_STRINGS", type := .boolean, accessFlags := 24, slot := 1, constantValue := 0 }, { name := "serialPersistentFields", type := (.array (.object "java/io/ObjectStreamField")), accessFlags := 26, slot := 2, constantValue := 0 }, { name := "REPL", type := .char, accessFlags := 26, slot := 3, constantValue := 0 }, { name := "CASE_INSENSITIVE_ORDER", type := (.object "java/util/Comparator"), accessFlags := 25, slot := 4, constantValue := 0 }, { name := "LATIN1", type := .byte, accessFlags := 24, slot := 5, constantValue := 0 }, { name := "UTF16", type := .byte, accessFlags := 24, slot := 6, constantValue := 0 }]
  methods := #[k8m0, k8m1, k8m2, k8m3]
  instanceTypes := #[(.array .byte), .byte, .int, .boolean]
  staticTypes := #[.long, .boolean, (.array (.object "java/io/ObjectStreamField")), .char, (.object "java/util/Comparator"), .byte, .byte]
  resolved := Array.replicate 1451 none
  statics := some 0 }

def pool9 : Array CpInfo := pool [(1, .class_ 2), (0, u "java/lang/String"), (1, .class_ 6), (1, u "java/lang/Object"), (0, u "<init>"), (0, u "()V"), (0, .methodref 1 10), (0, .nameAndType 11 12), (0, u "checkIndex"), (0, u "(II)V"), (1, .class_ 16), (1, u "java/lang/StringLatin1"), (36, u "([BI)C"), (67, u "$assertionsDisabled"), (0, u "Z"), (98, .class_ 223), (1, u "java/lang/StringLatin1$LinesSpliterator"), (28, u "charAt"), (137, .class_ 391), (0, u "java/lang/StringLatin1$CharsSpliterator")] 3

def k9m0 : Method := { name := "<init>", desc := "()V", sig := { parameters := [], returnType := none }, accessFlags := 0, code := none }
def k9c1 : Code := { maxStack := 2, maxLocals := 2, code := jdk_43_method_2_code, exceptionTable := #[], attributes := #[] }
def k9m1 : Method := { name := "charAt", desc := "([BI)C", sig := { parameters := [(.array .byte), .int], returnType := some .char }, accessFlags := 9, code := some k9c1 }
/-- java/lang/StringLatin1 -/
def k9 : Class := { plain "java/lang/StringLatin1" (some 0) with
  accessFlags := 48
  interfaces := #[]
  cf := some (fileOf pool9 14 #[.nestMembers #[390, 221]] #[{ accessFlags := 0, nameIndex := 7, descriptorIndex := 8, attributes := #[] }, { accessFlags := 9, nameIndex := 252, descriptorIndex := 53, attributes := #[] }] 48 4 #[] #[{ accessFlags := 4120, nameIndex := 121, descriptorIndex := 122, attributes := #[] }])
  fields := #[{ name := "$assertionsDisabled", type := .boolean, accessFlags := 4120, slot := 0, constantValue := 0 }]
  methods := #[k9m0, k9m1]
  instanceTypes := #[]
  staticTypes := #[.boolean]
  resolved := Array.replicate 395 none
  statics := none }

def pool10 : Array CpInfo := pool [(2, .class_ 4), (1, u "java/lang/Object"), (0, u "<init>"), (0, u "()V"), (17, .class_ 26), (1, u "jdk/internal/util/Preconditions"), (6, u "checkIndex"), (21, .class_ 56), (0, u "jdk/internal/util/Preconditions$4"), (57, .class_ 115), (0, u "jdk/internal/util/Preconditions$1"), (7, u "SIOOBE_FORMATTER"), (0, u "Ljava/util/function/BiFunction;"), (0, .class_ 126), (0, u "jdk/internal/util/Preconditions$2"), (3, u "AIOOBE_FORMATTER"), (0, .class_ 132), (0, u "jdk/internal/util/Preconditions$3"), (3, u "IOOBE_FORMATTER"), (41, u "(IILjava/util/function/BiFunction;)I")] 15

def k10m0 : Method := { name := "<init>", desc := "()V", sig := { parameters := [], returnType := none }, accessFlags := 1, code := none }
def k10c1 : Code := { maxStack := 3, maxLocals := 3, code := jdk_41_method_11_code, exceptionTable := #[], attributes := #[] }
def k10m1 : Method := { name := "checkIndex", desc := "(IILjava/util/function/BiFunction;)I", sig := { parameters := [.int, .int, (.object "java/util/function/BiFunction")], returnType := some .int }, accessFlags := 9, code := some k10c1 }
/-- jdk/internal/util/Preconditions -/
def k10 : Class := { plain "jdk/internal/util/Preconditions" (some 0) with
  accessFlags := 33
  interfaces := #[]
  cf := some (fileOf pool10 24 #[.nestMembers #[55, 131, 125, 114]] #[{ accessFlags := 1, nameIndex := 5, descriptorIndex := 6, attributes := #[] }, { accessFlags := 9, nameIndex := 33, descriptorIndex := 178, attributes := #[] }] 33 2 #[] #[{ accessFlags := 25, nameIndex := 123, descriptorIndex := 124, attributes := #[] }, { accessFlags := 25, nameIndex := 130, descriptorIndex := 124, attributes := #[] }, { accessFlags := 25, nameIndex := 136, descriptorIndex := 124, attributes := #[] }])
  fields := #[{ name := "SIOOBE_FORMATTER", type := (.object "java/util/function/BiFunction"), accessFlags := 25, slot := 0, constantValue := 0 }, { name := "AIOOBE_FORMATTER", type := (.object "java/util/function/BiFunction"), accessFlags := 25, slot := 1, constantValue := 0 }, { name := "IOOBE_FORMATTER", type := (.object "java/util/function/BiFunction"), accessFlags := 25, slot := 2, constantValue := 0 }]
  methods := #[k10m0, k10m1]
  instanceTypes := #[]
  staticTypes := #[(.object "java/util/function/BiFunction"), (.object "java/util/function/BiFunction"), (.object "java/util/function/BiFunction")]
  resolved := Array.replicate 194 none
  statics := some 1 }

def pool11 : Array CpInfo := pool [(9, u "<init>"), (6, .class_ 18), (1, u "java/lang/Object"), (0, u "()V"), (1, .class_ 23), (1, u "jdk/internal/util/ArraysSupport"), (0, u "LOG2_ARRAY_LONG_INDEX_SCALE"), (0, u "I"), (2, u "U"), (0, u "Ljdk/internal/misc/Unsafe;"), (8, u "BIG_ENDIAN"), (0, u "Z"), (8, u "LOG2_BYTE_BIT_SIZE"), (4, u "LOG2_ARRAY_INT_INDEX_SCALE"), (54, u "JLA"), (0, u "Ljdk/internal/access/JavaLangAccess;"), (11, u "LOG2_ARRAY_BOOLEAN_INDEX_SCALE"), (9, u "LOG2_ARRAY_BYTE_INDEX_SCALE"), (5, u "LOG2_ARRAY_CHAR_INDEX_SCALE"), (5, u "LOG2_ARRAY_SHORT_INDEX_SCALE"), (18, u "LOG2_ARRAY_FLOAT_INDEX_SCALE"), (24, u "LOG2_ARRAY_DOUBLE_INDEX_SCALE"), (89, u "T_BOOLEAN"), (2, u "T_CHAR"), (1, u "T_FLOAT"), (1, u "T_DOUBLE"), (1, u "T_BYTE"), (1, u "T_SHORT"), (1, u "T_INT"), (1, u "T_LONG"), (1, u "SOFT_MAX_ARRAY_LENGTH")] 83

def k11m0 : Method := { name := "<init>", desc := "()V", sig := { parameters := [], returnType := none }, accessFlags := 2, code := none }
/-- jdk/internal/util/ArraysSupport -/
def k11 : Class := { plain "jdk/internal/util/ArraysSupport" (some 0) with
  accessFlags := 33
  interfaces := #[]
  cf := some (fileOf pool11 21 #[] #[{ accessFlags := 2, nameIndex := 9, descriptorIndex := 19, attributes := #[] }] 33 16 #[] #[{ accessFlags := 24, nameIndex := 28, descriptorIndex := 29, attributes := #[] }, { accessFlags := 26, nameIndex := 38, descriptorIndex := 39, attributes := #[] }, { accessFlags := 25, nameIndex := 121, descriptorIndex := 25, attributes := #[] }, { accessFlags := 25, nameIndex := 131, descriptorIndex := 25, attributes := #[] }, { accessFlags := 25, nameIndex := 137, descriptorIndex := 25, attributes := #[] }, { accessFlags := 25, nameIndex := 143, descriptorIndex := 25, attributes := #[] }, { accessFlags := 25, nameIndex := 53, descriptorIndex := 25, attributes := #[] }, { accessFlags := 25, nameIndex := 24, descriptorIndex := 25, attributes := #[] }, { accessFlags := 25, nameIndex := 162, descriptorIndex := 25, attributes := #[] }, { accessFlags := 25, nameIndex := 187, descriptorIndex := 25, attributes := #[] }, { accessFlags := 26, nameIndex := 48, descriptorIndex := 25, attributes := #[] }, { accessFlags := 25, nameIndex := 277, descriptorIndex := 25, attributes := #[] }, { accessFlags := 25, nameIndex := 280, descriptorIndex := 25, attributes := #[] }, { accessFlags := 25, nameIndex := 282, descriptorIndex := 25, attributes := #[] }, { accessFlags := 25, nameIndex := 284, descriptorIndex := 25, attributes := #[] }, { accessFlags := 25, nameIndex := 286, descriptorIndex := 25, attributes := #[] }, { accessFlags := 25, nameIndex := 288, descriptorIndex := 25, attributes := #[] }, { accessFlags := 25, nameIndex := 290, descriptorIndex := 25, attributes := #[] }, { accessFlags := 25, nameIndex := 292, descriptorIndex := 25, attributes := #[] }, { accessFlags := 26, nameIndex := 108, descriptorIndex := 109, attributes := #[] }, { accessFlags := 25, nameIndex := 294, descriptorIndex := 25, attributes := #[] }])
  fields := #[{ name := "U", type := (.object "jdk/internal/misc/Unsafe"), accessFlags := 24, slot := 0, constantValue := 0 }, { name := "BIG_ENDIAN", type := .boolean, accessFlags := 26, slot := 1, constantValue := 0 }, { name := "LOG2_ARRAY_BOOLEAN_INDEX_SCALE", type := .int, accessFlags := 25, slot := 2, constantValue := 0 }, { name := "LOG2_ARRAY_BYTE_INDEX_SCALE", type := .int, accessFlags := 25, slot := 3, constantValue := 0 }, { name := "LOG2_ARRAY_CHAR_INDEX_SCALE", type := .int, accessFlags := 25, slot := 4, constantValue := 0 }, { name := "LOG2_ARRAY_SHORT_INDEX_SCALE", type := .int, accessFlags := 25, slot := 5, constantValue := 0 }, { name := "LOG2_ARRAY_INT_INDEX_SCALE", type := .int, accessFlags := 25, slot := 6, constantValue := 0 }, { name := "LOG2_ARRAY_LONG_INDEX_SCALE", type := .int, accessFlags := 25, slot := 7, constantValue := 0 }, { name := "LOG2_ARRAY_FLOAT_INDEX_SCALE", type := .int, accessFlags := 25, slot := 8, constantValue := 0 }, { name := "LOG2_ARRAY_DOUBLE_INDEX_SCALE", type := .int, accessFlags := 25, slot := 9, constantValue := 0 }, { name := "LOG2_BYTE_BIT_SIZE", type := .int, accessFlags := 26, slot := 10, constantValue := 0 }, { name := "T_BOOLEAN", type := .int, accessFlags := 25, slot := 11, constantValue := 0 }, { name := "T_CHAR", type := .int, accessFlags := 25, slot := 12, constantValue := 0 }, { name := "T_FLOAT", type := .int, accessFlags := 25, slot := 13, constantValue := 0 }, { name := "T_DOUBLE", type := .int, accessFlags := 25, slot := 14, constantValue := 0 }, { name := "T_BYTE", type := .int, accessFlags := 25, slot := 15, constantValue := 0 }, { name := "T_SHORT", type := .int, accessFlags := 25, slot := 16, constantValue := 0 }, { name := "T_INT", type := .int, accessFlags := 25, slot := 17, constantValue := 0 }, { name := "T_LONG", type := .int, accessFlags := 25, slot := 18, constantValue := 0 }, { name := "JLA", type := (.object "jdk/internal/access/JavaLangAccess"), accessFlags := 26, slot := 19, constantValue := 0 }, { name := "SOFT_MAX_ARRAY_LENGTH", type := .int, accessFlags := 25, slot := 20, constantValue := 0 }]
  methods := #[k11m0]
  instanceTypes := #[]
  staticTypes := #[(.object "jdk/internal/misc/Unsafe"), .boolean, .int, .int, .int, .int, .int, .int, .int, .int, .int, .int, .int, .int, .int, .int, .int, .int, .int, (.object "jdk/internal/access/JavaLangAccess"), .int]
  resolved := Array.replicate 378 none
  statics := none }

def pool12 : Array CpInfo := pool [(1, u "java/lang/Cloneable"), (0, .class_ 1), (0, u "java/lang/Object"), (0, .class_ 3)] 3

/-- java/lang/Cloneable -/
def k12 : Class := { plain "java/lang/Cloneable" (some 0) with
  accessFlags := 1537
  interfaces := #[]
  cf := some (fileOf pool12 2 #[] #[] 1537 4 #[] #[])
  fields := #[]
  methods := #[]
  instanceTypes := #[]
  staticTypes := #[]
  resolved := Array.replicate 8 none
  statics := none }

/-- the primitive byte -/
def k13 : Class := { plain "byte" none with kind := .primitive 'B', accessFlags := 0x411 }
/-- [B -/
def k14 : Class := { plain "[B" (some 0) with kind := .array 13 .byte, interfaces := #[12, 3], accessFlags := 1041 }

/-- the primitive int -/
def k15 : Class := { plain "int" none with kind := .primitive 'I', accessFlags := 0x411 }
/-- [I -/
def k16 : Class := { plain "[I" (some 0) with kind := .array 15 .int, interfaces := #[12, 3], accessFlags := 1041 }

def heap : Heap := #[{ cls := 8, slots := #[.long 0, .int 1, .null, .int 0, .null, .int 0, .int 0], vm := .statics 8 },
  { cls := 10, slots := #[.null, .null, .null], vm := .statics 10 }]
def classes : Array Class := #[k0, k1, k2, k3, k4, k5, k6, k7, k8, k9, k10, k11, k12, k13, k14, k15, k16]
def interned : List (Array UInt16 × Addr) := []
def slotsUsed : Nat := 10
def theMethod : MethodId := ⟨1, 1⟩
def args0 : Array Value := #[.int 7, .int 9]
def aboutOver (below : List Frame) : State where
  vm := { classes := classes, interned := interned.toArray }
  heap := heap
  slotsUsed := slotsUsed
  threads := #[{ frames := .invoking theMethod args0 :: below }]
def below0 : List Frame := [.native { method := ⟨0, 0⟩, args := #[] }]
def about1 : State := aboutOver below0
def p0 : Program := .bare "" "" ""
def e0 : Env := launch0.env 0 0 0
theorem w_frames : about1.frames = Frame.invoking theMethod args0 :: below0 := rfl
set_option maxRecDepth 65536 in
theorem w_args : argsFit about1.vm theMethod args0 = true := by decide +kernel
set_option maxRecDepth 65536 in
theorem w_heap : heapFits about1 = true := by decide +kernel
set_option maxRecDepth 65536 in
theorem w_runnable : about1.curStatus? = some .runnable := by decide +kernel
set_option maxRecDepth 65536 in
theorem w_alone : about1.alone = true := by decide +kernel
set_option maxRecDepth 65536 in
theorem w_named : about1.methodNamed? x = some theMethod := by decide +kernel
set_option maxRecDepth 65536 in
theorem w_hears : about1.hears theMethod below0 = true := by decide +kernel
set_option maxRecDepth 65536 in
theorem w_ripe : about1.ripe theMethod args0 below0 = true := by decide +kernel
theorem w_running : about1.status = .running := rfl
set_option maxRecDepth 65536 in
theorem w_room : about1.hasRoom e0.platform room_1 = true :=
  launch0.hasRoom_least _ room_1 (by decide +kernel) (by decide +kernel) (by decide +kernel) (by decide +kernel) (by decide +kernel) (by decide +kernel)
theorem allAtoms_all (ts : List Jvm.Cond) (a : Array Jvm.Value) (st : Jvm.State) : (allAtoms ts).before a st = ts.all (fun c => c.before a st) := by
  induction ts with
  | nil => rfl
  | cons c t ih =>
    show (Jvm.Cond.and c (allAtoms t)).before a st = _
    rw [Jvm.Cond.before_and, ih, List.all_cons]
def words1 : List Jvm.Cond := Jvm.Cond.code x code maxLocals ret :: tables_1
/-- a 'code' word, met by the world's own term for the bytes: nothing is compared byte by byte -/
theorem code_word {y : MethodName} {bytes : ByteArray} {mx : Nat} {rt : Option FieldType} {a : Array Value} {s : State} {m : MethodId} {meth : Method} {c : Code} (h1 : s.methodNamed? y = some m) (h2 : s.vm.method? m = some meth) (h3 : meth.code = some c) (h4 : c.code = bytes)
    (h5 : (c.maxLocals == mx && c.exceptionTable.isEmpty && decide (c.maxStack ≤ mostOperands) && decide (meth.sig.returnType = rt) && !meth.locks && decide (parseMethodDescriptor y.desc = some meth.sig)) = true) : (Jvm.Cond.code y bytes mx rt).before a s = true := by
  simp only [Bool.and_eq_true, beq_iff_eq, Bool.not_eq_true', decide_eq_true_eq] at h5
  obtain ⟨⟨⟨⟨⟨g1, g2⟩, g3⟩, g4⟩, g5⟩, g6⟩ := h5
  simp [Cond.before, Cond.holds, Cond.value, h1, h2, h3, h4, g1, g2, g3, g4, g5, g6]
def isCode : Jvm.Cond → Bool
  | .code _ _ _ _ => true
  | _ => false
theorem all_split {L : List Jvm.Cond} {P : Jvm.Cond → Bool} (h1 : L.all (fun c => isCode c || P c) = true) (h2 : ∀ c ∈ L.filter isCode, P c = true) : L.all P = true := by
  refine List.all_eq_true.mpr fun c hc => ?_
  have h := List.all_eq_true.mp h1 c hc
  rcases Bool.eq_false_or_eq_true (isCode c) with hi | hi
  · exact h2 c (List.mem_filter.mpr ⟨hc, hi⟩)
  · simpa [hi] using h
set_option maxRecDepth 65536 in
theorem w_c0 : (Jvm.Cond.code x code maxLocals ret).before args0 about1 = true := code_word (m := ⟨1, 1⟩) (meth := k1m1) (c := k1c1) (by decide +kernel) rfl rfl rfl (by decide +kernel)
set_option maxRecDepth 65536 in
theorem w_c1 : (Jvm.Cond.code ({ cls := "com/example/elemento/elemento/PercentEncoding", name := "hexValue", desc := "(C)I" } : Jvm.MethodName) prog_48_method_6_code (2 : Nat) (Option.some Jvm.ClassFile.FieldType.int)).before args0 about1 = true := code_word (m := ⟨2, 1⟩) (meth := k2m1) (c := k2c1) (by decide +kernel) rfl rfl rfl (by decide +kernel)
set_option maxRecDepth 65536 in
theorem w_c2 : (Jvm.Cond.code ({ cls := "java/lang/String", name := "charAt", desc := "(I)C" } : Jvm.MethodName) jdk_42_method_56_code (2 : Nat) (Option.some Jvm.ClassFile.FieldType.char)).before args0 about1 = true := code_word (m := ⟨8, 1⟩) (meth := k8m1) (c := k8c1) (by decide +kernel) rfl rfl rfl (by decide +kernel)
set_option maxRecDepth 65536 in
theorem w_c3 : (Jvm.Cond.code ({ cls := "java/lang/String", name := "isLatin1", desc := "()Z" } : Jvm.MethodName) jdk_42_method_154_code (1 : Nat) (Option.some Jvm.ClassFile.FieldType.boolean)).before args0 about1 = true := code_word (m := ⟨8, 2⟩) (meth := k8m2) (c := k8c2) (by decide +kernel) rfl rfl rfl (by decide +kernel)
set_option maxRecDepth 65536 in
theorem w_c4 : (Jvm.Cond.code ({ cls := "java/lang/StringLatin1", name := "charAt", desc := "([BI)C" } : Jvm.MethodName) jdk_43_method_2_code (2 : Nat) (Option.some Jvm.ClassFile.FieldType.char)).before args0 about1 = true := code_word (m := ⟨9, 1⟩) (meth := k9m1) (c := k9c1) (by decide +kernel) rfl rfl rfl (by decide +kernel)
set_option maxRecDepth 65536 in
theorem w_c5 : (Jvm.Cond.code ({ cls := "java/lang/String", name := "checkIndex", desc := "(II)V" } : Jvm.MethodName) jdk_42_method_155_code (2 : Nat) (Option.none : Option Jvm.ClassFile.FieldType)).before args0 about1 = true := code_word (m := ⟨8, 3⟩) (meth := k8m3) (c := k8c3) (by decide +kernel) rfl rfl rfl (by decide +kernel)
set_option maxRecDepth 65536 in
theorem w_c6 : (Jvm.Cond.code ({ cls := "jdk/internal/util/Preconditions", name := "checkIndex", desc := "(IILjava/util/function/BiFunction;)I" } : Jvm.MethodName) jdk_41_method_11_code (3 : Nat) (Option.some Jvm.ClassFile.FieldType.int)).before args0 about1 = true := code_word (m := ⟨10, 1⟩) (meth := k10m1) (c := k10c1) (by decide +kernel) rfl rfl rfl (by decide +kernel)
def codes1 : List Jvm.Cond := [Jvm.Cond.code x code maxLocals ret, Jvm.Cond.code ({ cls := "com/example/elemento/elemento/PercentEncoding", name := "hexValue", desc := "(C)I" } : Jvm.MethodName) prog_48_method_6_code (2 : Nat) (Option.some Jvm.ClassFile.FieldType.int), Jvm.Cond.code ({ cls := "java/lang/String", name := "charAt", desc := "(I)C" } : Jvm.MethodName) jdk_42_method_56_code (2 : Nat) (Option.some Jvm.ClassFile.FieldType.char), Jvm.Cond.code ({ cls := "java/lang/String", name := "isLatin1", desc := "()Z" } : Jvm.MethodName) jdk_42_method_154_code (1 : Nat) (Option.some Jvm.ClassFile.FieldType.boolean), Jvm.Cond.code ({ cls := "java/lang/StringLatin1", name := "charAt", desc := "([BI)C" } : Jvm.MethodName) jdk_43_method_2_code (2 : Nat) (Option.some Jvm.ClassFile.FieldType.char), Jvm.Cond.code ({ cls := "java/lang/String", name := "checkIndex", desc := "(II)V" } : Jvm.MethodName) jdk_42_method_155_code (2 : Nat) (Option.none : Option Jvm.ClassFile.FieldType), Jvm.Cond.code ({ cls := "jdk/internal/util/Preconditions", name := "checkIndex", desc := "(IILjava/util/function/BiFunction;)I" } : Jvm.MethodName) jdk_41_method_11_code (3 : Nat) (Option.some Jvm.ClassFile.FieldType.int)]
set_option maxRecDepth 65536 in
theorem codes_eq : words1.filter isCode = codes1 := rfl
theorem w_codes : ∀ c ∈ words1.filter isCode, c.before args0 about1 = true := by
  rw [codes_eq]
  intro c hc
  simp only [codes1, List.mem_cons, List.not_mem_nil, or_false] at hc
  rcases hc with rfl | rfl | rfl | rfl | rfl | rfl | rfl
  · exact w_c0
  · exact w_c1
  · exact w_c2
  · exact w_c3
  · exact w_c4
  · exact w_c5
  · exact w_c6
set_option maxRecDepth 65536 in
theorem w_t1 : (words1.take 24).all (fun c => isCode c || c.before args0 about1) = true := by decide +kernel
set_option maxRecDepth 65536 in
theorem w_t2 : (words1.drop 24).all (fun c => isCode c || c.before args0 about1) = true := by decide +kernel
theorem w_tables : (allAtoms (Jvm.Cond.code x code maxLocals ret :: tables_1)).before args0 about1 = true := by
  rw [allAtoms_all]
  show words1.all (fun c => c.before args0 about1) = true
  refine all_split ?_ w_codes
  rw [← List.take_append_drop 24 words1, List.all_append, w_t1, w_t2]
  rfl
set_option maxRecDepth 65536 in
theorem w_rest : rest_1_c.before args0 about1 = true := by decide +kernel
set_option maxRecDepth 65536 in
theorem w_case : (Jvm.Cond.and given_1 narrow_1).before args0 about1 = true := by decide +kernel
set_option maxRecDepth 65536 in
theorem w_consts : constsHeld consts_1 about1 := Jvm.Lit.constsHeldB_iff.mp (by decide +kernel)
theorem w_applies : (headSpec (Jvm.Cond.code x code maxLocals ret :: tables_1) room_1).applies x e0.platform about1 = true :=
  (Spec.applies_iff w_frames).mpr ⟨w_running, w_runnable, w_alone, w_named, w_hears, w_ripe, w_room, w_tables⟩
theorem atStart : AtStart classFile x code maxLocals ret World_1 tables_1 room_1 Calls_1 rest_1 Pre_1 launch0 p0 e0 about1 theMethod args0 below0 :=
  ⟨lists_1, trivial, launch0.admits_env _ _ _, launch0.least_env, fairChoices_fair.cas, fairChoices_fair.clock, w_frames, w_args, w_heap, w_applies, ⟨w_consts, trivial⟩, w_rest, w_case⟩
end start1
theorem witness_1 : WitnessClaimed_1 := ⟨start1.p0, start1.e0, start1.about1, start1.theMethod, start1.args0, start1.below0, start1.atStart⟩
end Jvm.Pilot.@@N@@
