import JvmDerived
import JvmDerived.Pilot.@@N@@Statement
import JvmDerived.Pilot.@@N@@Code
set_option linter.unusedVariables false
set_option linter.unusedSimpArgs false
namespace Jvm.RoadKit
open Sem ClassFile Op Lib Jvm.Stand Jvm.Free Jvm.LawKit
section New
variable {p : Program} {l : Launch} {e : Env} {R : Room} {s : State} {m : MethodId} {args : Array Value} {below : List Frame} {meth : Method} {c : Code} {T : State} {locs : List Loc} {cells slots : Nat}
theorem retI (X : Stand p l e R s m args below meth c T locs cells slots) (hx : p.tables.exec = Jvm.exec) {pc : Nat} {Ls : Array Slot} {z : Int32} {rest : List Value} (hret : meth.sig.returnType = some .int) (hd : decode c.code pc = .ok (.ireturn, 1)) {fs : List Frame}
    (hl : ∀ (f : JFrame) (acts : List Action), f.method = m → f.locked = none → f.entered = [] → (doReturn e (T.setTop f) acts (some (.int z))).1 = T.setFrames fs) : Steps p.tables e below (T.setTop (mkF m pc Ls (.int z :: rest))) (T.setFrames fs) := by
  have hm' : T.vm.method? m = some meth := X.method'
  have hn : narrow .int (.int z) = .int z := rfl
  show Steps p.tables e below (T.setTop { method := m, pc := pc, locals := Ls, stack := _ :: rest, locked := none }) _
  jvm_step X.here [X.here.top, hx, hd, hm', hret, hn]
  first | (intro acts; rw [hl _ acts rfl rfl rfl]) | rw [hl _ _ rfl rfl rfl]
  exact Steps.refl _
end New
end Jvm.RoadKit
namespace Jvm.Pilot.@@N@@
open Jvm Jvm.ClassFile Sem Op Lib Jvm.Free Jvm.Stand Jvm.LawKit Jvm.RoadKit Bundle Jvm.Pilot.@@N@@.Jvm.D
def own_b (p : Int32) : Int32 := if p = (0 : Int32) then (0 : Int32) else (1 : Int32)
def own_cc0 (p : Int32) : Int32 := (2 : Int32) ||| own_b p
def own_setCount (c n : Int32) : Int32 := (n <<< ((1 : Int32) &&& 31)) ||| (c &&& (1 : Int32))
def own_setRed (c p : Int32) : Int32 := (c &&& (-2 : Int32)) ||| own_b p
def own_red (c : Int32) : Int32 := if (c &&& (1 : Int32)) = (0 : Int32) then (0 : Int32) else (1 : Int32)
def own_count (c : Int32) : Int32 := (c.toUInt32 >>> ((1 : Int32) &&& 31).toUInt32).toInt32
theorem own_b0 {p : Int32} (h : p = (0 : Int32)) : own_b p = (0 : Int32) := if_pos h
theorem own_b1 {p : Int32} (h : ¬ p = (0 : Int32)) : own_b p = (1 : Int32) := if_neg h
theorem own_bb (p : Int32) : own_b p = 0 ∨ own_b p = 1 := by by_cases h : p = (0 : Int32); exact Or.inl (own_b0 h); exact Or.inr (own_b1 h)
theorem own_ext (a b : Int32) (h : ∀ i, i < 32 → a.toBitVec.getLsbD i = b.toBitVec.getLsbD i) : a = b :=
  Int32.toBitVec_inj.mp (BitVec.eq_of_getLsbD_eq h)
theorem own_shl1 (x : Int32) : (x <<< ((1 : Int32) &&& 31)).toBitVec = x.toBitVec <<< 1 := by
  rw [Int32.toBitVec_shiftLeft]; rfl
theorem own_ushr1 (x : Int32) : (own_count x).toBitVec = x.toBitVec >>> 1 := by
  show (x.toUInt32 >>> ((1 : Int32) &&& 31).toUInt32).toBitVec = _
  rw [UInt32.toBitVec_shiftRight]; rfl
theorem own_h1 : (1 : Int32).toBitVec = 1#32 := rfl
theorem own_red1 (c : Int32) : (((c &&& (-2 : Int32)) ||| (1 : Int32)) &&& (1 : Int32)) = 1 := by
  apply own_ext; intro i hi
  simp only [Int32.toBitVec_and, Int32.toBitVec_or, own_h1, BitVec.getLsbD_and, BitVec.getLsbD_or, BitVec.getLsbD_one]
  cases decide (0 < 32) <;> cases decide (i = 0) <;> simp
theorem own_red0 (c : Int32) : (((c &&& (-2 : Int32)) ||| (0 : Int32)) &&& (1 : Int32)) = (0 : Int32) := by
  rw [Int32.or_zero, Int32.and_assoc]
  have : ((-2 : Int32) &&& 1) = 0 := by decide
  rw [this, Int32.and_zero]
theorem own_redset (c p : Int32) : own_red (own_setRed c p) = own_b p := by
  unfold own_red own_setRed
  rcases own_bb p with h | h <;> rw [h]
  · rw [own_red0]; rfl
  · rw [own_red1]; decide
theorem own_test1 (i : Nat) : Nat.testBit 1 (1 + i) = false := by rw [Nat.add_comm, Nat.testBit_succ]; simp
theorem own_bbit (p : Int32) (j : Nat) : (own_b p).toBitVec.getLsbD (1 + j) = false := by
  have h0 : (0 : Int32).toBitVec = 0#32 := rfl
  rcases own_bb p with h | h <;> rw [h]
  · rw [h0]; simp
  · rw [own_h1, BitVec.getLsbD_one]; simp
theorem own_cntset (x p : Int32) : own_count (own_setRed x p) = own_count x := by
  apply own_ext; intro i hi
  have h2 : (-2 : Int32).toBitVec = ~~~ 1#32 := rfl
  rw [own_ushr1, own_ushr1]
  unfold own_setRed
  simp only [Int32.toBitVec_and, Int32.toBitVec_or, h2, BitVec.getLsbD_ushiftRight, BitVec.getLsbD_and, BitVec.getLsbD_or, BitVec.getLsbD_not, own_bbit, BitVec.getLsbD_ofNat, own_test1]
  by_cases h : 1 + i < 32
  · simp [h]
  · have : x.toBitVec.getLsbD (1 + i) = false := BitVec.getLsbD_of_ge _ _ (by omega)
    simp [this]
theorem own_cntcnt (c n : Int32) : own_count (own_setCount c (n &&& (2147483647 : Int32))) = (n &&& (2147483647 : Int32)) := by
  apply own_ext; intro i hi
  have hm : (2147483647 : Int32).toBitVec = BitVec.ofNat 32 (2 ^ 31 - 1) := rfl
  rw [own_ushr1]
  unfold own_setCount
  simp only [Int32.toBitVec_and, Int32.toBitVec_or, own_shl1, own_h1, hm, BitVec.getLsbD_ushiftRight, BitVec.getLsbD_and, BitVec.getLsbD_or, BitVec.getLsbD_shiftLeft, BitVec.getLsbD_ofNat, Nat.testBit_two_pow_sub_one, own_test1]
  by_cases h : i < 31
  · have e1 : 1 + i < 32 := by omega
    have e3 : 1 + i - 1 = i := by omega
    simp [e1, e3, h, hi]
  · have e1 : i = 31 := by omega
    subst e1
    simp
theorem d1_0 : decode prog_6_method_1_code 0 = .ok (.aload_n 0, 1) := by decide +kernel
theorem d1_1 : decode prog_6_method_1_code 1 = .ok (.invokespecial 3, 3) := by decide +kernel
theorem d1_4 : decode prog_6_method_1_code 4 = .ok (.aload_n 0, 1) := by decide +kernel
theorem d1_5 : decode prog_6_method_1_code 5 = .ok (.aload_n 1, 1) := by decide +kernel
theorem d1_6 : decode prog_6_method_1_code 6 = .ok (.putfield 9, 3) := by decide +kernel
theorem d1_9 : decode prog_6_method_1_code 9 = .ok (.aload_n 0, 1) := by decide +kernel
theorem d1_10 : decode prog_6_method_1_code 10 = .ok (.aload_n 2, 1) := by decide +kernel
theorem d1_11 : decode prog_6_method_1_code 11 = .ok (.putfield 15, 3) := by decide +kernel
theorem d1_14 : decode prog_6_method_1_code 14 = .ok (.aload_n 0, 1) := by decide +kernel
theorem d1_15 : decode prog_6_method_1_code 15 = .ok (.iconst 2, 1) := by decide +kernel
theorem d1_16 : decode prog_6_method_1_code 16 = .ok (.iload_n 3, 1) := by decide +kernel
theorem d1_17 : decode prog_6_method_1_code 17 = .ok (.ifCond .eq 7, 3) := by decide +kernel
theorem d1_20 : decode prog_6_method_1_code 20 = .ok (.iconst 1, 1) := by decide +kernel
theorem d1_21 : decode prog_6_method_1_code 21 = .ok (.goto 4, 3) := by decide +kernel
theorem d1_24 : decode prog_6_method_1_code 24 = .ok (.iconst 0, 1) := by decide +kernel
theorem d1_25 : decode prog_6_method_1_code 25 = .ok (.ior, 1) := by decide +kernel
theorem d1_26 : decode prog_6_method_1_code 26 = .ok (.putfield 18, 3) := by decide +kernel
theorem d1_29 : decode prog_6_method_1_code 29 = .ok (.return_, 1) := by decide +kernel
theorem pn_1 : plainName "com/example/twotone/twotone/RedBlackTreeMap$Node" = true := by first | (simp [plainName, overriddenIn]; done) | decide +kernel
theorem ef_1 (m : MethodId) (x0 : Addr) (x3 : Int32) : entryFrame m #[(.ref x0), .null, .null, (.int x3)] 4 = mkF m 0 #[.val (.ref x0), .val .null, .val .null, .val (.int x3)] [] := by first | (simp [entryFrame, mkF, argsToLocals, Value.category]; done) | rfl
def Q1 (Z : State) (a1 : Addr) (p4 : Int32) (h0 : Heap) (n0 : Nat) (v : Option Value) (h : Heap) (L : List Loc) : Prop := v = none ∧ Fr n0 L ∧ Keep h0 h [a1] ∧ Exa Z h a1 "com/example/twotone/twotone/RedBlackTreeMap$Node" ∧ Fld Z h a1 "com/example/twotone/twotone/RedBlackTreeMap$Node" "countAndColour" "I" (.int (own_cc0 p4))
set_option maxRecDepth 65536 in
set_option maxHeartbeats 40000000 in
theorem rm1 (l : Launch) (Z : State) (a0 : Array Value) (hw : ∀ d ∈ tables_1, d.before a0 Z = true) (ws : List Jvm.Cond) (a1 : Addr) (p4 : Int32) (h0 : Heap) (n0 : Nat) (Z0 : n0 ≤ h0.size) (F1 : Fld Z h0 a1 "com/example/twotone/twotone/RedBlackTreeMap$Node" "key" "Ljava/lang/Object;" .null) (F2 : Fld Z h0 a1 "com/example/twotone/twotone/RedBlackTreeMap$Node" "value" "Ljava/lang/Object;" .null) (F3 : Fld Z h0 a1 "com/example/twotone/twotone/RedBlackTreeMap$Node" "countAndColour" "I" (.int (0 : Int32))) (E1 : Exa Z h0 a1 "com/example/twotone/twotone/RedBlackTreeMap$Node") (g_a1 : n0 ≤ a1) :
    MetFree l (⟨"com/example/twotone/twotone/RedBlackTreeMap$Node", "<init>", "(Ljava/lang/Object;Ljava/lang/Object;Z)V"⟩ : MethodName) (head1 (Jvm.Cond.code (⟨"com/example/twotone/twotone/RedBlackTreeMap$Node", "<init>", "(Ljava/lang/Object;Ljava/lang/Object;Z)V"⟩ : MethodName) prog_6_method_1_code 4 none :: ws) ({ frames := 1, cells := 0, slots := 0, locals := 12 } : Room)) (fun a U => a = #[(.ref a1), .null, .null, (.int p4)] ∧ Z.Warmed39 U.vm ∧ U.heap = h0) (fun _ _ _ _ _ => True) (fun _ U o U' => ∃ v L, o = .returned v ∧ Q1 Z a1 p4 h0 n0 v U'.heap L ∧ FrameEnd U o U' L ({ frames := 1, cells := 0, slots := 0, locals := 12 } : Room).cells ({ frames := 1, cells := 0, slots := 0, locals := 12 } : Room).slots) := by
  refine MetFree.of_bodySF (plainFor_of_name pn_1) hisR ?_
  intro p e s m args below meth c s₁ Bd hml0 hP hK
  obtain ⟨rfl, hZ, hh⟩ := hP
  have hx := Bd.exec
  have hby := Bd.bytes
  have hml : c.maxLocals = 4 := hml0
  have hown : s.vm.findClass "com/example/twotone/twotone/RedBlackTreeMap$Node" = some m.cls := findClass_of_methodNamed Bd.named
  have hnm := (name_of_methodNamed Bd.named Bd.method).1
  have X0 : Stand p l e ({ frames := 1, cells := 0, slots := 0, locals := 12 } : Room) s m #[(.ref a1), .null, .null, (.int p4)] below meth c s₁ [] 0 0 := Stand.of_body Bd
  have e0 : s₁.heap = h0 := by rw [← hh, Bd.state]; rfl
  have N0 := Fr.nil n0
  have pre0 : ∀ t, Steps p.tables e below (s₁.setTop (mkF m 0 #[.val (.ref a1), .val .null, .val .null, .val (.int p4)] [])) t → Steps p.tables e below (s₁.setTop (entryFrame m #[(.ref a1), .null, .null, (.int p4)] 4)) t := fun t k => castTop (ef_1 m a1 p4) k
  obtain ⟨T1, X1, e1, st1⟩ := initO X0 hx hZ hown (hw _ (List.mem_of_getElem? (i := 7) rfl)) (hw _ (List.mem_of_getElem? (i := 8) rfl)) (hw _ (List.mem_of_getElem? (i := 9) rfl)) e0 (g := (mkF m 1 #[.val (.ref a1), .val .null, .val .null, .val (.int p4)] [(.ref a1)])) rfl (by rw [hml]; rfl) rfl (hb hby d1_1) (by decide) (W := 0) (by show 2 * 0 + _ ≤ _; exact Nat.le_of_eq rfl) (by decide)
  obtain ⟨T2, h2, X2, e2, W2, st2⟩ := putF X1 hx hZ hown (host := "") (Or.inl (hw _ (List.mem_of_getElem? (i := 10) rfl))) Via.refl e1 F1 E1 (Or.inr ⟨(hw _ (List.mem_of_getElem? (i := 11) rfl)), rfl, hnm⟩) (hw _ (List.mem_of_getElem? (i := 2) rfl)) (ty := (.object "java/lang/Object")) (by decide) rfl rfl (g := (mkF m 6 #[.val (.ref a1), .val .null, .val .null, .val (.int p4)] [.null, (.ref a1)])) rfl rfl (hb hby d1_6)
  have N2 := Fr.snoc X2 N0 g_a1
  have K2 : Keep h0 h2 [a1] := (Keep.refl h0 [a1]).wr W2 (Or.inl (by simp))
  have f3 := (F2.other W2 (Or.inr (slot_ne (Or.inl (hw _ (List.mem_of_getElem? (i := 13) rfl))) (Or.inr (hw _ (List.mem_of_getElem? (i := 11) rfl))) (by decide) (t := (.object "java/lang/Object")) (t' := (.object "java/lang/Object")) (by decide) (by decide))))
  have f4 := (F3.other W2 (Or.inr (slot_ne (Or.inl (hw _ (List.mem_of_getElem? (i := 15) rfl))) (Or.inr (hw _ (List.mem_of_getElem? (i := 11) rfl))) (by decide) (t := .int) (t' := (.object "java/lang/Object")) (by decide) (by decide))))
  have z5 : n0 ≤ h2.size := (Nat.le_trans Z0 (Keep.of_wr W2).1)
  obtain ⟨T6, h6, X6, e6, W6, st6⟩ := putF X2 hx hZ hown (host := "") (Or.inl (hw _ (List.mem_of_getElem? (i := 12) rfl))) Via.refl e2 f3 (E1.wr W2) (Or.inl (hw _ (List.mem_of_getElem? (i := 13) rfl))) (hw _ (List.mem_of_getElem? (i := 2) rfl)) (ty := (.object "java/lang/Object")) (by decide) rfl rfl (g := (mkF m 11 #[.val (.ref a1), .val .null, .val .null, .val (.int p4)] [.null, (.ref a1)])) rfl rfl (hb hby d1_11)
  have N6 := Fr.snoc X6 N2 g_a1
  have K6 : Keep h0 h6 [a1] := K2.wr W6 (Or.inl (by simp))
  have f7 := (f4.other W6 (Or.inr (slot_ne (Or.inl (hw _ (List.mem_of_getElem? (i := 15) rfl))) (Or.inl (hw _ (List.mem_of_getElem? (i := 13) rfl))) (by decide) (t := .int) (t' := (.object "java/lang/Object")) (by decide) (by decide))))
  have f8 := ((F1.same W2).other W6 (Or.inr (slot_ne (Or.inr (hw _ (List.mem_of_getElem? (i := 11) rfl))) (Or.inl (hw _ (List.mem_of_getElem? (i := 13) rfl))) (by decide) (t := (.object "java/lang/Object")) (t' := (.object "java/lang/Object")) (by decide) (by decide))))
  have z9 : n0 ≤ h6.size := (Nat.le_trans z5 (Keep.of_wr W6).1)
  have pre10 : ∀ t, Steps p.tables e below (T6.setTop (mkF m 17 #[.val (.ref a1), .val .null, .val .null, .val (.int p4)] [(.int p4), (.int (2 : Int32)), (.ref a1)])) t → Steps p.tables e below (s₁.setTop (entryFrame m #[(.ref a1), .null, .null, (.int p4)] 4)) t := by
    intro t kt
    refine pre0 _ ?_
    show Steps p.tables e below (s₁.setTop (mkF m 0 #[.val (.ref a1), .val .null, .val .null, .val (.int p4)] [])) _
    refine XS.aloadN X0.here hx rfl (hb hby d1_0) rfl rfl ?_
    show Steps p.tables e below (s₁.setTop (mkF m 1 #[.val (.ref a1), .val .null, .val .null, .val (.int p4)] [(.ref a1)])) _
    refine st1 _ ?_
    show Steps p.tables e below (T1.setTop (mkF m 4 #[.val (.ref a1), .val .null, .val .null, .val (.int p4)] [])) _
    refine XS.aloadN X1.here hx rfl (hb hby d1_4) rfl rfl ?_
    show Steps p.tables e below (T1.setTop (mkF m 5 #[.val (.ref a1), .val .null, .val .null, .val (.int p4)] [(.ref a1)])) _
    refine XS.aloadN X1.here hx rfl (hb hby d1_5) rfl rfl ?_
    show Steps p.tables e below (T1.setTop (mkF m 6 #[.val (.ref a1), .val .null, .val .null, .val (.int p4)] [.null, (.ref a1)])) _
    refine st2 _ ?_
    show Steps p.tables e below (T2.setTop (mkF m 9 #[.val (.ref a1), .val .null, .val .null, .val (.int p4)] [])) _
    refine XS.aloadN X2.here hx rfl (hb hby d1_9) rfl rfl ?_
    show Steps p.tables e below (T2.setTop (mkF m 10 #[.val (.ref a1), .val .null, .val .null, .val (.int p4)] [(.ref a1)])) _
    refine XS.aloadN X2.here hx rfl (hb hby d1_10) rfl rfl ?_
    show Steps p.tables e below (T2.setTop (mkF m 11 #[.val (.ref a1), .val .null, .val .null, .val (.int p4)] [.null, (.ref a1)])) _
    refine st6 _ ?_
    show Steps p.tables e below (T6.setTop (mkF m 14 #[.val (.ref a1), .val .null, .val .null, .val (.int p4)] [])) _
    refine XS.aloadN X6.here hx rfl (hb hby d1_14) rfl rfl ?_
    show Steps p.tables e below (T6.setTop (mkF m 15 #[.val (.ref a1), .val .null, .val .null, .val (.int p4)] [(.ref a1)])) _
    refine XS.iconst X6.here hx rfl (hb hby d1_15) ?_
    show Steps p.tables e below (T6.setTop (mkF m 16 #[.val (.ref a1), .val .null, .val .null, .val (.int p4)] [(.int (2 : Int32)), (.ref a1)])) _
    refine XS.iloadN X6.here hx rfl (hb hby d1_16) rfl ?_
    exact kt
  by_cases hc17_11 : p4 = (0 : Int32)
  · obtain ⟨T12, h12, X12, e12, W12, st12⟩ := putF X6 hx hZ hown (host := "") (Or.inl (hw _ (List.mem_of_getElem? (i := 14) rfl))) Via.refl e6 f7 ((E1.wr W2).wr W6) (Or.inl (hw _ (List.mem_of_getElem? (i := 15) rfl))) (hw _ (List.mem_of_getElem? (i := 2) rfl)) (ty := .int) (by decide) rfl rfl (g := (mkF m 26 #[.val (.ref a1), .val .null, .val .null, .val (.int p4)] [(.int ((2 : Int32) ||| (0 : Int32))), (.ref a1)])) rfl rfl (hb hby d1_26)
    have N12 := Fr.snoc X12 N6 g_a1
    have K12 : Keep h0 h12 [a1] := K6.wr W12 (Or.inl (by simp))
    have f13 := (f8.other W12 (Or.inr (slot_ne (Or.inr (hw _ (List.mem_of_getElem? (i := 11) rfl))) (Or.inl (hw _ (List.mem_of_getElem? (i := 15) rfl))) (by decide) (t := (.object "java/lang/Object")) (t' := .int) (by decide) (by decide))))
    have f14 := ((f3.same W6).other W12 (Or.inr (slot_ne (Or.inl (hw _ (List.mem_of_getElem? (i := 13) rfl))) (Or.inl (hw _ (List.mem_of_getElem? (i := 15) rfl))) (by decide) (t := (.object "java/lang/Object")) (t' := .int) (by decide) (by decide))))
    have z15 : n0 ≤ h12.size := (Nat.le_trans z9 (Keep.of_wr W12).1)
    have pre16 : ∀ t, Steps p.tables e below (T12.setTop (mkF m 29 #[.val (.ref a1), .val .null, .val .null, .val (.int p4)] [])) t → Steps p.tables e below (s₁.setTop (entryFrame m #[(.ref a1), .null, .null, (.int p4)] 4)) t := by
      intro t kt
      refine pre10 _ ?_
      show Steps p.tables e below (T6.setTop (mkF m 17 #[.val (.ref a1), .val .null, .val .null, .val (.int p4)] [(.int p4), (.int (2 : Int32)), (.ref a1)])) _
      refine XS.ifYes X6.here hx rfl (pc0 := 17) (pc' := 24) rfl (hb hby d1_17) rfl ((if0 _ _).trans (teq hc17_11).1) (by decide) (by decide) ?_
      show Steps p.tables e below (T6.setTop (mkF m 24 #[.val (.ref a1), .val .null, .val .null, .val (.int p4)] [(.int (2 : Int32)), (.ref a1)])) _
      refine XS.iconst X6.here hx rfl (hb hby d1_24) ?_
      show Steps p.tables e below (T6.setTop (mkF m 25 #[.val (.ref a1), .val .null, .val .null, .val (.int p4)] [(.int (0 : Int32)), (.int (2 : Int32)), (.ref a1)])) _
      refine XS.ior X6.here hx rfl (hb hby d1_25) rfl ?_
      show Steps p.tables e below (T6.setTop (mkF m 26 #[.val (.ref a1), .val .null, .val .null, .val (.int p4)] [(.int ((2 : Int32) ||| (0 : Int32))), (.ref a1)])) _
      refine st12 _ ?_
      exact kt
    obtain ⟨fs, hr, hrun, hended, hW, hsame⟩ := X12.leave (v := none) (fun _ => rfl)
    refine ⟨_, _, pre16 _ ?_, hrun, hended, _, _, rfl, ?_, ⟨_, rfl⟩, hW, hsame.mono (by decide) (by decide)⟩
    · show Steps p.tables e below (T12.setTop (mkF m 29 #[.val (.ref a1), .val .null, .val .null, .val (.int p4)] [])) _
      exact X12.returnOut hx Bd.returns (hb hby d1_29) hr
    · show Q1 Z a1 p4 h0 n0 _ T12.heap _
      rw [e12]
      exact ⟨rfl, N12, K12, (((E1.wr W2).wr W6).wr W12), (by rw [own_cc0]; rw [own_b0 hc17_11]; exact (f7.same W12))⟩
  · obtain ⟨T17, h17, X17, e17, W17, st17⟩ := putF X6 hx hZ hown (host := "") (Or.inl (hw _ (List.mem_of_getElem? (i := 14) rfl))) Via.refl e6 f7 ((E1.wr W2).wr W6) (Or.inl (hw _ (List.mem_of_getElem? (i := 15) rfl))) (hw _ (List.mem_of_getElem? (i := 2) rfl)) (ty := .int) (by decide) rfl rfl (g := (mkF m 26 #[.val (.ref a1), .val .null, .val .null, .val (.int p4)] [(.int ((2 : Int32) ||| (1 : Int32))), (.ref a1)])) rfl rfl (hb hby d1_26)
    have N17 := Fr.snoc X17 N6 g_a1
    have K17 : Keep h0 h17 [a1] := K6.wr W17 (Or.inl (by simp))
    have f18 := (f8.other W17 (Or.inr (slot_ne (Or.inr (hw _ (List.mem_of_getElem? (i := 11) rfl))) (Or.inl (hw _ (List.mem_of_getElem? (i := 15) rfl))) (by decide) (t := (.object "java/lang/Object")) (t' := .int) (by decide) (by decide))))
    have f19 := ((f3.same W6).other W17 (Or.inr (slot_ne (Or.inl (hw _ (List.mem_of_getElem? (i := 13) rfl))) (Or.inl (hw _ (List.mem_of_getElem? (i := 15) rfl))) (by decide) (t := (.object "java/lang/Object")) (t' := .int) (by decide) (by decide))))
    have z20 : n0 ≤ h17.size := (Nat.le_trans z9 (Keep.of_wr W17).1)
    have pre21 : ∀ t, Steps p.tables e below (T17.setTop (mkF m 29 #[.val (.ref a1), .val .null, .val .null, .val (.int p4)] [])) t → Steps p.tables e below (s₁.setTop (entryFrame m #[(.ref a1), .null, .null, (.int p4)] 4)) t := by
      intro t kt
      refine pre10 _ ?_
      show Steps p.tables e below (T6.setTop (mkF m 17 #[.val (.ref a1), .val .null, .val .null, .val (.int p4)] [(.int p4), (.int (2 : Int32)), (.ref a1)])) _
      refine XS.ifNo X6.here hx rfl (hb hby d1_17) rfl ((if0 _ _).trans (feq hc17_11).1) ?_
      show Steps p.tables e below (T6.setTop (mkF m 20 #[.val (.ref a1), .val .null, .val .null, .val (.int p4)] [(.int (2 : Int32)), (.ref a1)])) _
      refine XS.iconst X6.here hx rfl (hb hby d1_20) ?_
      show Steps p.tables e below (T6.setTop (mkF m 21 #[.val (.ref a1), .val .null, .val .null, .val (.int p4)] [(.int (1 : Int32)), (.int (2 : Int32)), (.ref a1)])) _
      refine XS.goto X6.here hx rfl (pc0 := 21) (pc' := 25) rfl (hb hby d1_21) (by decide) (by decide) ?_
      show Steps p.tables e below (T6.setTop (mkF m 25 #[.val (.ref a1), .val .null, .val .null, .val (.int p4)] [(.int (1 : Int32)), (.int (2 : Int32)), (.ref a1)])) _
      refine XS.ior X6.here hx rfl (hb hby d1_25) rfl ?_
      show Steps p.tables e below (T6.setTop (mkF m 26 #[.val (.ref a1), .val .null, .val .null, .val (.int p4)] [(.int ((2 : Int32) ||| (1 : Int32))), (.ref a1)])) _
      refine st17 _ ?_
      exact kt
    obtain ⟨fs, hr, hrun, hended, hW, hsame⟩ := X17.leave (v := none) (fun _ => rfl)
    refine ⟨_, _, pre21 _ ?_, hrun, hended, _, _, rfl, ?_, ⟨_, rfl⟩, hW, hsame.mono (by decide) (by decide)⟩
    · show Steps p.tables e below (T17.setTop (mkF m 29 #[.val (.ref a1), .val .null, .val .null, .val (.int p4)] [])) _
      exact X17.returnOut hx Bd.returns (hb hby d1_29) hr
    · show Q1 Z a1 p4 h0 n0 _ T17.heap _
      rw [e17]
      exact ⟨rfl, N17, K17, (((E1.wr W2).wr W6).wr W17), (by rw [own_cc0]; rw [own_b1 hc17_11]; exact (f7.same W17))⟩
theorem d3_0 : decode prog_6_method_5_code 0 = .ok (.aload_n 0, 1) := by decide +kernel
theorem d3_1 : decode prog_6_method_5_code 1 = .ok (.iload_n 1, 1) := by decide +kernel
theorem d3_2 : decode prog_6_method_5_code 2 = .ok (.iconst 1, 1) := by decide +kernel
theorem d3_3 : decode prog_6_method_5_code 3 = .ok (.ishl, 1) := by decide +kernel
theorem d3_4 : decode prog_6_method_5_code 4 = .ok (.aload_n 0, 1) := by decide +kernel
theorem d3_5 : decode prog_6_method_5_code 5 = .ok (.getfield 18, 3) := by decide +kernel
theorem d3_8 : decode prog_6_method_5_code 8 = .ok (.iconst 1, 1) := by decide +kernel
theorem d3_9 : decode prog_6_method_5_code 9 = .ok (.iand, 1) := by decide +kernel
theorem d3_10 : decode prog_6_method_5_code 10 = .ok (.ior, 1) := by decide +kernel
theorem d3_11 : decode prog_6_method_5_code 11 = .ok (.putfield 18, 3) := by decide +kernel
theorem d3_14 : decode prog_6_method_5_code 14 = .ok (.return_, 1) := by decide +kernel
theorem pn_3 : plainName "com/example/twotone/twotone/RedBlackTreeMap$Node" = true := by first | (simp [plainName, overriddenIn]; done) | decide +kernel
theorem ef_3 (m : MethodId) (x0 : Addr) (x1 : Int32) : entryFrame m #[(.ref x0), (.int x1)] 2 = mkF m 0 #[.val (.ref x0), .val (.int x1)] [] := by first | (simp [entryFrame, mkF, argsToLocals, Value.category]; done) | rfl
def Q3 (Z : State) (a1 : Addr) (p2 : Int32) (cc : Int32) (h0 : Heap) (n0 : Nat) (v : Option Value) (h : Heap) (L : List Loc) : Prop := v = none ∧ Fr n0 L ∧ Keep h0 h [a1] ∧ Exa Z h a1 "com/example/twotone/twotone/RedBlackTreeMap$Node" ∧ Fld Z h a1 "com/example/twotone/twotone/RedBlackTreeMap$Node" "countAndColour" "I" (.int (own_setCount cc p2))
set_option maxRecDepth 65536 in
set_option maxHeartbeats 40000000 in
theorem rm3 (l : Launch) (Z : State) (a0 : Array Value) (hw : ∀ d ∈ tables_1, d.before a0 Z = true) (ws : List Jvm.Cond) (a1 : Addr) (p2 : Int32) (cc : Int32) (h0 : Heap) (n0 : Nat) (Z0 : n0 ≤ h0.size) (F1 : Fld Z h0 a1 "com/example/twotone/twotone/RedBlackTreeMap$Node" "countAndColour" "I" (.int cc)) (E1 : Exa Z h0 a1 "com/example/twotone/twotone/RedBlackTreeMap$Node") (g_a1 : n0 ≤ a1) :
    MetFree l (⟨"com/example/twotone/twotone/RedBlackTreeMap$Node", "setCount", "(I)V"⟩ : MethodName) (head1 (Jvm.Cond.code (⟨"com/example/twotone/twotone/RedBlackTreeMap$Node", "setCount", "(I)V"⟩ : MethodName) prog_6_method_5_code 2 none :: ws) ({ frames := 0, cells := 0, slots := 0, locals := 0 } : Room)) (fun a U => a = #[(.ref a1), (.int p2)] ∧ Z.Warmed39 U.vm ∧ U.heap = h0) (fun _ _ _ _ _ => True) (fun _ U o U' => ∃ v L, o = .returned v ∧ Q3 Z a1 p2 cc h0 n0 v U'.heap L ∧ FrameEnd U o U' L ({ frames := 0, cells := 0, slots := 0, locals := 0 } : Room).cells ({ frames := 0, cells := 0, slots := 0, locals := 0 } : Room).slots) := by
  refine MetFree.of_bodySF (plainFor_of_name pn_3) hisR ?_
  intro p e s m args below meth c s₁ Bd hml0 hP hK
  obtain ⟨rfl, hZ, hh⟩ := hP
  have hx := Bd.exec
  have hby := Bd.bytes
  have hml : c.maxLocals = 2 := hml0
  have hown : s.vm.findClass "com/example/twotone/twotone/RedBlackTreeMap$Node" = some m.cls := findClass_of_methodNamed Bd.named
  have hnm := (name_of_methodNamed Bd.named Bd.method).1
  have X0 : Stand p l e ({ frames := 0, cells := 0, slots := 0, locals := 0 } : Room) s m #[(.ref a1), (.int p2)] below meth c s₁ [] 0 0 := Stand.of_body Bd
  have e0 : s₁.heap = h0 := by rw [← hh, Bd.state]; rfl
  have N0 := Fr.nil n0
  have pre0 : ∀ t, Steps p.tables e below (s₁.setTop (mkF m 0 #[.val (.ref a1), .val (.int p2)] [])) t → Steps p.tables e below (s₁.setTop (entryFrame m #[(.ref a1), (.int p2)] 2)) t := fun t k => castTop (ef_3 m a1 p2) k
  obtain ⟨T22, X22, e22, st22⟩ := getF X0 hx hZ hown (host := "") (Or.inl (hw _ (List.mem_of_getElem? (i := 14) rfl))) Via.refl e0 F1 (g := (mkF m 5 #[.val (.ref a1), .val (.int p2)] [(.ref a1), (.int (p2 <<< ((1 : Int32) &&& 31))), (.ref a1)])) rfl rfl (hb hby d3_5)
  obtain ⟨T23, h23, X23, e23, W23, st23⟩ := putF X22 hx hZ hown (host := "") (Or.inl (hw _ (List.mem_of_getElem? (i := 14) rfl))) Via.refl e22 F1 E1 (Or.inl (hw _ (List.mem_of_getElem? (i := 15) rfl))) (hw _ (List.mem_of_getElem? (i := 2) rfl)) (ty := .int) (by decide) rfl rfl (g := (mkF m 11 #[.val (.ref a1), .val (.int p2)] [(.int ((p2 <<< ((1 : Int32) &&& 31)) ||| (cc &&& (1 : Int32)))), (.ref a1)])) rfl rfl (hb hby d3_11)
  have N23 := Fr.snoc X23 N0 g_a1
  have K23 : Keep h0 h23 [a1] := (Keep.refl h0 [a1]).wr W23 (Or.inl (by simp))
  have z24 : n0 ≤ h23.size := (Nat.le_trans Z0 (Keep.of_wr W23).1)
  have pre25 : ∀ t, Steps p.tables e below (T23.setTop (mkF m 14 #[.val (.ref a1), .val (.int p2)] [])) t → Steps p.tables e below (s₁.setTop (entryFrame m #[(.ref a1), (.int p2)] 2)) t := by
    intro t kt
    refine pre0 _ ?_
    show Steps p.tables e below (s₁.setTop (mkF m 0 #[.val (.ref a1), .val (.int p2)] [])) _
    refine XS.aloadN X0.here hx rfl (hb hby d3_0) rfl rfl ?_
    show Steps p.tables e below (s₁.setTop (mkF m 1 #[.val (.ref a1), .val (.int p2)] [(.ref a1)])) _
    refine XS.iloadN X0.here hx rfl (hb hby d3_1) rfl ?_
    show Steps p.tables e below (s₁.setTop (mkF m 2 #[.val (.ref a1), .val (.int p2)] [(.int p2), (.ref a1)])) _
    refine XS.iconst X0.here hx rfl (hb hby d3_2) ?_
    show Steps p.tables e below (s₁.setTop (mkF m 3 #[.val (.ref a1), .val (.int p2)] [(.int (1 : Int32)), (.int p2), (.ref a1)])) _
    refine XS.ishl X0.here hx rfl (hb hby d3_3) rfl ?_
    show Steps p.tables e below (s₁.setTop (mkF m 4 #[.val (.ref a1), .val (.int p2)] [(.int (p2 <<< ((1 : Int32) &&& 31))), (.ref a1)])) _
    refine XS.aloadN X0.here hx rfl (hb hby d3_4) rfl rfl ?_
    show Steps p.tables e below (s₁.setTop (mkF m 5 #[.val (.ref a1), .val (.int p2)] [(.ref a1), (.int (p2 <<< ((1 : Int32) &&& 31))), (.ref a1)])) _
    refine st22 _ ?_
    show Steps p.tables e below (T22.setTop (mkF m 8 #[.val (.ref a1), .val (.int p2)] [(.int cc), (.int (p2 <<< ((1 : Int32) &&& 31))), (.ref a1)])) _
    refine XS.iconst X22.here hx rfl (hb hby d3_8) ?_
    show Steps p.tables e below (T22.setTop (mkF m 9 #[.val (.ref a1), .val (.int p2)] [(.int (1 : Int32)), (.int cc), (.int (p2 <<< ((1 : Int32) &&& 31))), (.ref a1)])) _
    refine XS.iand X22.here hx rfl (hb hby d3_9) rfl ?_
    show Steps p.tables e below (T22.setTop (mkF m 10 #[.val (.ref a1), .val (.int p2)] [(.int (cc &&& (1 : Int32))), (.int (p2 <<< ((1 : Int32) &&& 31))), (.ref a1)])) _
    refine XS.ior X22.here hx rfl (hb hby d3_10) rfl ?_
    show Steps p.tables e below (T22.setTop (mkF m 11 #[.val (.ref a1), .val (.int p2)] [(.int ((p2 <<< ((1 : Int32) &&& 31)) ||| (cc &&& (1 : Int32)))), (.ref a1)])) _
    refine st23 _ ?_
    exact kt
  obtain ⟨fs, hr, hrun, hended, hW, hsame⟩ := X23.leave (v := none) (fun _ => rfl)
  refine ⟨_, _, pre25 _ ?_, hrun, hended, _, _, rfl, ?_, ⟨_, rfl⟩, hW, hsame.mono (by decide) (by decide)⟩
  · show Steps p.tables e below (T23.setTop (mkF m 14 #[.val (.ref a1), .val (.int p2)] [])) _
    exact X23.returnOut hx Bd.returns (hb hby d3_14) hr
  · show Q3 Z a1 p2 cc h0 n0 _ T23.heap _
    rw [e23]
    exact ⟨rfl, N23, K23, (E1.wr W23), (by rw [own_setCount]; exact (F1.same W23))⟩
theorem d4_0 : decode prog_6_method_3_code 0 = .ok (.aload_n 0, 1) := by decide +kernel
theorem d4_1 : decode prog_6_method_3_code 1 = .ok (.aload_n 0, 1) := by decide +kernel
theorem d4_2 : decode prog_6_method_3_code 2 = .ok (.getfield 18, 3) := by decide +kernel
theorem d4_5 : decode prog_6_method_3_code 5 = .ok (.bipush (-2), 2) := by decide +kernel
theorem d4_7 : decode prog_6_method_3_code 7 = .ok (.iand, 1) := by decide +kernel
theorem d4_8 : decode prog_6_method_3_code 8 = .ok (.iload_n 1, 1) := by decide +kernel
theorem d4_9 : decode prog_6_method_3_code 9 = .ok (.ifCond .eq 7, 3) := by decide +kernel
theorem d4_12 : decode prog_6_method_3_code 12 = .ok (.iconst 1, 1) := by decide +kernel
theorem d4_13 : decode prog_6_method_3_code 13 = .ok (.goto 4, 3) := by decide +kernel
theorem d4_16 : decode prog_6_method_3_code 16 = .ok (.iconst 0, 1) := by decide +kernel
theorem d4_17 : decode prog_6_method_3_code 17 = .ok (.ior, 1) := by decide +kernel
theorem d4_18 : decode prog_6_method_3_code 18 = .ok (.putfield 18, 3) := by decide +kernel
theorem d4_21 : decode prog_6_method_3_code 21 = .ok (.return_, 1) := by decide +kernel
theorem pn_4 : plainName "com/example/twotone/twotone/RedBlackTreeMap$Node" = true := by first | (simp [plainName, overriddenIn]; done) | decide +kernel
theorem ef_4 (m : MethodId) (x0 : Addr) (x1 : Int32) : entryFrame m #[(.ref x0), (.int x1)] 2 = mkF m 0 #[.val (.ref x0), .val (.int x1)] [] := by first | (simp [entryFrame, mkF, argsToLocals, Value.category]; done) | rfl
def Q4 (Z : State) (a1 : Addr) (p2 : Int32) (cc : Int32) (h0 : Heap) (n0 : Nat) (v : Option Value) (h : Heap) (L : List Loc) : Prop := v = none ∧ Fr n0 L ∧ Keep h0 h [a1] ∧ Exa Z h a1 "com/example/twotone/twotone/RedBlackTreeMap$Node" ∧ Fld Z h a1 "com/example/twotone/twotone/RedBlackTreeMap$Node" "countAndColour" "I" (.int (own_setRed cc p2))
set_option maxRecDepth 65536 in
set_option maxHeartbeats 40000000 in
theorem rm4 (l : Launch) (Z : State) (a0 : Array Value) (hw : ∀ d ∈ tables_1, d.before a0 Z = true) (ws : List Jvm.Cond) (a1 : Addr) (p2 : Int32) (cc : Int32) (h0 : Heap) (n0 : Nat) (Z0 : n0 ≤ h0.size) (F1 : Fld Z h0 a1 "com/example/twotone/twotone/RedBlackTreeMap$Node" "countAndColour" "I" (.int cc)) (E1 : Exa Z h0 a1 "com/example/twotone/twotone/RedBlackTreeMap$Node") (g_a1 : n0 ≤ a1) :
    MetFree l (⟨"com/example/twotone/twotone/RedBlackTreeMap$Node", "setRed", "(Z)V"⟩ : MethodName) (head1 (Jvm.Cond.code (⟨"com/example/twotone/twotone/RedBlackTreeMap$Node", "setRed", "(Z)V"⟩ : MethodName) prog_6_method_3_code 2 none :: ws) ({ frames := 0, cells := 0, slots := 0, locals := 0 } : Room)) (fun a U => a = #[(.ref a1), (.int p2)] ∧ Z.Warmed39 U.vm ∧ U.heap = h0) (fun _ _ _ _ _ => True) (fun _ U o U' => ∃ v L, o = .returned v ∧ Q4 Z a1 p2 cc h0 n0 v U'.heap L ∧ FrameEnd U o U' L ({ frames := 0, cells := 0, slots := 0, locals := 0 } : Room).cells ({ frames := 0, cells := 0, slots := 0, locals := 0 } : Room).slots) := by
  refine MetFree.of_bodySF (plainFor_of_name pn_4) hisR ?_
  intro p e s m args below meth c s₁ Bd hml0 hP hK
  obtain ⟨rfl, hZ, hh⟩ := hP
  have hx := Bd.exec
  have hby := Bd.bytes
  have hml : c.maxLocals = 2 := hml0
  have hown : s.vm.findClass "com/example/twotone/twotone/RedBlackTreeMap$Node" = some m.cls := findClass_of_methodNamed Bd.named
  have hnm := (name_of_methodNamed Bd.named Bd.method).1
  have X0 : Stand p l e ({ frames := 0, cells := 0, slots := 0, locals := 0 } : Room) s m #[(.ref a1), (.int p2)] below meth c s₁ [] 0 0 := Stand.of_body Bd
  have e0 : s₁.heap = h0 := by rw [← hh, Bd.state]; rfl
  have N0 := Fr.nil n0
  have pre0 : ∀ t, Steps p.tables e below (s₁.setTop (mkF m 0 #[.val (.ref a1), .val (.int p2)] [])) t → Steps p.tables e below (s₁.setTop (entryFrame m #[(.ref a1), (.int p2)] 2)) t := fun t k => castTop (ef_4 m a1 p2) k
  obtain ⟨T26, X26, e26, st26⟩ := getF X0 hx hZ hown (host := "") (Or.inl (hw _ (List.mem_of_getElem? (i := 14) rfl))) Via.refl e0 F1 (g := (mkF m 2 #[.val (.ref a1), .val (.int p2)] [(.ref a1), (.ref a1)])) rfl rfl (hb hby d4_2)
  have pre27 : ∀ t, Steps p.tables e below (T26.setTop (mkF m 9 #[.val (.ref a1), .val (.int p2)] [(.int p2), (.int (cc &&& (-2 : Int32))), (.ref a1)])) t → Steps p.tables e below (s₁.setTop (entryFrame m #[(.ref a1), (.int p2)] 2)) t := by
    intro t kt
    refine pre0 _ ?_
    show Steps p.tables e below (s₁.setTop (mkF m 0 #[.val (.ref a1), .val (.int p2)] [])) _
    refine XS.aloadN X0.here hx rfl (hb hby d4_0) rfl rfl ?_
    show Steps p.tables e below (s₁.setTop (mkF m 1 #[.val (.ref a1), .val (.int p2)] [(.ref a1)])) _
    refine XS.aloadN X0.here hx rfl (hb hby d4_1) rfl rfl ?_
    show Steps p.tables e below (s₁.setTop (mkF m 2 #[.val (.ref a1), .val (.int p2)] [(.ref a1), (.ref a1)])) _
    refine st26 _ ?_
    show Steps p.tables e below (T26.setTop (mkF m 5 #[.val (.ref a1), .val (.int p2)] [(.int cc), (.ref a1)])) _
    refine XS.bipush X26.here hx rfl (hb hby d4_5) ?_
    show Steps p.tables e below (T26.setTop (mkF m 7 #[.val (.ref a1), .val (.int p2)] [(.int (-2 : Int32)), (.int cc), (.ref a1)])) _
    refine XS.iand X26.here hx rfl (hb hby d4_7) rfl ?_
    show Steps p.tables e below (T26.setTop (mkF m 8 #[.val (.ref a1), .val (.int p2)] [(.int (cc &&& (-2 : Int32))), (.ref a1)])) _
    refine XS.iloadN X26.here hx rfl (hb hby d4_8) rfl ?_
    exact kt
  by_cases hc9_28 : p2 = (0 : Int32)
  · obtain ⟨T29, h29, X29, e29, W29, st29⟩ := putF X26 hx hZ hown (host := "") (Or.inl (hw _ (List.mem_of_getElem? (i := 14) rfl))) Via.refl e26 F1 E1 (Or.inl (hw _ (List.mem_of_getElem? (i := 15) rfl))) (hw _ (List.mem_of_getElem? (i := 2) rfl)) (ty := .int) (by decide) rfl rfl (g := (mkF m 18 #[.val (.ref a1), .val (.int p2)] [(.int ((cc &&& (-2 : Int32)) ||| (0 : Int32))), (.ref a1)])) rfl rfl (hb hby d4_18)
    have N29 := Fr.snoc X29 N0 g_a1
    have K29 : Keep h0 h29 [a1] := (Keep.refl h0 [a1]).wr W29 (Or.inl (by simp))
    have z30 : n0 ≤ h29.size := (Nat.le_trans Z0 (Keep.of_wr W29).1)
    have pre31 : ∀ t, Steps p.tables e below (T29.setTop (mkF m 21 #[.val (.ref a1), .val (.int p2)] [])) t → Steps p.tables e below (s₁.setTop (entryFrame m #[(.ref a1), (.int p2)] 2)) t := by
      intro t kt
      refine pre27 _ ?_
      show Steps p.tables e below (T26.setTop (mkF m 9 #[.val (.ref a1), .val (.int p2)] [(.int p2), (.int (cc &&& (-2 : Int32))), (.ref a1)])) _
      refine XS.ifYes X26.here hx rfl (pc0 := 9) (pc' := 16) rfl (hb hby d4_9) rfl ((if0 _ _).trans (teq hc9_28).1) (by decide) (by decide) ?_
      show Steps p.tables e below (T26.setTop (mkF m 16 #[.val (.ref a1), .val (.int p2)] [(.int (cc &&& (-2 : Int32))), (.ref a1)])) _
      refine XS.iconst X26.here hx rfl (hb hby d4_16) ?_
      show Steps p.tables e below (T26.setTop (mkF m 17 #[.val (.ref a1), .val (.int p2)] [(.int (0 : Int32)), (.int (cc &&& (-2 : Int32))), (.ref a1)])) _
      refine XS.ior X26.here hx rfl (hb hby d4_17) rfl ?_
      show Steps p.tables e below (T26.setTop (mkF m 18 #[.val (.ref a1), .val (.int p2)] [(.int ((cc &&& (-2 : Int32)) ||| (0 : Int32))), (.ref a1)])) _
      refine st29 _ ?_
      exact kt
    obtain ⟨fs, hr, hrun, hended, hW, hsame⟩ := X29.leave (v := none) (fun _ => rfl)
    refine ⟨_, _, pre31 _ ?_, hrun, hended, _, _, rfl, ?_, ⟨_, rfl⟩, hW, hsame.mono (by decide) (by decide)⟩
    · show Steps p.tables e below (T29.setTop (mkF m 21 #[.val (.ref a1), .val (.int p2)] [])) _
      exact X29.returnOut hx Bd.returns (hb hby d4_21) hr
    · show Q4 Z a1 p2 cc h0 n0 _ T29.heap _
      rw [e29]
      exact ⟨rfl, N29, K29, (E1.wr W29), (by rw [own_setRed]; rw [own_b0 hc9_28]; exact (F1.same W29))⟩
  · obtain ⟨T32, h32, X32, e32, W32, st32⟩ := putF X26 hx hZ hown (host := "") (Or.inl (hw _ (List.mem_of_getElem? (i := 14) rfl))) Via.refl e26 F1 E1 (Or.inl (hw _ (List.mem_of_getElem? (i := 15) rfl))) (hw _ (List.mem_of_getElem? (i := 2) rfl)) (ty := .int) (by decide) rfl rfl (g := (mkF m 18 #[.val (.ref a1), .val (.int p2)] [(.int ((cc &&& (-2 : Int32)) ||| (1 : Int32))), (.ref a1)])) rfl rfl (hb hby d4_18)
    have N32 := Fr.snoc X32 N0 g_a1
    have K32 : Keep h0 h32 [a1] := (Keep.refl h0 [a1]).wr W32 (Or.inl (by simp))
    have z33 : n0 ≤ h32.size := (Nat.le_trans Z0 (Keep.of_wr W32).1)
    have pre34 : ∀ t, Steps p.tables e below (T32.setTop (mkF m 21 #[.val (.ref a1), .val (.int p2)] [])) t → Steps p.tables e below (s₁.setTop (entryFrame m #[(.ref a1), (.int p2)] 2)) t := by
      intro t kt
      refine pre27 _ ?_
      show Steps p.tables e below (T26.setTop (mkF m 9 #[.val (.ref a1), .val (.int p2)] [(.int p2), (.int (cc &&& (-2 : Int32))), (.ref a1)])) _
      refine XS.ifNo X26.here hx rfl (hb hby d4_9) rfl ((if0 _ _).trans (feq hc9_28).1) ?_
      show Steps p.tables e below (T26.setTop (mkF m 12 #[.val (.ref a1), .val (.int p2)] [(.int (cc &&& (-2 : Int32))), (.ref a1)])) _
      refine XS.iconst X26.here hx rfl (hb hby d4_12) ?_
      show Steps p.tables e below (T26.setTop (mkF m 13 #[.val (.ref a1), .val (.int p2)] [(.int (1 : Int32)), (.int (cc &&& (-2 : Int32))), (.ref a1)])) _
      refine XS.goto X26.here hx rfl (pc0 := 13) (pc' := 17) rfl (hb hby d4_13) (by decide) (by decide) ?_
      show Steps p.tables e below (T26.setTop (mkF m 17 #[.val (.ref a1), .val (.int p2)] [(.int (1 : Int32)), (.int (cc &&& (-2 : Int32))), (.ref a1)])) _
      refine XS.ior X26.here hx rfl (hb hby d4_17) rfl ?_
      show Steps p.tables e below (T26.setTop (mkF m 18 #[.val (.ref a1), .val (.int p2)] [(.int ((cc &&& (-2 : Int32)) ||| (1 : Int32))), (.ref a1)])) _
      refine st32 _ ?_
      exact kt
    obtain ⟨fs, hr, hrun, hended, hW, hsame⟩ := X32.leave (v := none) (fun _ => rfl)
    refine ⟨_, _, pre34 _ ?_, hrun, hended, _, _, rfl, ?_, ⟨_, rfl⟩, hW, hsame.mono (by decide) (by decide)⟩
    · show Steps p.tables e below (T32.setTop (mkF m 21 #[.val (.ref a1), .val (.int p2)] [])) _
      exact X32.returnOut hx Bd.returns (hb hby d4_21) hr
    · show Q4 Z a1 p2 cc h0 n0 _ T32.heap _
      rw [e32]
      exact ⟨rfl, N32, K32, (E1.wr W32), (by rw [own_setRed]; rw [own_b1 hc9_28]; exact (F1.same W32))⟩
theorem d5_0 : decode prog_6_method_2_code 0 = .ok (.aload_n 0, 1) := by decide +kernel
theorem d5_1 : decode prog_6_method_2_code 1 = .ok (.getfield 18, 3) := by decide +kernel
theorem d5_4 : decode prog_6_method_2_code 4 = .ok (.iconst 1, 1) := by decide +kernel
theorem d5_5 : decode prog_6_method_2_code 5 = .ok (.iand, 1) := by decide +kernel
theorem d5_6 : decode prog_6_method_2_code 6 = .ok (.ifCond .eq 7, 3) := by decide +kernel
theorem d5_9 : decode prog_6_method_2_code 9 = .ok (.iconst 1, 1) := by decide +kernel
theorem d5_10 : decode prog_6_method_2_code 10 = .ok (.goto 4, 3) := by decide +kernel
theorem d5_13 : decode prog_6_method_2_code 13 = .ok (.iconst 0, 1) := by decide +kernel
theorem d5_14 : decode prog_6_method_2_code 14 = .ok (.ireturn, 1) := by decide +kernel
theorem pn_5 : plainName "com/example/twotone/twotone/RedBlackTreeMap$Node" = true := by first | (simp [plainName, overriddenIn]; done) | decide +kernel
theorem ef_5 (m : MethodId) (x0 : Addr) : entryFrame m #[(.ref x0)] 1 = mkF m 0 #[.val (.ref x0)] [] := by first | (simp [entryFrame, mkF, argsToLocals, Value.category]; done) | rfl
def Q5 (Z : State) (a1 : Addr) (cc : Int32) (h0 : Heap) (n0 : Nat) (v : Option Value) (h : Heap) (L : List Loc) : Prop := v = some (.int (own_red cc)) ∧ Fr n0 L ∧ h = h0
set_option maxRecDepth 65536 in
set_option maxHeartbeats 40000000 in
theorem rm5 (l : Launch) (Z : State) (a0 : Array Value) (hw : ∀ d ∈ tables_1, d.before a0 Z = true) (ws : List Jvm.Cond) (a1 : Addr) (cc : Int32) (h0 : Heap) (n0 : Nat) (Z0 : n0 ≤ h0.size) (F1 : Fld Z h0 a1 "com/example/twotone/twotone/RedBlackTreeMap$Node" "countAndColour" "I" (.int cc)) :
    MetFree l (⟨"com/example/twotone/twotone/RedBlackTreeMap$Node", "red", "()Z"⟩ : MethodName) (head1 (Jvm.Cond.code (⟨"com/example/twotone/twotone/RedBlackTreeMap$Node", "red", "()Z"⟩ : MethodName) prog_6_method_2_code 1 (some .boolean) :: ws) ({ frames := 0, cells := 0, slots := 0, locals := 0 } : Room)) (fun a U => a = #[(.ref a1)] ∧ Z.Warmed39 U.vm ∧ U.heap = h0) (fun _ _ _ _ _ => True) (fun _ U o U' => ∃ v L, o = .returned v ∧ Q5 Z a1 cc h0 n0 v U'.heap L ∧ FrameEnd U o U' L ({ frames := 0, cells := 0, slots := 0, locals := 0 } : Room).cells ({ frames := 0, cells := 0, slots := 0, locals := 0 } : Room).slots) := by
  refine MetFree.of_bodySF (plainFor_of_name pn_5) hisR ?_
  intro p e s m args below meth c s₁ Bd hml0 hP hK
  obtain ⟨rfl, hZ, hh⟩ := hP
  have hx := Bd.exec
  have hby := Bd.bytes
  have hml : c.maxLocals = 1 := hml0
  have hown : s.vm.findClass "com/example/twotone/twotone/RedBlackTreeMap$Node" = some m.cls := findClass_of_methodNamed Bd.named
  have hnm := (name_of_methodNamed Bd.named Bd.method).1
  have X0 : Stand p l e ({ frames := 0, cells := 0, slots := 0, locals := 0 } : Room) s m #[(.ref a1)] below meth c s₁ [] 0 0 := Stand.of_body Bd
  have e0 : s₁.heap = h0 := by rw [← hh, Bd.state]; rfl
  have N0 := Fr.nil n0
  have pre0 : ∀ t, Steps p.tables e below (s₁.setTop (mkF m 0 #[.val (.ref a1)] [])) t → Steps p.tables e below (s₁.setTop (entryFrame m #[(.ref a1)] 1)) t := fun t k => castTop (ef_5 m a1) k
  obtain ⟨T35, X35, e35, st35⟩ := getF X0 hx hZ hown (host := "") (Or.inl (hw _ (List.mem_of_getElem? (i := 14) rfl))) Via.refl e0 F1 (g := (mkF m 1 #[.val (.ref a1)] [(.ref a1)])) rfl rfl (hb hby d5_1)
  have pre36 : ∀ t, Steps p.tables e below (T35.setTop (mkF m 6 #[.val (.ref a1)] [(.int (cc &&& (1 : Int32)))])) t → Steps p.tables e below (s₁.setTop (entryFrame m #[(.ref a1)] 1)) t := by
    intro t kt
    refine pre0 _ ?_
    show Steps p.tables e below (s₁.setTop (mkF m 0 #[.val (.ref a1)] [])) _
    refine XS.aloadN X0.here hx rfl (hb hby d5_0) rfl rfl ?_
    show Steps p.tables e below (s₁.setTop (mkF m 1 #[.val (.ref a1)] [(.ref a1)])) _
    refine st35 _ ?_
    show Steps p.tables e below (T35.setTop (mkF m 4 #[.val (.ref a1)] [(.int cc)])) _
    refine XS.iconst X35.here hx rfl (hb hby d5_4) ?_
    show Steps p.tables e below (T35.setTop (mkF m 5 #[.val (.ref a1)] [(.int (1 : Int32)), (.int cc)])) _
    refine XS.iand X35.here hx rfl (hb hby d5_5) rfl ?_
    exact kt
  by_cases hc6_37 : (cc &&& (1 : Int32)) = (0 : Int32)
  · have pre38 : ∀ t, Steps p.tables e below (T35.setTop (mkF m 14 #[.val (.ref a1)] [(.int (0 : Int32))])) t → Steps p.tables e below (s₁.setTop (entryFrame m #[(.ref a1)] 1)) t := by
      intro t kt
      refine pre36 _ ?_
      show Steps p.tables e below (T35.setTop (mkF m 6 #[.val (.ref a1)] [(.int (cc &&& (1 : Int32)))])) _
      refine XS.ifYes X35.here hx rfl (pc0 := 6) (pc' := 13) rfl (hb hby d5_6) rfl ((if0 _ _).trans (teq hc6_37).1) (by decide) (by decide) ?_
      show Steps p.tables e below (T35.setTop (mkF m 13 #[.val (.ref a1)] [])) _
      refine XS.iconst X35.here hx rfl (hb hby d5_13) ?_
      exact kt
    obtain ⟨fs, hr, hrun, hended, hW, hsame⟩ := X35.leave (v := some (.int (0 : Int32))) (fun h => by rw [Bd.returns] at h; cases h)
    refine ⟨_, _, pre38 _ ?_, hrun, hended, _, _, rfl, ?_, ⟨_, rfl⟩, hW, hsame.mono (by decide) (by decide)⟩
    · show Steps p.tables e below (T35.setTop (mkF m 14 #[.val (.ref a1)] [(.int (0 : Int32))])) _
      exact retN X35 hx (t := .boolean) Bd.returns (by simp) (hb hby d5_14) hr
    · show Q5 Z a1 cc h0 n0 _ T35.heap _
      rw [e35]
      exact ⟨(by rw [own_red, if_pos hc6_37]), N0, rfl⟩
  · have pre39 : ∀ t, Steps p.tables e below (T35.setTop (mkF m 14 #[.val (.ref a1)] [(.int (1 : Int32))])) t → Steps p.tables e below (s₁.setTop (entryFrame m #[(.ref a1)] 1)) t := by
      intro t kt
      refine pre36 _ ?_
      show Steps p.tables e below (T35.setTop (mkF m 6 #[.val (.ref a1)] [(.int (cc &&& (1 : Int32)))])) _
      refine XS.ifNo X35.here hx rfl (hb hby d5_6) rfl ((if0 _ _).trans (feq hc6_37).1) ?_
      show Steps p.tables e below (T35.setTop (mkF m 9 #[.val (.ref a1)] [])) _
      refine XS.iconst X35.here hx rfl (hb hby d5_9) ?_
      show Steps p.tables e below (T35.setTop (mkF m 10 #[.val (.ref a1)] [(.int (1 : Int32))])) _
      refine XS.goto X35.here hx rfl (pc0 := 10) (pc' := 14) rfl (hb hby d5_10) (by decide) (by decide) ?_
      exact kt
    obtain ⟨fs, hr, hrun, hended, hW, hsame⟩ := X35.leave (v := some (.int (1 : Int32))) (fun h => by rw [Bd.returns] at h; cases h)
    refine ⟨_, _, pre39 _ ?_, hrun, hended, _, _, rfl, ?_, ⟨_, rfl⟩, hW, hsame.mono (by decide) (by decide)⟩
    · show Steps p.tables e below (T35.setTop (mkF m 14 #[.val (.ref a1)] [(.int (1 : Int32))])) _
      exact retN X35 hx (t := .boolean) Bd.returns (by simp) (hb hby d5_14) hr
    · show Q5 Z a1 cc h0 n0 _ T35.heap _
      rw [e35]
      exact ⟨(by rw [own_red, if_neg hc6_37]), N0, rfl⟩
theorem d6_0 : decode prog_6_method_4_code 0 = .ok (.aload_n 0, 1) := by decide +kernel
theorem d6_1 : decode prog_6_method_4_code 1 = .ok (.getfield 18, 3) := by decide +kernel
theorem d6_4 : decode prog_6_method_4_code 4 = .ok (.iconst 1, 1) := by decide +kernel
theorem d6_5 : decode prog_6_method_4_code 5 = .ok (.iushr, 1) := by decide +kernel
theorem d6_6 : decode prog_6_method_4_code 6 = .ok (.ireturn, 1) := by decide +kernel
theorem pn_6 : plainName "com/example/twotone/twotone/RedBlackTreeMap$Node" = true := by first | (simp [plainName, overriddenIn]; done) | decide +kernel
theorem ef_6 (m : MethodId) (x0 : Addr) : entryFrame m #[(.ref x0)] 1 = mkF m 0 #[.val (.ref x0)] [] := by first | (simp [entryFrame, mkF, argsToLocals, Value.category]; done) | rfl
def Q6 (Z : State) (a1 : Addr) (cc : Int32) (h0 : Heap) (n0 : Nat) (v : Option Value) (h : Heap) (L : List Loc) : Prop := v = some (.int (own_count cc)) ∧ Fr n0 L ∧ h = h0
set_option maxRecDepth 65536 in
set_option maxHeartbeats 40000000 in
theorem rm6 (l : Launch) (Z : State) (a0 : Array Value) (hw : ∀ d ∈ tables_1, d.before a0 Z = true) (ws : List Jvm.Cond) (a1 : Addr) (cc : Int32) (h0 : Heap) (n0 : Nat) (Z0 : n0 ≤ h0.size) (F1 : Fld Z h0 a1 "com/example/twotone/twotone/RedBlackTreeMap$Node" "countAndColour" "I" (.int cc)) :
    MetFree l (⟨"com/example/twotone/twotone/RedBlackTreeMap$Node", "count", "()I"⟩ : MethodName) (head1 (Jvm.Cond.code (⟨"com/example/twotone/twotone/RedBlackTreeMap$Node", "count", "()I"⟩ : MethodName) prog_6_method_4_code 1 (some .int) :: ws) ({ frames := 0, cells := 0, slots := 0, locals := 0 } : Room)) (fun a U => a = #[(.ref a1)] ∧ Z.Warmed39 U.vm ∧ U.heap = h0) (fun _ _ _ _ _ => True) (fun _ U o U' => ∃ v L, o = .returned v ∧ Q6 Z a1 cc h0 n0 v U'.heap L ∧ FrameEnd U o U' L ({ frames := 0, cells := 0, slots := 0, locals := 0 } : Room).cells ({ frames := 0, cells := 0, slots := 0, locals := 0 } : Room).slots) := by
  refine MetFree.of_bodySF (plainFor_of_name pn_6) hisR ?_
  intro p e s m args below meth c s₁ Bd hml0 hP hK
  obtain ⟨rfl, hZ, hh⟩ := hP
  have hx := Bd.exec
  have hby := Bd.bytes
  have hml : c.maxLocals = 1 := hml0
  have hown : s.vm.findClass "com/example/twotone/twotone/RedBlackTreeMap$Node" = some m.cls := findClass_of_methodNamed Bd.named
  have hnm := (name_of_methodNamed Bd.named Bd.method).1
  have X0 : Stand p l e ({ frames := 0, cells := 0, slots := 0, locals := 0 } : Room) s m #[(.ref a1)] below meth c s₁ [] 0 0 := Stand.of_body Bd
  have e0 : s₁.heap = h0 := by rw [← hh, Bd.state]; rfl
  have N0 := Fr.nil n0
  have pre0 : ∀ t, Steps p.tables e below (s₁.setTop (mkF m 0 #[.val (.ref a1)] [])) t → Steps p.tables e below (s₁.setTop (entryFrame m #[(.ref a1)] 1)) t := fun t k => castTop (ef_6 m a1) k
  obtain ⟨T40, X40, e40, st40⟩ := getF X0 hx hZ hown (host := "") (Or.inl (hw _ (List.mem_of_getElem? (i := 14) rfl))) Via.refl e0 F1 (g := (mkF m 1 #[.val (.ref a1)] [(.ref a1)])) rfl rfl (hb hby d6_1)
  have pre41 : ∀ t, Steps p.tables e below (T40.setTop (mkF m 6 #[.val (.ref a1)] [(.int ((cc.toUInt32 >>> ((1 : Int32) &&& 31).toUInt32).toInt32))])) t → Steps p.tables e below (s₁.setTop (entryFrame m #[(.ref a1)] 1)) t := by
    intro t kt
    refine pre0 _ ?_
    show Steps p.tables e below (s₁.setTop (mkF m 0 #[.val (.ref a1)] [])) _
    refine XS.aloadN X0.here hx rfl (hb hby d6_0) rfl rfl ?_
    show Steps p.tables e below (s₁.setTop (mkF m 1 #[.val (.ref a1)] [(.ref a1)])) _
    refine st40 _ ?_
    show Steps p.tables e below (T40.setTop (mkF m 4 #[.val (.ref a1)] [(.int cc)])) _
    refine XS.iconst X40.here hx rfl (hb hby d6_4) ?_
    show Steps p.tables e below (T40.setTop (mkF m 5 #[.val (.ref a1)] [(.int (1 : Int32)), (.int cc)])) _
    refine XS.iushr X40.here hx rfl (hb hby d6_5) rfl ?_
    exact kt
  obtain ⟨fs, hr, hrun, hended, hW, hsame⟩ := X40.leave (v := some (.int ((cc.toUInt32 >>> ((1 : Int32) &&& 31).toUInt32).toInt32))) (fun h => by rw [Bd.returns] at h; cases h)
  refine ⟨_, _, pre41 _ ?_, hrun, hended, _, _, rfl, ?_, ⟨_, rfl⟩, hW, hsame.mono (by decide) (by decide)⟩
  · show Steps p.tables e below (T40.setTop (mkF m 6 #[.val (.ref a1)] [(.int ((cc.toUInt32 >>> ((1 : Int32) &&& 31).toUInt32).toInt32))])) _
    exact retI X40 hx Bd.returns (hb hby d6_6) hr
  · show Q6 Z a1 cc h0 n0 _ T40.heap _
    rw [e40]
    exact ⟨rfl, N0, rfl⟩
theorem pd_0 : parseMethodDescriptor "(Ljava/lang/Object;Ljava/lang/Object;Z)V" = some ⟨[(.object "java/lang/Object"), (.object "java/lang/Object"), .boolean], none⟩ := by decide +kernel
theorem pd_1 : parseMethodDescriptor "(I)V" = some ⟨[.int], none⟩ := by decide +kernel
theorem pd_2 : parseMethodDescriptor "(Z)V" = some ⟨[.boolean], none⟩ := by decide +kernel
theorem pd_3 : parseMethodDescriptor "()Z" = some ⟨[], some .boolean⟩ := by decide +kernel
theorem pd_4 : parseMethodDescriptor "()I" = some ⟨[], some .int⟩ := by decide +kernel
theorem pn_0 : plainName "com/example/twotone/twotone/NodeSetRedPinLaw" = true := by first | (simp [plainName, overriddenIn]; done) | decide +kernel
theorem ef_0 (m : MethodId) (x0 : Int32) (x1 : Int32) (x2 : Int32) : entryFrame m #[(.int x0), (.int x1), (.int x2)] maxLocals = mkF m 0 #[.val (.int x0), .val (.int x1), .val (.int x2), .unset, .unset, .unset, .unset, .unset] [] := by first | (simp [entryFrame, mkF, argsToLocals, Value.category, maxLocals]; done) | rfl
def Q0 (Z : State) (p1 : Int32) (p2 : Int32) (p3 : Int32) (h0 : Heap) (n0 : Nat) (v : Option Value) (h : Heap) (L : List Loc) : Prop := v = some (.int (1 : Int32)) ∧ Fr n0 L
set_option maxRecDepth 65536 in
set_option maxHeartbeats 40000000 in
theorem rm0 (l : Launch) (Z : State) (a0 : Array Value) (hw : ∀ d ∈ tables_1, d.before a0 Z = true) (ws : List Jvm.Cond) (p1 : Int32) (p2 : Int32) (p3 : Int32) (h0 : Heap) (n0 : Nat) (Z0 : n0 ≤ h0.size) :
    MetFree l x (head1 (Jvm.Cond.code x code maxLocals ret :: ws) room_1) (fun a U => a = #[(.int p1), (.int p2), (.int p3)] ∧ Z.Warmed39 U.vm ∧ U.heap = h0) (fun _ _ _ _ _ => True) (fun _ U o U' => ∃ v L, o = .returned v ∧ Q0 Z p1 p2 p3 h0 n0 v U'.heap L ∧ FrameEnd U o U' L room_1.cells room_1.slots) := by
  refine MetFree.of_bodySF (plainFor_of_name pn_0) hisR ?_
  intro p e s m args below meth c s₁ Bd hml0 hP hK
  obtain ⟨rfl, hZ, hh⟩ := hP
  have hx := Bd.exec
  have hby := Bd.bytes
  have hml : c.maxLocals = 8 := hml0
  have hown : s.vm.findClass "com/example/twotone/twotone/NodeSetRedPinLaw" = some m.cls := findClass_of_methodNamed Bd.named
  have hnm := (name_of_methodNamed Bd.named Bd.method).1
  have X0 : Stand p l e room_1 s m #[(.int p1), (.int p2), (.int p3)] below meth c s₁ [] 0 0 := Stand.of_body Bd
  have e0 : s₁.heap = h0 := by rw [← hh, Bd.state]; rfl
  have N0 := Fr.nil n0
  have pre0 : ∀ t, Steps p.tables e below (s₁.setTop (mkF m 0 #[.val (.int p1), .val (.int p2), .val (.int p3), .unset, .unset, .unset, .unset, .unset] [])) t → Steps p.tables e below (s₁.setTop (entryFrame m #[(.int p1), (.int p2), (.int p3)] maxLocals)) t := fun t k => castTop (ef_0 m p1 p2 p3) k
  have pre42 : ∀ t, Steps p.tables e below (s₁.setTop (mkF m 8 #[.val (.int p1), .val (.int p2), .val (.int p3), .val (.int (p1 &&& (2147483647 : Int32))), .unset, .unset, .unset, .unset] [(.int (p2 &&& (1 : Int32)))])) t → Steps p.tables e below (s₁.setTop (entryFrame m #[(.int p1), (.int p2), (.int p3)] maxLocals)) t := by
    intro t kt
    refine pre0 _ ?_
    show Steps p.tables e below (s₁.setTop (mkF m 0 #[.val (.int p1), .val (.int p2), .val (.int p3), .unset, .unset, .unset, .unset, .unset] [])) _
    refine XS.iloadN X0.here hx rfl (hb hby at_0) rfl ?_
    show Steps p.tables e below (s₁.setTop (mkF m 1 #[.val (.int p1), .val (.int p2), .val (.int p3), .unset, .unset, .unset, .unset, .unset] [(.int p1)])) _
    refine X0.ldcInt hx hown (mvT hZ (hw _ (List.mem_of_getElem? (i := 0) rfl))) (g := (mkF m 1 #[.val (.int p1), .val (.int p2), .val (.int p3), .unset, .unset, .unset, .unset, .unset] [(.int p1)])) rfl (hb hby at_1) _ ?_
    show Steps p.tables e below (s₁.setTop (mkF m 3 #[.val (.int p1), .val (.int p2), .val (.int p3), .unset, .unset, .unset, .unset, .unset] [(.int (2147483647 : Int32)), (.int p1)])) _
    refine XS.iand X0.here hx rfl (hb hby at_3) rfl ?_
    show Steps p.tables e below (s₁.setTop (mkF m 4 #[.val (.int p1), .val (.int p2), .val (.int p3), .unset, .unset, .unset, .unset, .unset] [(.int (p1 &&& (2147483647 : Int32)))])) _
    refine XS.istoreN X0.here hx rfl (hb hby at_4) rfl (l' := #[.val (.int p1), .val (.int p2), .val (.int p3), .val (.int (p1 &&& (2147483647 : Int32))), .unset, .unset, .unset, .unset]) rfl ?_
    show Steps p.tables e below (s₁.setTop (mkF m 5 #[.val (.int p1), .val (.int p2), .val (.int p3), .val (.int (p1 &&& (2147483647 : Int32))), .unset, .unset, .unset, .unset] [])) _
    refine XS.iloadN X0.here hx rfl (hb hby at_5) rfl ?_
    show Steps p.tables e below (s₁.setTop (mkF m 6 #[.val (.int p1), .val (.int p2), .val (.int p3), .val (.int (p1 &&& (2147483647 : Int32))), .unset, .unset, .unset, .unset] [(.int p2)])) _
    refine XS.iconst X0.here hx rfl (hb hby at_6) ?_
    show Steps p.tables e below (s₁.setTop (mkF m 7 #[.val (.int p1), .val (.int p2), .val (.int p3), .val (.int (p1 &&& (2147483647 : Int32))), .unset, .unset, .unset, .unset] [(.int (1 : Int32)), (.int p2)])) _
    refine XS.iand X0.here hx rfl (hb hby at_7) rfl ?_
    exact kt
  by_cases hc8_43 : (p2 &&& (1 : Int32)) = (0 : Int32)
  · have pre44 : ∀ t, Steps p.tables e below (s₁.setTop (mkF m 21 #[.val (.int p1), .val (.int p2), .val (.int p3), .val (.int (p1 &&& (2147483647 : Int32))), .val (.int (0 : Int32)), .unset, .unset, .unset] [(.int (p3 &&& (1 : Int32)))])) t → Steps p.tables e below (s₁.setTop (entryFrame m #[(.int p1), (.int p2), (.int p3)] maxLocals)) t := by
      intro t kt
      refine pre42 _ ?_
      show Steps p.tables e below (s₁.setTop (mkF m 8 #[.val (.int p1), .val (.int p2), .val (.int p3), .val (.int (p1 &&& (2147483647 : Int32))), .unset, .unset, .unset, .unset] [(.int (p2 &&& (1 : Int32)))])) _
      refine XS.ifYes X0.here hx rfl (pc0 := 8) (pc' := 15) rfl (hb hby at_8) rfl ((if0 _ _).trans (teq hc8_43).1) (by decide) (by decide) ?_
      show Steps p.tables e below (s₁.setTop (mkF m 15 #[.val (.int p1), .val (.int p2), .val (.int p3), .val (.int (p1 &&& (2147483647 : Int32))), .unset, .unset, .unset, .unset] [])) _
      refine XS.iconst X0.here hx rfl (hb hby at_15) ?_
      show Steps p.tables e below (s₁.setTop (mkF m 16 #[.val (.int p1), .val (.int p2), .val (.int p3), .val (.int (p1 &&& (2147483647 : Int32))), .unset, .unset, .unset, .unset] [(.int (0 : Int32))])) _
      refine XS.istore X0.here hx rfl (hb hby at_16) rfl (l' := #[.val (.int p1), .val (.int p2), .val (.int p3), .val (.int (p1 &&& (2147483647 : Int32))), .val (.int (0 : Int32)), .unset, .unset, .unset]) rfl ?_
      show Steps p.tables e below (s₁.setTop (mkF m 18 #[.val (.int p1), .val (.int p2), .val (.int p3), .val (.int (p1 &&& (2147483647 : Int32))), .val (.int (0 : Int32)), .unset, .unset, .unset] [])) _
      refine XS.iloadN X0.here hx rfl (hb hby at_18) rfl ?_
      show Steps p.tables e below (s₁.setTop (mkF m 19 #[.val (.int p1), .val (.int p2), .val (.int p3), .val (.int (p1 &&& (2147483647 : Int32))), .val (.int (0 : Int32)), .unset, .unset, .unset] [(.int p3)])) _
      refine XS.iconst X0.here hx rfl (hb hby at_19) ?_
      show Steps p.tables e below (s₁.setTop (mkF m 20 #[.val (.int p1), .val (.int p2), .val (.int p3), .val (.int (p1 &&& (2147483647 : Int32))), .val (.int (0 : Int32)), .unset, .unset, .unset] [(.int (1 : Int32)), (.int p3)])) _
      refine XS.iand X0.here hx rfl (hb hby at_20) rfl ?_
      exact kt
    by_cases hc21_45 : (p3 &&& (1 : Int32)) = (0 : Int32)
    · obtain ⟨T46, h46, X46, e46, E46, A46, D46, -, st46⟩ := newO X0 hx hZ hown (hw _ (List.mem_of_getElem? (i := 1) rfl)) (hw _ (List.mem_of_getElem? (i := 2) rfl)) (hw _ (List.mem_of_getElem? (i := 3) rfl)) e0 (g := (mkF m 31 #[.val (.int p1), .val (.int p2), .val (.int p3), .val (.int (p1 &&& (2147483647 : Int32))), .val (.int (0 : Int32)), .val (.int (0 : Int32)), .unset, .unset] [])) rfl (hb hby at_31) (by decide) (by decide)
      obtain ⟨b46, g46⟩ : ∃ z, z = h0.size := ⟨_, rfl⟩
      rw [← g46] at A46 D46 st46
      have g_b46 : n0 ≤ b46 := Nat.le_trans Z0 (Nat.le_of_eq g46.symm)
      have sz_b46 : h0.size ≤ b46 := Nat.le_trans (Keep.refl h0 []).1 (Nat.le_of_eq g46.symm)
      have K46 : Keep h0 h46 [] := (Keep.refl h0 []).ext E46
      have f47 : Fld Z h46 b46 "com/example/twotone/twotone/RedBlackTreeMap$Node" "key" "Ljava/lang/Object;" .null := D46 (Or.inr (hw _ (List.mem_of_getElem? (i := 11) rfl))) (ty := (.object "java/lang/Object")) (by decide)
      have f48 : Fld Z h46 b46 "com/example/twotone/twotone/RedBlackTreeMap$Node" "value" "Ljava/lang/Object;" .null := D46 (Or.inl (hw _ (List.mem_of_getElem? (i := 13) rfl))) (ty := (.object "java/lang/Object")) (by decide)
      have f49 : Fld Z h46 b46 "com/example/twotone/twotone/RedBlackTreeMap$Node" "countAndColour" "I" (.int (0 : Int32)) := D46 (Or.inl (hw _ (List.mem_of_getElem? (i := 15) rfl))) (ty := .int) (by decide)
      obtain ⟨_, _, ⟨T50, L50, k50, n50⟩, -, X50, ⟨Lc50, hQ50, l50, y50, z50⟩, st50⟩ := X46.specialBack hx (y := (⟨"com/example/twotone/twotone/RedBlackTreeMap$Node", "<init>", "(Ljava/lang/Object;Ljava/lang/Object;Z)V"⟩ : MethodName)) rfl hown (mvT hZ (hw _ (List.mem_of_getElem? (i := 4) rfl))) (mvT hZ (hw _ (List.mem_of_getElem? (i := 5) rfl))) (mvT hZ (hw _ (List.mem_of_getElem? (i := 6) rfl))) (by decide) (backOf (W := 1) (rm1 l Z a0 hw [] b46 (0 : Int32) h46 n0 (Nat.le_trans Z0 E46.1) f47 f48 f49 A46 g_b46) hZ (hw _ (List.mem_of_getElem? (i := 6) rfl)) (hw _ (List.mem_of_getElem? (i := 3) rfl)) (by decide) (by decide)) (g := (mkF m 39 #[.val (.int p1), .val (.int p2), .val (.int p3), .val (.int (p1 &&& (2147483647 : Int32))), .val (.int (0 : Int32)), .val (.int (0 : Int32)), .unset, .unset] [(.int (0 : Int32)), .null, .null, (.ref b46), (.ref b46)])) rfl (by rw [hml]; rfl) (Steps.refl _) (a := b46) (argsL := [.null, .null, (.int (0 : Int32))]) (rest := [(.ref b46)]) (lenOf pd_0 rfl) rfl (by show 2 * 0 + _ ≤ _; exact Nat.le_of_eq rfl) (hb hby at_39) (fun _ _ => ⟨rfl, e46, (by decide : 1 + 0 ≤ _), (by decide : 5 + 0 ≤ _)⟩)
      dsimp only [Pt.U, Pt.locs, Pt.cells, Pt.slots] at X50 l50 y50 z50 st50 hQ50
      subst l50 y50 z50
      obtain ⟨rfl, N50q, K50q, gE50, gF50⟩ := hQ50
      have N50 := Fr.app N0 N50q
      have K50 : Keep h0 T50.heap [] := K46.trans K50q (allS (Or.inr sz_b46) all0)
      have z51 : n0 ≤ T50.heap.size := (Nat.le_trans (Nat.le_trans Z0 E46.1) K50q.1)
      obtain ⟨cq52, kq52, q52a, q52b, q52c⟩ := isOf hZ rfl gE50
      obtain ⟨_, _, ⟨T52, L52, k52, n52⟩, -, X52, ⟨Lc52, hQ52, l52, y52, z52⟩, st52⟩ := X50.virtualBack hx (y := (⟨"com/example/twotone/twotone/RedBlackTreeMap$Node", "setCount", "(I)V"⟩ : MethodName)) (z := (⟨"com/example/twotone/twotone/RedBlackTreeMap$Node", "setCount", "(I)V"⟩ : MethodName)) hown (mvT hZ (hw _ (List.mem_of_getElem? (i := 16) rfl))) (mvT hZ (hw _ (List.mem_of_getElem? (i := 17) rfl))) (notFace_of_selects (args := #[]) (mvT hZ (hw _ (List.mem_of_getElem? (i := 19) rfl)))) (mvT hZ (hw _ (List.mem_of_getElem? (i := 19) rfl))) (mvT hZ (hw _ (List.mem_of_getElem? (i := 18) rfl))) (by decide) (backOf (W := 0) (rm3 l Z a0 hw [] b46 (p1 &&& (2147483647 : Int32)) (own_cc0 (0 : Int32)) T50.heap n0 z51 gF50 gE50 g_b46) hZ (hw _ (List.mem_of_getElem? (i := 20) rfl)) (hw _ (List.mem_of_getElem? (i := 3) rfl)) (by decide) (by decide)) q52a q52c (g := (mkF m 47 #[.val (.int p1), .val (.int p2), .val (.int p3), .val (.int (p1 &&& (2147483647 : Int32))), .val (.int (0 : Int32)), .val (.int (0 : Int32)), .val (.ref b46), .unset] [(.int (p1 &&& (2147483647 : Int32))), (.ref b46)])) rfl (by rw [hml]; rfl) (Steps.refl _) (argsL := [(.int (p1 &&& (2147483647 : Int32)))]) (rest := []) (lenOf pd_1 rfl) rfl (by show 2 * 0 + _ ≤ _; exact Nat.le_of_eq rfl) (hb hby at_47) (fun _ _ => ⟨rfl, rfl, (by decide : 1 + 0 ≤ _), (by decide : 5 + 0 ≤ _)⟩)
      dsimp only [Pt.U, Pt.locs, Pt.cells, Pt.slots] at X52 l52 y52 z52 st52 hQ52
      subst l52 y52 z52
      obtain ⟨rfl, N52q, K52q, gE52, gF52⟩ := hQ52
      have N52 := Fr.app N50 N52q
      have K52 : Keep h0 T52.heap [] := K50.trans K52q (allS (Or.inr sz_b46) all0)
      obtain ⟨cq53, kq53, q53a, q53b, q53c⟩ := isOf hZ rfl gE52
      obtain ⟨_, _, ⟨T53, L53, k53, n53⟩, -, X53, ⟨Lc53, hQ53, l53, y53, z53⟩, st53⟩ := X52.virtualBack hx (y := (⟨"com/example/twotone/twotone/RedBlackTreeMap$Node", "setRed", "(Z)V"⟩ : MethodName)) (z := (⟨"com/example/twotone/twotone/RedBlackTreeMap$Node", "setRed", "(Z)V"⟩ : MethodName)) hown (mvT hZ (hw _ (List.mem_of_getElem? (i := 21) rfl))) (mvT hZ (hw _ (List.mem_of_getElem? (i := 22) rfl))) (notFace_of_selects (args := #[]) (mvT hZ (hw _ (List.mem_of_getElem? (i := 24) rfl)))) (mvT hZ (hw _ (List.mem_of_getElem? (i := 24) rfl))) (mvT hZ (hw _ (List.mem_of_getElem? (i := 23) rfl))) (by decide) (backOf (W := 0) (rm4 l Z a0 hw [] b46 (0 : Int32) (own_setCount (own_cc0 (0 : Int32)) (p1 &&& (2147483647 : Int32))) T52.heap n0 (Nat.le_trans z51 K52q.1) gF52 gE52 g_b46) hZ (hw _ (List.mem_of_getElem? (i := 25) rfl)) (hw _ (List.mem_of_getElem? (i := 3) rfl)) (by decide) (by decide)) q53a q53c (g := (mkF m 54 #[.val (.int p1), .val (.int p2), .val (.int p3), .val (.int (p1 &&& (2147483647 : Int32))), .val (.int (0 : Int32)), .val (.int (0 : Int32)), .val (.ref b46), .unset] [(.int (0 : Int32)), (.ref b46)])) rfl (by rw [hml]; rfl) (Steps.refl _) (argsL := [(.int (0 : Int32))]) (rest := []) (lenOf pd_2 rfl) rfl (by show 2 * 0 + _ ≤ _; exact Nat.le_of_eq rfl) (hb hby at_54) (fun _ _ => ⟨rfl, rfl, (by decide : 1 + 0 ≤ _), (by decide : 5 + 0 ≤ _)⟩)
      dsimp only [Pt.U, Pt.locs, Pt.cells, Pt.slots] at X53 l53 y53 z53 st53 hQ53
      subst l53 y53 z53
      obtain ⟨rfl, N53q, K53q, gE53, gF53⟩ := hQ53
      have N53 := Fr.app N52 N53q
      have K53 : Keep h0 T53.heap [] := K52.trans K53q (allS (Or.inr sz_b46) all0)
      have z54 : n0 ≤ T53.heap.size := (Nat.le_trans (Nat.le_trans z51 K52q.1) K53q.1)
      obtain ⟨cq55, kq55, q55a, q55b, q55c⟩ := isOf hZ rfl gE53
      obtain ⟨_, _, ⟨T55, L55, k55, n55⟩, -, X55, ⟨Lc55, hQ55, l55, y55, z55⟩, st55⟩ := X53.virtualBack hx (y := (⟨"com/example/twotone/twotone/RedBlackTreeMap$Node", "red", "()Z"⟩ : MethodName)) (z := (⟨"com/example/twotone/twotone/RedBlackTreeMap$Node", "red", "()Z"⟩ : MethodName)) hown (mvT hZ (hw _ (List.mem_of_getElem? (i := 26) rfl))) (mvT hZ (hw _ (List.mem_of_getElem? (i := 27) rfl))) (notFace_of_selects (args := #[]) (mvT hZ (hw _ (List.mem_of_getElem? (i := 29) rfl)))) (mvT hZ (hw _ (List.mem_of_getElem? (i := 29) rfl))) (mvT hZ (hw _ (List.mem_of_getElem? (i := 28) rfl))) (by decide) (backOf (W := 0) (rm5 l Z a0 hw [] b46 (own_setRed (own_setCount (own_cc0 (0 : Int32)) (p1 &&& (2147483647 : Int32))) (0 : Int32)) T53.heap n0 z54 gF53) hZ (hw _ (List.mem_of_getElem? (i := 30) rfl)) (hw _ (List.mem_of_getElem? (i := 3) rfl)) (by decide) (by decide)) q55a q55c (g := (mkF m 59 #[.val (.int p1), .val (.int p2), .val (.int p3), .val (.int (p1 &&& (2147483647 : Int32))), .val (.int (0 : Int32)), .val (.int (0 : Int32)), .val (.ref b46), .unset] [(.ref b46)])) rfl (by rw [hml]; rfl) (Steps.refl _) (argsL := []) (rest := []) (lenOf pd_3 rfl) rfl (by show 2 * 0 + _ ≤ _; exact Nat.le_of_eq rfl) (hb hby at_59) (fun _ _ => ⟨rfl, rfl, (by decide : 1 + 0 ≤ _), (by decide : 5 + 0 ≤ _)⟩)
      dsimp only [Pt.U, Pt.locs, Pt.cells, Pt.slots] at X55 l55 y55 z55 st55 hQ55
      subst l55 y55 z55
      obtain ⟨rfl, N55q, e55⟩ := hQ55
      have N55 := Fr.app N53 N55q
      obtain ⟨cq56, kq56, q56a, q56b, q56c⟩ := isOf hZ e55 gE53
      obtain ⟨_, _, ⟨T56, L56, k56, n56⟩, -, X56, ⟨Lc56, hQ56, l56, y56, z56⟩, st56⟩ := X55.virtualBack hx (y := (⟨"com/example/twotone/twotone/RedBlackTreeMap$Node", "count", "()I"⟩ : MethodName)) (z := (⟨"com/example/twotone/twotone/RedBlackTreeMap$Node", "count", "()I"⟩ : MethodName)) hown (mvT hZ (hw _ (List.mem_of_getElem? (i := 31) rfl))) (mvT hZ (hw _ (List.mem_of_getElem? (i := 32) rfl))) (notFace_of_selects (args := #[]) (mvT hZ (hw _ (List.mem_of_getElem? (i := 34) rfl)))) (mvT hZ (hw _ (List.mem_of_getElem? (i := 34) rfl))) (mvT hZ (hw _ (List.mem_of_getElem? (i := 33) rfl))) (by decide) (backOf (W := 0) (rm6 l Z a0 hw [] b46 (own_setRed (own_setCount (own_cc0 (0 : Int32)) (p1 &&& (2147483647 : Int32))) (0 : Int32)) T53.heap n0 z54 gF53) hZ (hw _ (List.mem_of_getElem? (i := 35) rfl)) (hw _ (List.mem_of_getElem? (i := 3) rfl)) (by decide) (by decide)) q56a q56c (g := (mkF m 69 #[.val (.int p1), .val (.int p2), .val (.int p3), .val (.int (p1 &&& (2147483647 : Int32))), .val (.int (0 : Int32)), .val (.int (0 : Int32)), .val (.ref b46), .unset] [(.ref b46)])) rfl (by rw [hml]; rfl) (Steps.refl _) (argsL := []) (rest := []) (lenOf pd_4 rfl) rfl (by show 2 * 0 + _ ≤ _; exact Nat.le_of_eq rfl) (hb hby at_69) (fun _ _ => ⟨rfl, e55, (by decide : 1 + 0 ≤ _), (by decide : 5 + 0 ≤ _)⟩)
      dsimp only [Pt.U, Pt.locs, Pt.cells, Pt.slots] at X56 l56 y56 z56 st56 hQ56
      subst l56 y56 z56
      obtain ⟨rfl, N56q, e56⟩ := hQ56
      have N56 := Fr.app N55 N56q
      obtain ⟨cq57, kq57, q57a, q57b, q57c⟩ := isOf hZ e56 gE53
      obtain ⟨_, _, ⟨T57, L57, k57, n57⟩, -, X57, ⟨Lc57, hQ57, l57, y57, z57⟩, st57⟩ := X56.virtualBack hx (y := (⟨"com/example/twotone/twotone/RedBlackTreeMap$Node", "setRed", "(Z)V"⟩ : MethodName)) (z := (⟨"com/example/twotone/twotone/RedBlackTreeMap$Node", "setRed", "(Z)V"⟩ : MethodName)) hown (mvT hZ (hw _ (List.mem_of_getElem? (i := 21) rfl))) (mvT hZ (hw _ (List.mem_of_getElem? (i := 22) rfl))) (notFace_of_selects (args := #[]) (mvT hZ (hw _ (List.mem_of_getElem? (i := 24) rfl)))) (mvT hZ (hw _ (List.mem_of_getElem? (i := 24) rfl))) (mvT hZ (hw _ (List.mem_of_getElem? (i := 23) rfl))) (by decide) (backOf (W := 0) (rm4 l Z a0 hw [] b46 (1 : Int32) (own_setRed (own_setCount (own_cc0 (0 : Int32)) (p1 &&& (2147483647 : Int32))) (0 : Int32)) T53.heap n0 z54 gF53 gE53 g_b46) hZ (hw _ (List.mem_of_getElem? (i := 25) rfl)) (hw _ (List.mem_of_getElem? (i := 3) rfl)) (by decide) (by decide)) q57a q57c (g := (mkF m 95 #[.val (.int p1), .val (.int p2), .val (.int p3), .val (.int (p1 &&& (2147483647 : Int32))), .val (.int (0 : Int32)), .val (.int (0 : Int32)), .val (.ref b46), .val (.int (1 : Int32))] [(.int (1 : Int32)), (.ref b46)])) rfl (by rw [hml]; rfl) (Steps.refl _) (argsL := [(.int (1 : Int32))]) (rest := []) (lenOf pd_2 rfl) rfl (by show 2 * 0 + _ ≤ _; exact Nat.le_of_eq rfl) (hb hby at_95) (fun _ _ => ⟨rfl, e56, (by decide : 1 + 0 ≤ _), (by decide : 5 + 0 ≤ _)⟩)
      dsimp only [Pt.U, Pt.locs, Pt.cells, Pt.slots] at X57 l57 y57 z57 st57 hQ57
      subst l57 y57 z57
      obtain ⟨rfl, N57q, K57q, gE57, gF57⟩ := hQ57
      have N57 := Fr.app N56 N57q
      have K57 : Keep h0 T57.heap [] := K53.trans K57q (allS (Or.inr sz_b46) all0)
      obtain ⟨cq58, kq58, q58a, q58b, q58c⟩ := isOf hZ rfl gE57
      obtain ⟨_, _, ⟨T58, L58, k58, n58⟩, -, X58, ⟨Lc58, hQ58, l58, y58, z58⟩, st58⟩ := X57.virtualBack hx (y := (⟨"com/example/twotone/twotone/RedBlackTreeMap$Node", "red", "()Z"⟩ : MethodName)) (z := (⟨"com/example/twotone/twotone/RedBlackTreeMap$Node", "red", "()Z"⟩ : MethodName)) hown (mvT hZ (hw _ (List.mem_of_getElem? (i := 26) rfl))) (mvT hZ (hw _ (List.mem_of_getElem? (i := 27) rfl))) (notFace_of_selects (args := #[]) (mvT hZ (hw _ (List.mem_of_getElem? (i := 29) rfl)))) (mvT hZ (hw _ (List.mem_of_getElem? (i := 29) rfl))) (mvT hZ (hw _ (List.mem_of_getElem? (i := 28) rfl))) (by decide) (backOf (W := 0) (rm5 l Z a0 hw [] b46 (own_setRed (own_setRed (own_setCount (own_cc0 (0 : Int32)) (p1 &&& (2147483647 : Int32))) (0 : Int32)) (1 : Int32)) T57.heap n0 (Nat.le_trans z54 K57q.1) gF57) hZ (hw _ (List.mem_of_getElem? (i := 30) rfl)) (hw _ (List.mem_of_getElem? (i := 3) rfl)) (by decide) (by decide)) q58a q58c (g := (mkF m 105 #[.val (.int p1), .val (.int p2), .val (.int p3), .val (.int (p1 &&& (2147483647 : Int32))), .val (.int (0 : Int32)), .val (.int (0 : Int32)), .val (.ref b46), .val (.int (1 : Int32))] [(.ref b46)])) rfl (by rw [hml]; rfl) (Steps.refl _) (argsL := []) (rest := []) (lenOf pd_3 rfl) rfl (by show 2 * 0 + _ ≤ _; exact Nat.le_of_eq rfl) (hb hby at_105) (fun _ _ => ⟨rfl, rfl, (by decide : 1 + 0 ≤ _), (by decide : 5 + 0 ≤ _)⟩)
      dsimp only [Pt.U, Pt.locs, Pt.cells, Pt.slots] at X58 l58 y58 z58 st58 hQ58
      subst l58 y58 z58
      obtain ⟨rfl, N58q, e58⟩ := hQ58
      have N58 := Fr.app N57 N58q
      obtain ⟨cq59, kq59, q59a, q59b, q59c⟩ := isOf hZ e58 gE57
      obtain ⟨_, _, ⟨T59, L59, k59, n59⟩, -, X59, ⟨Lc59, hQ59, l59, y59, z59⟩, st59⟩ := X58.virtualBack hx (y := (⟨"com/example/twotone/twotone/RedBlackTreeMap$Node", "count", "()I"⟩ : MethodName)) (z := (⟨"com/example/twotone/twotone/RedBlackTreeMap$Node", "count", "()I"⟩ : MethodName)) hown (mvT hZ (hw _ (List.mem_of_getElem? (i := 31) rfl))) (mvT hZ (hw _ (List.mem_of_getElem? (i := 32) rfl))) (notFace_of_selects (args := #[]) (mvT hZ (hw _ (List.mem_of_getElem? (i := 34) rfl)))) (mvT hZ (hw _ (List.mem_of_getElem? (i := 34) rfl))) (mvT hZ (hw _ (List.mem_of_getElem? (i := 33) rfl))) (by decide) (backOf (W := 0) (rm6 l Z a0 hw [] b46 (own_setRed (own_setRed (own_setCount (own_cc0 (0 : Int32)) (p1 &&& (2147483647 : Int32))) (0 : Int32)) (1 : Int32)) T57.heap n0 (Nat.le_trans z54 K57q.1) gF57) hZ (hw _ (List.mem_of_getElem? (i := 35) rfl)) (hw _ (List.mem_of_getElem? (i := 3) rfl)) (by decide) (by decide)) q59a q59c (g := (mkF m 123 #[.val (.int p1), .val (.int p2), .val (.int p3), .val (.int (p1 &&& (2147483647 : Int32))), .val (.int (0 : Int32)), .val (.int (0 : Int32)), .val (.ref b46), .val (.int (1 : Int32))] [(.ref b46)])) rfl (by rw [hml]; rfl) (Steps.refl _) (argsL := []) (rest := []) (lenOf pd_4 rfl) rfl (by show 2 * 0 + _ ≤ _; exact Nat.le_of_eq rfl) (hb hby at_123) (fun _ _ => ⟨rfl, e58, (by decide : 1 + 0 ≤ _), (by decide : 5 + 0 ≤ _)⟩)
      dsimp only [Pt.U, Pt.locs, Pt.cells, Pt.slots] at X59 l59 y59 z59 st59 hQ59
      subst l59 y59 z59
      obtain ⟨rfl, N59q, e59⟩ := hQ59
      have N59 := Fr.app N58 N59q
      have pre60 : ∀ t, Steps p.tables e below (T59.setTop (mkF m 139 #[.val (.int p1), .val (.int p2), .val (.int p3), .val (.int (p1 &&& (2147483647 : Int32))), .val (.int (0 : Int32)), .val (.int (0 : Int32)), .val (.ref b46), .val (.int (1 : Int32))] [(.int (1 : Int32))])) t → Steps p.tables e below (s₁.setTop (entryFrame m #[(.int p1), (.int p2), (.int p3)] maxLocals)) t := by
        intro t kt
        refine pre44 _ ?_
        show Steps p.tables e below (s₁.setTop (mkF m 21 #[.val (.int p1), .val (.int p2), .val (.int p3), .val (.int (p1 &&& (2147483647 : Int32))), .val (.int (0 : Int32)), .unset, .unset, .unset] [(.int (p3 &&& (1 : Int32)))])) _
        refine XS.ifYes X0.here hx rfl (pc0 := 21) (pc' := 28) rfl (hb hby at_21) rfl ((if0 _ _).trans (teq hc21_45).1) (by decide) (by decide) ?_
        show Steps p.tables e below (s₁.setTop (mkF m 28 #[.val (.int p1), .val (.int p2), .val (.int p3), .val (.int (p1 &&& (2147483647 : Int32))), .val (.int (0 : Int32)), .unset, .unset, .unset] [])) _
        refine XS.iconst X0.here hx rfl (hb hby at_28) ?_
        show Steps p.tables e below (s₁.setTop (mkF m 29 #[.val (.int p1), .val (.int p2), .val (.int p3), .val (.int (p1 &&& (2147483647 : Int32))), .val (.int (0 : Int32)), .unset, .unset, .unset] [(.int (0 : Int32))])) _
        refine XS.istore X0.here hx rfl (hb hby at_29) rfl (l' := #[.val (.int p1), .val (.int p2), .val (.int p3), .val (.int (p1 &&& (2147483647 : Int32))), .val (.int (0 : Int32)), .val (.int (0 : Int32)), .unset, .unset]) rfl ?_
        show Steps p.tables e below (s₁.setTop (mkF m 31 #[.val (.int p1), .val (.int p2), .val (.int p3), .val (.int (p1 &&& (2147483647 : Int32))), .val (.int (0 : Int32)), .val (.int (0 : Int32)), .unset, .unset] [])) _
        refine st46 _ ?_
        show Steps p.tables e below (T46.setTop (mkF m 34 #[.val (.int p1), .val (.int p2), .val (.int p3), .val (.int (p1 &&& (2147483647 : Int32))), .val (.int (0 : Int32)), .val (.int (0 : Int32)), .unset, .unset] [(.ref b46)])) _
        refine XS.dup X46.here hx rfl (hb hby at_34) rfl rfl ?_
        show Steps p.tables e below (T46.setTop (mkF m 35 #[.val (.int p1), .val (.int p2), .val (.int p3), .val (.int (p1 &&& (2147483647 : Int32))), .val (.int (0 : Int32)), .val (.int (0 : Int32)), .unset, .unset] [(.ref b46), (.ref b46)])) _
        refine XS.aconstNull X46.here hx rfl (hb hby at_35) ?_
        show Steps p.tables e below (T46.setTop (mkF m 36 #[.val (.int p1), .val (.int p2), .val (.int p3), .val (.int (p1 &&& (2147483647 : Int32))), .val (.int (0 : Int32)), .val (.int (0 : Int32)), .unset, .unset] [.null, (.ref b46), (.ref b46)])) _
        refine XS.aconstNull X46.here hx rfl (hb hby at_36) ?_
        show Steps p.tables e below (T46.setTop (mkF m 37 #[.val (.int p1), .val (.int p2), .val (.int p3), .val (.int (p1 &&& (2147483647 : Int32))), .val (.int (0 : Int32)), .val (.int (0 : Int32)), .unset, .unset] [.null, .null, (.ref b46), (.ref b46)])) _
        refine XS.iload X46.here hx rfl (hb hby at_37) rfl ?_
        show Steps p.tables e below (T46.setTop (mkF m 39 #[.val (.int p1), .val (.int p2), .val (.int p3), .val (.int (p1 &&& (2147483647 : Int32))), .val (.int (0 : Int32)), .val (.int (0 : Int32)), .unset, .unset] [(.int (0 : Int32)), .null, .null, (.ref b46), (.ref b46)])) _
        refine st50.trans ?_
        show Steps p.tables e below (T50.setTop (mkF m 42 #[.val (.int p1), .val (.int p2), .val (.int p3), .val (.int (p1 &&& (2147483647 : Int32))), .val (.int (0 : Int32)), .val (.int (0 : Int32)), .unset, .unset] [(.ref b46)])) _
        refine XS.astore X50.here hx rfl (hb hby at_42) rfl rfl (l' := #[.val (.int p1), .val (.int p2), .val (.int p3), .val (.int (p1 &&& (2147483647 : Int32))), .val (.int (0 : Int32)), .val (.int (0 : Int32)), .val (.ref b46), .unset]) rfl ?_
        show Steps p.tables e below (T50.setTop (mkF m 44 #[.val (.int p1), .val (.int p2), .val (.int p3), .val (.int (p1 &&& (2147483647 : Int32))), .val (.int (0 : Int32)), .val (.int (0 : Int32)), .val (.ref b46), .unset] [])) _
        refine XS.aload X50.here hx rfl (hb hby at_44) rfl rfl ?_
        show Steps p.tables e below (T50.setTop (mkF m 46 #[.val (.int p1), .val (.int p2), .val (.int p3), .val (.int (p1 &&& (2147483647 : Int32))), .val (.int (0 : Int32)), .val (.int (0 : Int32)), .val (.ref b46), .unset] [(.ref b46)])) _
        refine XS.iloadN X50.here hx rfl (hb hby at_46) rfl ?_
        show Steps p.tables e below (T50.setTop (mkF m 47 #[.val (.int p1), .val (.int p2), .val (.int p3), .val (.int (p1 &&& (2147483647 : Int32))), .val (.int (0 : Int32)), .val (.int (0 : Int32)), .val (.ref b46), .unset] [(.int (p1 &&& (2147483647 : Int32))), (.ref b46)])) _
        refine st52.trans ?_
        show Steps p.tables e below (T52.setTop (mkF m 50 #[.val (.int p1), .val (.int p2), .val (.int p3), .val (.int (p1 &&& (2147483647 : Int32))), .val (.int (0 : Int32)), .val (.int (0 : Int32)), .val (.ref b46), .unset] [])) _
        refine XS.aload X52.here hx rfl (hb hby at_50) rfl rfl ?_
        show Steps p.tables e below (T52.setTop (mkF m 52 #[.val (.int p1), .val (.int p2), .val (.int p3), .val (.int (p1 &&& (2147483647 : Int32))), .val (.int (0 : Int32)), .val (.int (0 : Int32)), .val (.ref b46), .unset] [(.ref b46)])) _
        refine XS.iload X52.here hx rfl (hb hby at_52) rfl ?_
        show Steps p.tables e below (T52.setTop (mkF m 54 #[.val (.int p1), .val (.int p2), .val (.int p3), .val (.int (p1 &&& (2147483647 : Int32))), .val (.int (0 : Int32)), .val (.int (0 : Int32)), .val (.ref b46), .unset] [(.int (0 : Int32)), (.ref b46)])) _
        refine st53.trans ?_
        show Steps p.tables e below (T53.setTop (mkF m 57 #[.val (.int p1), .val (.int p2), .val (.int p3), .val (.int (p1 &&& (2147483647 : Int32))), .val (.int (0 : Int32)), .val (.int (0 : Int32)), .val (.ref b46), .unset] [])) _
        refine XS.aload X53.here hx rfl (hb hby at_57) rfl rfl ?_
        show Steps p.tables e below (T53.setTop (mkF m 59 #[.val (.int p1), .val (.int p2), .val (.int p3), .val (.int (p1 &&& (2147483647 : Int32))), .val (.int (0 : Int32)), .val (.int (0 : Int32)), .val (.ref b46), .unset] [(.ref b46)])) _
        refine st55.trans ?_
        show Steps p.tables e below (T55.setTop (mkF m 62 #[.val (.int p1), .val (.int p2), .val (.int p3), .val (.int (p1 &&& (2147483647 : Int32))), .val (.int (0 : Int32)), .val (.int (0 : Int32)), .val (.ref b46), .unset] [(.int (own_red (own_setRed (own_setCount (own_cc0 (0 : Int32)) (p1 &&& (2147483647 : Int32))) (0 : Int32))))])) _
        refine XS.iload X55.here hx rfl (hb hby at_62) rfl ?_
        show Steps p.tables e below (T55.setTop (mkF m 64 #[.val (.int p1), .val (.int p2), .val (.int p3), .val (.int (p1 &&& (2147483647 : Int32))), .val (.int (0 : Int32)), .val (.int (0 : Int32)), .val (.ref b46), .unset] [(.int (0 : Int32)), (.int (own_red (own_setRed (own_setCount (own_cc0 (0 : Int32)) (p1 &&& (2147483647 : Int32))) (0 : Int32))))])) _
        refine XS.icmpNo X55.here hx rfl (hb hby at_64) rfl (teq (((own_redset _ _).trans (by decide)) : (own_red (own_setRed (own_setCount (own_cc0 (0 : Int32)) (p1 &&& (2147483647 : Int32))) (0 : Int32))) = (0 : Int32))).2 ?_
        show Steps p.tables e below (T55.setTop (mkF m 67 #[.val (.int p1), .val (.int p2), .val (.int p3), .val (.int (p1 &&& (2147483647 : Int32))), .val (.int (0 : Int32)), .val (.int (0 : Int32)), .val (.ref b46), .unset] [])) _
        refine XS.aload X55.here hx rfl (hb hby at_67) rfl rfl ?_
        show Steps p.tables e below (T55.setTop (mkF m 69 #[.val (.int p1), .val (.int p2), .val (.int p3), .val (.int (p1 &&& (2147483647 : Int32))), .val (.int (0 : Int32)), .val (.int (0 : Int32)), .val (.ref b46), .unset] [(.ref b46)])) _
        refine st56.trans ?_
        show Steps p.tables e below (T56.setTop (mkF m 72 #[.val (.int p1), .val (.int p2), .val (.int p3), .val (.int (p1 &&& (2147483647 : Int32))), .val (.int (0 : Int32)), .val (.int (0 : Int32)), .val (.ref b46), .unset] [(.int (own_count (own_setRed (own_setCount (own_cc0 (0 : Int32)) (p1 &&& (2147483647 : Int32))) (0 : Int32))))])) _
        refine XS.iloadN X56.here hx rfl (hb hby at_72) rfl ?_
        show Steps p.tables e below (T56.setTop (mkF m 73 #[.val (.int p1), .val (.int p2), .val (.int p3), .val (.int (p1 &&& (2147483647 : Int32))), .val (.int (0 : Int32)), .val (.int (0 : Int32)), .val (.ref b46), .unset] [(.int (p1 &&& (2147483647 : Int32))), (.int (own_count (own_setRed (own_setCount (own_cc0 (0 : Int32)) (p1 &&& (2147483647 : Int32))) (0 : Int32))))])) _
        refine XS.icmpNo X56.here hx rfl (hb hby at_73) rfl (teq (((own_cntset _ _).trans (own_cntcnt _ _)) : (own_count (own_setRed (own_setCount (own_cc0 (0 : Int32)) (p1 &&& (2147483647 : Int32))) (0 : Int32))) = (p1 &&& (2147483647 : Int32)))).2 ?_
        show Steps p.tables e below (T56.setTop (mkF m 76 #[.val (.int p1), .val (.int p2), .val (.int p3), .val (.int (p1 &&& (2147483647 : Int32))), .val (.int (0 : Int32)), .val (.int (0 : Int32)), .val (.ref b46), .unset] [])) _
        refine XS.iconst X56.here hx rfl (hb hby at_76) ?_
        show Steps p.tables e below (T56.setTop (mkF m 77 #[.val (.int p1), .val (.int p2), .val (.int p3), .val (.int (p1 &&& (2147483647 : Int32))), .val (.int (0 : Int32)), .val (.int (0 : Int32)), .val (.ref b46), .unset] [(.int (1 : Int32))])) _
        refine XS.goto X56.here hx rfl (pc0 := 77) (pc' := 81) rfl (hb hby at_77) (by decide) (by decide) ?_
        show Steps p.tables e below (T56.setTop (mkF m 81 #[.val (.int p1), .val (.int p2), .val (.int p3), .val (.int (p1 &&& (2147483647 : Int32))), .val (.int (0 : Int32)), .val (.int (0 : Int32)), .val (.ref b46), .unset] [(.int (1 : Int32))])) _
        refine XS.istore X56.here hx rfl (hb hby at_81) rfl (l' := #[.val (.int p1), .val (.int p2), .val (.int p3), .val (.int (p1 &&& (2147483647 : Int32))), .val (.int (0 : Int32)), .val (.int (0 : Int32)), .val (.ref b46), .val (.int (1 : Int32))]) rfl ?_
        show Steps p.tables e below (T56.setTop (mkF m 83 #[.val (.int p1), .val (.int p2), .val (.int p3), .val (.int (p1 &&& (2147483647 : Int32))), .val (.int (0 : Int32)), .val (.int (0 : Int32)), .val (.ref b46), .val (.int (1 : Int32))] [])) _
        refine XS.aload X56.here hx rfl (hb hby at_83) rfl rfl ?_
        show Steps p.tables e below (T56.setTop (mkF m 85 #[.val (.int p1), .val (.int p2), .val (.int p3), .val (.int (p1 &&& (2147483647 : Int32))), .val (.int (0 : Int32)), .val (.int (0 : Int32)), .val (.ref b46), .val (.int (1 : Int32))] [(.ref b46)])) _
        refine XS.iload X56.here hx rfl (hb hby at_85) rfl ?_
        show Steps p.tables e below (T56.setTop (mkF m 87 #[.val (.int p1), .val (.int p2), .val (.int p3), .val (.int (p1 &&& (2147483647 : Int32))), .val (.int (0 : Int32)), .val (.int (0 : Int32)), .val (.ref b46), .val (.int (1 : Int32))] [(.int (0 : Int32)), (.ref b46)])) _
        refine XS.ifNo X56.here hx rfl (hb hby at_87) rfl ((if0 _ _).trans (teq (by decide : (0 : Int32) = (0 : Int32))).2) ?_
        show Steps p.tables e below (T56.setTop (mkF m 90 #[.val (.int p1), .val (.int p2), .val (.int p3), .val (.int (p1 &&& (2147483647 : Int32))), .val (.int (0 : Int32)), .val (.int (0 : Int32)), .val (.ref b46), .val (.int (1 : Int32))] [(.ref b46)])) _
        refine XS.iconst X56.here hx rfl (hb hby at_90) ?_
        show Steps p.tables e below (T56.setTop (mkF m 91 #[.val (.int p1), .val (.int p2), .val (.int p3), .val (.int (p1 &&& (2147483647 : Int32))), .val (.int (0 : Int32)), .val (.int (0 : Int32)), .val (.ref b46), .val (.int (1 : Int32))] [(.int (1 : Int32)), (.ref b46)])) _
        refine XS.goto X56.here hx rfl (pc0 := 91) (pc' := 95) rfl (hb hby at_91) (by decide) (by decide) ?_
        show Steps p.tables e below (T56.setTop (mkF m 95 #[.val (.int p1), .val (.int p2), .val (.int p3), .val (.int (p1 &&& (2147483647 : Int32))), .val (.int (0 : Int32)), .val (.int (0 : Int32)), .val (.ref b46), .val (.int (1 : Int32))] [(.int (1 : Int32)), (.ref b46)])) _
        refine st57.trans ?_
        show Steps p.tables e below (T57.setTop (mkF m 98 #[.val (.int p1), .val (.int p2), .val (.int p3), .val (.int (p1 &&& (2147483647 : Int32))), .val (.int (0 : Int32)), .val (.int (0 : Int32)), .val (.ref b46), .val (.int (1 : Int32))] [])) _
        refine XS.iload X57.here hx rfl (hb hby at_98) rfl ?_
        show Steps p.tables e below (T57.setTop (mkF m 100 #[.val (.int p1), .val (.int p2), .val (.int p3), .val (.int (p1 &&& (2147483647 : Int32))), .val (.int (0 : Int32)), .val (.int (0 : Int32)), .val (.ref b46), .val (.int (1 : Int32))] [(.int (1 : Int32))])) _
        refine XS.ifNo X57.here hx rfl (hb hby at_100) rfl ((if0 _ _).trans (feq (by decide : ¬ ((1 : Int32) = (0 : Int32)))).1) ?_
        show Steps p.tables e below (T57.setTop (mkF m 103 #[.val (.int p1), .val (.int p2), .val (.int p3), .val (.int (p1 &&& (2147483647 : Int32))), .val (.int (0 : Int32)), .val (.int (0 : Int32)), .val (.ref b46), .val (.int (1 : Int32))] [])) _
        refine XS.aload X57.here hx rfl (hb hby at_103) rfl rfl ?_
        show Steps p.tables e below (T57.setTop (mkF m 105 #[.val (.int p1), .val (.int p2), .val (.int p3), .val (.int (p1 &&& (2147483647 : Int32))), .val (.int (0 : Int32)), .val (.int (0 : Int32)), .val (.ref b46), .val (.int (1 : Int32))] [(.ref b46)])) _
        refine st58.trans ?_
        show Steps p.tables e below (T58.setTop (mkF m 108 #[.val (.int p1), .val (.int p2), .val (.int p3), .val (.int (p1 &&& (2147483647 : Int32))), .val (.int (0 : Int32)), .val (.int (0 : Int32)), .val (.ref b46), .val (.int (1 : Int32))] [(.int (own_red (own_setRed (own_setRed (own_setCount (own_cc0 (0 : Int32)) (p1 &&& (2147483647 : Int32))) (0 : Int32)) (1 : Int32))))])) _
        refine XS.iload X58.here hx rfl (hb hby at_108) rfl ?_
        show Steps p.tables e below (T58.setTop (mkF m 110 #[.val (.int p1), .val (.int p2), .val (.int p3), .val (.int (p1 &&& (2147483647 : Int32))), .val (.int (0 : Int32)), .val (.int (0 : Int32)), .val (.ref b46), .val (.int (1 : Int32))] [(.int (0 : Int32)), (.int (own_red (own_setRed (own_setRed (own_setCount (own_cc0 (0 : Int32)) (p1 &&& (2147483647 : Int32))) (0 : Int32)) (1 : Int32))))])) _
        refine XS.ifNo X58.here hx rfl (hb hby at_110) rfl ((if0 _ _).trans (teq (by decide : (0 : Int32) = (0 : Int32))).2) ?_
        show Steps p.tables e below (T58.setTop (mkF m 113 #[.val (.int p1), .val (.int p2), .val (.int p3), .val (.int (p1 &&& (2147483647 : Int32))), .val (.int (0 : Int32)), .val (.int (0 : Int32)), .val (.ref b46), .val (.int (1 : Int32))] [(.int (own_red (own_setRed (own_setRed (own_setCount (own_cc0 (0 : Int32)) (p1 &&& (2147483647 : Int32))) (0 : Int32)) (1 : Int32))))])) _
        refine XS.iconst X58.here hx rfl (hb hby at_113) ?_
        show Steps p.tables e below (T58.setTop (mkF m 114 #[.val (.int p1), .val (.int p2), .val (.int p3), .val (.int (p1 &&& (2147483647 : Int32))), .val (.int (0 : Int32)), .val (.int (0 : Int32)), .val (.ref b46), .val (.int (1 : Int32))] [(.int (1 : Int32)), (.int (own_red (own_setRed (own_setRed (own_setCount (own_cc0 (0 : Int32)) (p1 &&& (2147483647 : Int32))) (0 : Int32)) (1 : Int32))))])) _
        refine XS.goto X58.here hx rfl (pc0 := 114) (pc' := 118) rfl (hb hby at_114) (by decide) (by decide) ?_
        show Steps p.tables e below (T58.setTop (mkF m 118 #[.val (.int p1), .val (.int p2), .val (.int p3), .val (.int (p1 &&& (2147483647 : Int32))), .val (.int (0 : Int32)), .val (.int (0 : Int32)), .val (.ref b46), .val (.int (1 : Int32))] [(.int (1 : Int32)), (.int (own_red (own_setRed (own_setRed (own_setCount (own_cc0 (0 : Int32)) (p1 &&& (2147483647 : Int32))) (0 : Int32)) (1 : Int32))))])) _
        refine XS.icmpNo X58.here hx rfl (hb hby at_118) rfl (teq (((own_redset _ _).trans (by decide)) : (own_red (own_setRed (own_setRed (own_setCount (own_cc0 (0 : Int32)) (p1 &&& (2147483647 : Int32))) (0 : Int32)) (1 : Int32))) = (1 : Int32))).2 ?_
        show Steps p.tables e below (T58.setTop (mkF m 121 #[.val (.int p1), .val (.int p2), .val (.int p3), .val (.int (p1 &&& (2147483647 : Int32))), .val (.int (0 : Int32)), .val (.int (0 : Int32)), .val (.ref b46), .val (.int (1 : Int32))] [])) _
        refine XS.aload X58.here hx rfl (hb hby at_121) rfl rfl ?_
        show Steps p.tables e below (T58.setTop (mkF m 123 #[.val (.int p1), .val (.int p2), .val (.int p3), .val (.int (p1 &&& (2147483647 : Int32))), .val (.int (0 : Int32)), .val (.int (0 : Int32)), .val (.ref b46), .val (.int (1 : Int32))] [(.ref b46)])) _
        refine st59.trans ?_
        show Steps p.tables e below (T59.setTop (mkF m 126 #[.val (.int p1), .val (.int p2), .val (.int p3), .val (.int (p1 &&& (2147483647 : Int32))), .val (.int (0 : Int32)), .val (.int (0 : Int32)), .val (.ref b46), .val (.int (1 : Int32))] [(.int (own_count (own_setRed (own_setRed (own_setCount (own_cc0 (0 : Int32)) (p1 &&& (2147483647 : Int32))) (0 : Int32)) (1 : Int32))))])) _
        refine XS.iloadN X59.here hx rfl (hb hby at_126) rfl ?_
        show Steps p.tables e below (T59.setTop (mkF m 127 #[.val (.int p1), .val (.int p2), .val (.int p3), .val (.int (p1 &&& (2147483647 : Int32))), .val (.int (0 : Int32)), .val (.int (0 : Int32)), .val (.ref b46), .val (.int (1 : Int32))] [(.int (p1 &&& (2147483647 : Int32))), (.int (own_count (own_setRed (own_setRed (own_setCount (own_cc0 (0 : Int32)) (p1 &&& (2147483647 : Int32))) (0 : Int32)) (1 : Int32))))])) _
        refine XS.icmpNo X59.here hx rfl (hb hby at_127) rfl (teq (((own_cntset _ _).trans ((own_cntset _ _).trans (own_cntcnt _ _))) : (own_count (own_setRed (own_setRed (own_setCount (own_cc0 (0 : Int32)) (p1 &&& (2147483647 : Int32))) (0 : Int32)) (1 : Int32))) = (p1 &&& (2147483647 : Int32)))).2 ?_
        show Steps p.tables e below (T59.setTop (mkF m 130 #[.val (.int p1), .val (.int p2), .val (.int p3), .val (.int (p1 &&& (2147483647 : Int32))), .val (.int (0 : Int32)), .val (.int (0 : Int32)), .val (.ref b46), .val (.int (1 : Int32))] [])) _
        refine XS.iconst X59.here hx rfl (hb hby at_130) ?_
        show Steps p.tables e below (T59.setTop (mkF m 131 #[.val (.int p1), .val (.int p2), .val (.int p3), .val (.int (p1 &&& (2147483647 : Int32))), .val (.int (0 : Int32)), .val (.int (0 : Int32)), .val (.ref b46), .val (.int (1 : Int32))] [(.int (1 : Int32))])) _
        refine XS.goto X59.here hx rfl (pc0 := 131) (pc' := 135) rfl (hb hby at_131) (by decide) (by decide) ?_
        show Steps p.tables e below (T59.setTop (mkF m 135 #[.val (.int p1), .val (.int p2), .val (.int p3), .val (.int (p1 &&& (2147483647 : Int32))), .val (.int (0 : Int32)), .val (.int (0 : Int32)), .val (.ref b46), .val (.int (1 : Int32))] [(.int (1 : Int32))])) _
        refine XS.istore X59.here hx rfl (hb hby at_135) rfl (l' := #[.val (.int p1), .val (.int p2), .val (.int p3), .val (.int (p1 &&& (2147483647 : Int32))), .val (.int (0 : Int32)), .val (.int (0 : Int32)), .val (.ref b46), .val (.int (1 : Int32))]) rfl ?_
        show Steps p.tables e below (T59.setTop (mkF m 137 #[.val (.int p1), .val (.int p2), .val (.int p3), .val (.int (p1 &&& (2147483647 : Int32))), .val (.int (0 : Int32)), .val (.int (0 : Int32)), .val (.ref b46), .val (.int (1 : Int32))] [])) _
        refine XS.iload X59.here hx rfl (hb hby at_137) rfl ?_
        exact kt
      obtain ⟨fs, hr, hrun, hended, hW, hsame⟩ := X59.leave (v := some (.int (1 : Int32))) (fun h => by rw [Bd.returns] at h; cases h)
      refine ⟨_, _, pre60 _ ?_, hrun, hended, _, _, rfl, ?_, ⟨_, rfl⟩, hW, hsame.mono (by decide) (by decide)⟩
      · show Steps p.tables e below (T59.setTop (mkF m 139 #[.val (.int p1), .val (.int p2), .val (.int p3), .val (.int (p1 &&& (2147483647 : Int32))), .val (.int (0 : Int32)), .val (.int (0 : Int32)), .val (.ref b46), .val (.int (1 : Int32))] [(.int (1 : Int32))])) _
        exact retN X59 hx (t := .boolean) Bd.returns (by simp) (hb hby at_139) hr
      · show Q0 Z p1 p2 p3 h0 n0 _ T59.heap _
        rw [e59]
        exact ⟨rfl, N59⟩
    · obtain ⟨T61, h61, X61, e61, E61, A61, D61, -, st61⟩ := newO X0 hx hZ hown (hw _ (List.mem_of_getElem? (i := 1) rfl)) (hw _ (List.mem_of_getElem? (i := 2) rfl)) (hw _ (List.mem_of_getElem? (i := 3) rfl)) e0 (g := (mkF m 31 #[.val (.int p1), .val (.int p2), .val (.int p3), .val (.int (p1 &&& (2147483647 : Int32))), .val (.int (0 : Int32)), .val (.int (1 : Int32)), .unset, .unset] [])) rfl (hb hby at_31) (by decide) (by decide)
      obtain ⟨b61, g61⟩ : ∃ z, z = h0.size := ⟨_, rfl⟩
      rw [← g61] at A61 D61 st61
      have g_b61 : n0 ≤ b61 := Nat.le_trans Z0 (Nat.le_of_eq g61.symm)
      have sz_b61 : h0.size ≤ b61 := Nat.le_trans (Keep.refl h0 []).1 (Nat.le_of_eq g61.symm)
      have K61 : Keep h0 h61 [] := (Keep.refl h0 []).ext E61
      have f62 : Fld Z h61 b61 "com/example/twotone/twotone/RedBlackTreeMap$Node" "key" "Ljava/lang/Object;" .null := D61 (Or.inr (hw _ (List.mem_of_getElem? (i := 11) rfl))) (ty := (.object "java/lang/Object")) (by decide)
      have f63 : Fld Z h61 b61 "com/example/twotone/twotone/RedBlackTreeMap$Node" "value" "Ljava/lang/Object;" .null := D61 (Or.inl (hw _ (List.mem_of_getElem? (i := 13) rfl))) (ty := (.object "java/lang/Object")) (by decide)
      have f64 : Fld Z h61 b61 "com/example/twotone/twotone/RedBlackTreeMap$Node" "countAndColour" "I" (.int (0 : Int32)) := D61 (Or.inl (hw _ (List.mem_of_getElem? (i := 15) rfl))) (ty := .int) (by decide)
      obtain ⟨_, _, ⟨T65, L65, k65, n65⟩, -, X65, ⟨Lc65, hQ65, l65, y65, z65⟩, st65⟩ := X61.specialBack hx (y := (⟨"com/example/twotone/twotone/RedBlackTreeMap$Node", "<init>", "(Ljava/lang/Object;Ljava/lang/Object;Z)V"⟩ : MethodName)) rfl hown (mvT hZ (hw _ (List.mem_of_getElem? (i := 4) rfl))) (mvT hZ (hw _ (List.mem_of_getElem? (i := 5) rfl))) (mvT hZ (hw _ (List.mem_of_getElem? (i := 6) rfl))) (by decide) (backOf (W := 1) (rm1 l Z a0 hw [] b61 (0 : Int32) h61 n0 (Nat.le_trans Z0 E61.1) f62 f63 f64 A61 g_b61) hZ (hw _ (List.mem_of_getElem? (i := 6) rfl)) (hw _ (List.mem_of_getElem? (i := 3) rfl)) (by decide) (by decide)) (g := (mkF m 39 #[.val (.int p1), .val (.int p2), .val (.int p3), .val (.int (p1 &&& (2147483647 : Int32))), .val (.int (0 : Int32)), .val (.int (1 : Int32)), .unset, .unset] [(.int (0 : Int32)), .null, .null, (.ref b61), (.ref b61)])) rfl (by rw [hml]; rfl) (Steps.refl _) (a := b61) (argsL := [.null, .null, (.int (0 : Int32))]) (rest := [(.ref b61)]) (lenOf pd_0 rfl) rfl (by show 2 * 0 + _ ≤ _; exact Nat.le_of_eq rfl) (hb hby at_39) (fun _ _ => ⟨rfl, e61, (by decide : 1 + 0 ≤ _), (by decide : 5 + 0 ≤ _)⟩)
      dsimp only [Pt.U, Pt.locs, Pt.cells, Pt.slots] at X65 l65 y65 z65 st65 hQ65
      subst l65 y65 z65
      obtain ⟨rfl, N65q, K65q, gE65, gF65⟩ := hQ65
      have N65 := Fr.app N0 N65q
      have K65 : Keep h0 T65.heap [] := K61.trans K65q (allS (Or.inr sz_b61) all0)
      have z66 : n0 ≤ T65.heap.size := (Nat.le_trans (Nat.le_trans Z0 E61.1) K65q.1)
      obtain ⟨cq67, kq67, q67a, q67b, q67c⟩ := isOf hZ rfl gE65
      obtain ⟨_, _, ⟨T67, L67, k67, n67⟩, -, X67, ⟨Lc67, hQ67, l67, y67, z67⟩, st67⟩ := X65.virtualBack hx (y := (⟨"com/example/twotone/twotone/RedBlackTreeMap$Node", "setCount", "(I)V"⟩ : MethodName)) (z := (⟨"com/example/twotone/twotone/RedBlackTreeMap$Node", "setCount", "(I)V"⟩ : MethodName)) hown (mvT hZ (hw _ (List.mem_of_getElem? (i := 16) rfl))) (mvT hZ (hw _ (List.mem_of_getElem? (i := 17) rfl))) (notFace_of_selects (args := #[]) (mvT hZ (hw _ (List.mem_of_getElem? (i := 19) rfl)))) (mvT hZ (hw _ (List.mem_of_getElem? (i := 19) rfl))) (mvT hZ (hw _ (List.mem_of_getElem? (i := 18) rfl))) (by decide) (backOf (W := 0) (rm3 l Z a0 hw [] b61 (p1 &&& (2147483647 : Int32)) (own_cc0 (0 : Int32)) T65.heap n0 z66 gF65 gE65 g_b61) hZ (hw _ (List.mem_of_getElem? (i := 20) rfl)) (hw _ (List.mem_of_getElem? (i := 3) rfl)) (by decide) (by decide)) q67a q67c (g := (mkF m 47 #[.val (.int p1), .val (.int p2), .val (.int p3), .val (.int (p1 &&& (2147483647 : Int32))), .val (.int (0 : Int32)), .val (.int (1 : Int32)), .val (.ref b61), .unset] [(.int (p1 &&& (2147483647 : Int32))), (.ref b61)])) rfl (by rw [hml]; rfl) (Steps.refl _) (argsL := [(.int (p1 &&& (2147483647 : Int32)))]) (rest := []) (lenOf pd_1 rfl) rfl (by show 2 * 0 + _ ≤ _; exact Nat.le_of_eq rfl) (hb hby at_47) (fun _ _ => ⟨rfl, rfl, (by decide : 1 + 0 ≤ _), (by decide : 5 + 0 ≤ _)⟩)
      dsimp only [Pt.U, Pt.locs, Pt.cells, Pt.slots] at X67 l67 y67 z67 st67 hQ67
      subst l67 y67 z67
      obtain ⟨rfl, N67q, K67q, gE67, gF67⟩ := hQ67
      have N67 := Fr.app N65 N67q
      have K67 : Keep h0 T67.heap [] := K65.trans K67q (allS (Or.inr sz_b61) all0)
      obtain ⟨cq68, kq68, q68a, q68b, q68c⟩ := isOf hZ rfl gE67
      obtain ⟨_, _, ⟨T68, L68, k68, n68⟩, -, X68, ⟨Lc68, hQ68, l68, y68, z68⟩, st68⟩ := X67.virtualBack hx (y := (⟨"com/example/twotone/twotone/RedBlackTreeMap$Node", "setRed", "(Z)V"⟩ : MethodName)) (z := (⟨"com/example/twotone/twotone/RedBlackTreeMap$Node", "setRed", "(Z)V"⟩ : MethodName)) hown (mvT hZ (hw _ (List.mem_of_getElem? (i := 21) rfl))) (mvT hZ (hw _ (List.mem_of_getElem? (i := 22) rfl))) (notFace_of_selects (args := #[]) (mvT hZ (hw _ (List.mem_of_getElem? (i := 24) rfl)))) (mvT hZ (hw _ (List.mem_of_getElem? (i := 24) rfl))) (mvT hZ (hw _ (List.mem_of_getElem? (i := 23) rfl))) (by decide) (backOf (W := 0) (rm4 l Z a0 hw [] b61 (1 : Int32) (own_setCount (own_cc0 (0 : Int32)) (p1 &&& (2147483647 : Int32))) T67.heap n0 (Nat.le_trans z66 K67q.1) gF67 gE67 g_b61) hZ (hw _ (List.mem_of_getElem? (i := 25) rfl)) (hw _ (List.mem_of_getElem? (i := 3) rfl)) (by decide) (by decide)) q68a q68c (g := (mkF m 54 #[.val (.int p1), .val (.int p2), .val (.int p3), .val (.int (p1 &&& (2147483647 : Int32))), .val (.int (0 : Int32)), .val (.int (1 : Int32)), .val (.ref b61), .unset] [(.int (1 : Int32)), (.ref b61)])) rfl (by rw [hml]; rfl) (Steps.refl _) (argsL := [(.int (1 : Int32))]) (rest := []) (lenOf pd_2 rfl) rfl (by show 2 * 0 + _ ≤ _; exact Nat.le_of_eq rfl) (hb hby at_54) (fun _ _ => ⟨rfl, rfl, (by decide : 1 + 0 ≤ _), (by decide : 5 + 0 ≤ _)⟩)
      dsimp only [Pt.U, Pt.locs, Pt.cells, Pt.slots] at X68 l68 y68 z68 st68 hQ68
      subst l68 y68 z68
      obtain ⟨rfl, N68q, K68q, gE68, gF68⟩ := hQ68
      have N68 := Fr.app N67 N68q
      have K68 : Keep h0 T68.heap [] := K67.trans K68q (allS (Or.inr sz_b61) all0)
      have z69 : n0 ≤ T68.heap.size := (Nat.le_trans (Nat.le_trans z66 K67q.1) K68q.1)
      obtain ⟨cq70, kq70, q70a, q70b, q70c⟩ := isOf hZ rfl gE68
      obtain ⟨_, _, ⟨T70, L70, k70, n70⟩, -, X70, ⟨Lc70, hQ70, l70, y70, z70⟩, st70⟩ := X68.virtualBack hx (y := (⟨"com/example/twotone/twotone/RedBlackTreeMap$Node", "red", "()Z"⟩ : MethodName)) (z := (⟨"com/example/twotone/twotone/RedBlackTreeMap$Node", "red", "()Z"⟩ : MethodName)) hown (mvT hZ (hw _ (List.mem_of_getElem? (i := 26) rfl))) (mvT hZ (hw _ (List.mem_of_getElem? (i := 27) rfl))) (notFace_of_selects (args := #[]) (mvT hZ (hw _ (List.mem_of_getElem? (i := 29) rfl)))) (mvT hZ (hw _ (List.mem_of_getElem? (i := 29) rfl))) (mvT hZ (hw _ (List.mem_of_getElem? (i := 28) rfl))) (by decide) (backOf (W := 0) (rm5 l Z a0 hw [] b61 (own_setRed (own_setCount (own_cc0 (0 : Int32)) (p1 &&& (2147483647 : Int32))) (1 : Int32)) T68.heap n0 z69 gF68) hZ (hw _ (List.mem_of_getElem? (i := 30) rfl)) (hw _ (List.mem_of_getElem? (i := 3) rfl)) (by decide) (by decide)) q70a q70c (g := (mkF m 59 #[.val (.int p1), .val (.int p2), .val (.int p3), .val (.int (p1 &&& (2147483647 : Int32))), .val (.int (0 : Int32)), .val (.int (1 : Int32)), .val (.ref b61), .unset] [(.ref b61)])) rfl (by rw [hml]; rfl) (Steps.refl _) (argsL := []) (rest := []) (lenOf pd_3 rfl) rfl (by show 2 * 0 + _ ≤ _; exact Nat.le_of_eq rfl) (hb hby at_59) (fun _ _ => ⟨rfl, rfl, (by decide : 1 + 0 ≤ _), (by decide : 5 + 0 ≤ _)⟩)
      dsimp only [Pt.U, Pt.locs, Pt.cells, Pt.slots] at X70 l70 y70 z70 st70 hQ70
      subst l70 y70 z70
      obtain ⟨rfl, N70q, e70⟩ := hQ70
      have N70 := Fr.app N68 N70q
      obtain ⟨cq71, kq71, q71a, q71b, q71c⟩ := isOf hZ e70 gE68
      obtain ⟨_, _, ⟨T71, L71, k71, n71⟩, -, X71, ⟨Lc71, hQ71, l71, y71, z71⟩, st71⟩ := X70.virtualBack hx (y := (⟨"com/example/twotone/twotone/RedBlackTreeMap$Node", "count", "()I"⟩ : MethodName)) (z := (⟨"com/example/twotone/twotone/RedBlackTreeMap$Node", "count", "()I"⟩ : MethodName)) hown (mvT hZ (hw _ (List.mem_of_getElem? (i := 31) rfl))) (mvT hZ (hw _ (List.mem_of_getElem? (i := 32) rfl))) (notFace_of_selects (args := #[]) (mvT hZ (hw _ (List.mem_of_getElem? (i := 34) rfl)))) (mvT hZ (hw _ (List.mem_of_getElem? (i := 34) rfl))) (mvT hZ (hw _ (List.mem_of_getElem? (i := 33) rfl))) (by decide) (backOf (W := 0) (rm6 l Z a0 hw [] b61 (own_setRed (own_setCount (own_cc0 (0 : Int32)) (p1 &&& (2147483647 : Int32))) (1 : Int32)) T68.heap n0 z69 gF68) hZ (hw _ (List.mem_of_getElem? (i := 35) rfl)) (hw _ (List.mem_of_getElem? (i := 3) rfl)) (by decide) (by decide)) q71a q71c (g := (mkF m 69 #[.val (.int p1), .val (.int p2), .val (.int p3), .val (.int (p1 &&& (2147483647 : Int32))), .val (.int (0 : Int32)), .val (.int (1 : Int32)), .val (.ref b61), .unset] [(.ref b61)])) rfl (by rw [hml]; rfl) (Steps.refl _) (argsL := []) (rest := []) (lenOf pd_4 rfl) rfl (by show 2 * 0 + _ ≤ _; exact Nat.le_of_eq rfl) (hb hby at_69) (fun _ _ => ⟨rfl, e70, (by decide : 1 + 0 ≤ _), (by decide : 5 + 0 ≤ _)⟩)
      dsimp only [Pt.U, Pt.locs, Pt.cells, Pt.slots] at X71 l71 y71 z71 st71 hQ71
      subst l71 y71 z71
      obtain ⟨rfl, N71q, e71⟩ := hQ71
      have N71 := Fr.app N70 N71q
      obtain ⟨cq72, kq72, q72a, q72b, q72c⟩ := isOf hZ e71 gE68
      obtain ⟨_, _, ⟨T72, L72, k72, n72⟩, -, X72, ⟨Lc72, hQ72, l72, y72, z72⟩, st72⟩ := X71.virtualBack hx (y := (⟨"com/example/twotone/twotone/RedBlackTreeMap$Node", "setRed", "(Z)V"⟩ : MethodName)) (z := (⟨"com/example/twotone/twotone/RedBlackTreeMap$Node", "setRed", "(Z)V"⟩ : MethodName)) hown (mvT hZ (hw _ (List.mem_of_getElem? (i := 21) rfl))) (mvT hZ (hw _ (List.mem_of_getElem? (i := 22) rfl))) (notFace_of_selects (args := #[]) (mvT hZ (hw _ (List.mem_of_getElem? (i := 24) rfl)))) (mvT hZ (hw _ (List.mem_of_getElem? (i := 24) rfl))) (mvT hZ (hw _ (List.mem_of_getElem? (i := 23) rfl))) (by decide) (backOf (W := 0) (rm4 l Z a0 hw [] b61 (0 : Int32) (own_setRed (own_setCount (own_cc0 (0 : Int32)) (p1 &&& (2147483647 : Int32))) (1 : Int32)) T68.heap n0 z69 gF68 gE68 g_b61) hZ (hw _ (List.mem_of_getElem? (i := 25) rfl)) (hw _ (List.mem_of_getElem? (i := 3) rfl)) (by decide) (by decide)) q72a q72c (g := (mkF m 95 #[.val (.int p1), .val (.int p2), .val (.int p3), .val (.int (p1 &&& (2147483647 : Int32))), .val (.int (0 : Int32)), .val (.int (1 : Int32)), .val (.ref b61), .val (.int (1 : Int32))] [(.int (0 : Int32)), (.ref b61)])) rfl (by rw [hml]; rfl) (Steps.refl _) (argsL := [(.int (0 : Int32))]) (rest := []) (lenOf pd_2 rfl) rfl (by show 2 * 0 + _ ≤ _; exact Nat.le_of_eq rfl) (hb hby at_95) (fun _ _ => ⟨rfl, e71, (by decide : 1 + 0 ≤ _), (by decide : 5 + 0 ≤ _)⟩)
      dsimp only [Pt.U, Pt.locs, Pt.cells, Pt.slots] at X72 l72 y72 z72 st72 hQ72
      subst l72 y72 z72
      obtain ⟨rfl, N72q, K72q, gE72, gF72⟩ := hQ72
      have N72 := Fr.app N71 N72q
      have K72 : Keep h0 T72.heap [] := K68.trans K72q (allS (Or.inr sz_b61) all0)
      obtain ⟨cq73, kq73, q73a, q73b, q73c⟩ := isOf hZ rfl gE72
      obtain ⟨_, _, ⟨T73, L73, k73, n73⟩, -, X73, ⟨Lc73, hQ73, l73, y73, z73⟩, st73⟩ := X72.virtualBack hx (y := (⟨"com/example/twotone/twotone/RedBlackTreeMap$Node", "red", "()Z"⟩ : MethodName)) (z := (⟨"com/example/twotone/twotone/RedBlackTreeMap$Node", "red", "()Z"⟩ : MethodName)) hown (mvT hZ (hw _ (List.mem_of_getElem? (i := 26) rfl))) (mvT hZ (hw _ (List.mem_of_getElem? (i := 27) rfl))) (notFace_of_selects (args := #[]) (mvT hZ (hw _ (List.mem_of_getElem? (i := 29) rfl)))) (mvT hZ (hw _ (List.mem_of_getElem? (i := 29) rfl))) (mvT hZ (hw _ (List.mem_of_getElem? (i := 28) rfl))) (by decide) (backOf (W := 0) (rm5 l Z a0 hw [] b61 (own_setRed (own_setRed (own_setCount (own_cc0 (0 : Int32)) (p1 &&& (2147483647 : Int32))) (1 : Int32)) (0 : Int32)) T72.heap n0 (Nat.le_trans z69 K72q.1) gF72) hZ (hw _ (List.mem_of_getElem? (i := 30) rfl)) (hw _ (List.mem_of_getElem? (i := 3) rfl)) (by decide) (by decide)) q73a q73c (g := (mkF m 105 #[.val (.int p1), .val (.int p2), .val (.int p3), .val (.int (p1 &&& (2147483647 : Int32))), .val (.int (0 : Int32)), .val (.int (1 : Int32)), .val (.ref b61), .val (.int (1 : Int32))] [(.ref b61)])) rfl (by rw [hml]; rfl) (Steps.refl _) (argsL := []) (rest := []) (lenOf pd_3 rfl) rfl (by show 2 * 0 + _ ≤ _; exact Nat.le_of_eq rfl) (hb hby at_105) (fun _ _ => ⟨rfl, rfl, (by decide : 1 + 0 ≤ _), (by decide : 5 + 0 ≤ _)⟩)
      dsimp only [Pt.U, Pt.locs, Pt.cells, Pt.slots] at X73 l73 y73 z73 st73 hQ73
      subst l73 y73 z73
      obtain ⟨rfl, N73q, e73⟩ := hQ73
      have N73 := Fr.app N72 N73q
      obtain ⟨cq74, kq74, q74a, q74b, q74c⟩ := isOf hZ e73 gE72
      obtain ⟨_, _, ⟨T74, L74, k74, n74⟩, -, X74, ⟨Lc74, hQ74, l74, y74, z74⟩, st74⟩ := X73.virtualBack hx (y := (⟨"com/example/twotone/twotone/RedBlackTreeMap$Node", "count", "()I"⟩ : MethodName)) (z := (⟨"com/example/twotone/twotone/RedBlackTreeMap$Node", "count", "()I"⟩ : MethodName)) hown (mvT hZ (hw _ (List.mem_of_getElem? (i := 31) rfl))) (mvT hZ (hw _ (List.mem_of_getElem? (i := 32) rfl))) (notFace_of_selects (args := #[]) (mvT hZ (hw _ (List.mem_of_getElem? (i := 34) rfl)))) (mvT hZ (hw _ (List.mem_of_getElem? (i := 34) rfl))) (mvT hZ (hw _ (List.mem_of_getElem? (i := 33) rfl))) (by decide) (backOf (W := 0) (rm6 l Z a0 hw [] b61 (own_setRed (own_setRed (own_setCount (own_cc0 (0 : Int32)) (p1 &&& (2147483647 : Int32))) (1 : Int32)) (0 : Int32)) T72.heap n0 (Nat.le_trans z69 K72q.1) gF72) hZ (hw _ (List.mem_of_getElem? (i := 35) rfl)) (hw _ (List.mem_of_getElem? (i := 3) rfl)) (by decide) (by decide)) q74a q74c (g := (mkF m 123 #[.val (.int p1), .val (.int p2), .val (.int p3), .val (.int (p1 &&& (2147483647 : Int32))), .val (.int (0 : Int32)), .val (.int (1 : Int32)), .val (.ref b61), .val (.int (1 : Int32))] [(.ref b61)])) rfl (by rw [hml]; rfl) (Steps.refl _) (argsL := []) (rest := []) (lenOf pd_4 rfl) rfl (by show 2 * 0 + _ ≤ _; exact Nat.le_of_eq rfl) (hb hby at_123) (fun _ _ => ⟨rfl, e73, (by decide : 1 + 0 ≤ _), (by decide : 5 + 0 ≤ _)⟩)
      dsimp only [Pt.U, Pt.locs, Pt.cells, Pt.slots] at X74 l74 y74 z74 st74 hQ74
      subst l74 y74 z74
      obtain ⟨rfl, N74q, e74⟩ := hQ74
      have N74 := Fr.app N73 N74q
      have pre75 : ∀ t, Steps p.tables e below (T74.setTop (mkF m 139 #[.val (.int p1), .val (.int p2), .val (.int p3), .val (.int (p1 &&& (2147483647 : Int32))), .val (.int (0 : Int32)), .val (.int (1 : Int32)), .val (.ref b61), .val (.int (1 : Int32))] [(.int (1 : Int32))])) t → Steps p.tables e below (s₁.setTop (entryFrame m #[(.int p1), (.int p2), (.int p3)] maxLocals)) t := by
        intro t kt
        refine pre44 _ ?_
        show Steps p.tables e below (s₁.setTop (mkF m 21 #[.val (.int p1), .val (.int p2), .val (.int p3), .val (.int (p1 &&& (2147483647 : Int32))), .val (.int (0 : Int32)), .unset, .unset, .unset] [(.int (p3 &&& (1 : Int32)))])) _
        refine XS.ifNo X0.here hx rfl (hb hby at_21) rfl ((if0 _ _).trans (feq hc21_45).1) ?_
        show Steps p.tables e below (s₁.setTop (mkF m 24 #[.val (.int p1), .val (.int p2), .val (.int p3), .val (.int (p1 &&& (2147483647 : Int32))), .val (.int (0 : Int32)), .unset, .unset, .unset] [])) _
        refine XS.iconst X0.here hx rfl (hb hby at_24) ?_
        show Steps p.tables e below (s₁.setTop (mkF m 25 #[.val (.int p1), .val (.int p2), .val (.int p3), .val (.int (p1 &&& (2147483647 : Int32))), .val (.int (0 : Int32)), .unset, .unset, .unset] [(.int (1 : Int32))])) _
        refine XS.goto X0.here hx rfl (pc0 := 25) (pc' := 29) rfl (hb hby at_25) (by decide) (by decide) ?_
        show Steps p.tables e below (s₁.setTop (mkF m 29 #[.val (.int p1), .val (.int p2), .val (.int p3), .val (.int (p1 &&& (2147483647 : Int32))), .val (.int (0 : Int32)), .unset, .unset, .unset] [(.int (1 : Int32))])) _
        refine XS.istore X0.here hx rfl (hb hby at_29) rfl (l' := #[.val (.int p1), .val (.int p2), .val (.int p3), .val (.int (p1 &&& (2147483647 : Int32))), .val (.int (0 : Int32)), .val (.int (1 : Int32)), .unset, .unset]) rfl ?_
        show Steps p.tables e below (s₁.setTop (mkF m 31 #[.val (.int p1), .val (.int p2), .val (.int p3), .val (.int (p1 &&& (2147483647 : Int32))), .val (.int (0 : Int32)), .val (.int (1 : Int32)), .unset, .unset] [])) _
        refine st61 _ ?_
        show Steps p.tables e below (T61.setTop (mkF m 34 #[.val (.int p1), .val (.int p2), .val (.int p3), .val (.int (p1 &&& (2147483647 : Int32))), .val (.int (0 : Int32)), .val (.int (1 : Int32)), .unset, .unset] [(.ref b61)])) _
        refine XS.dup X61.here hx rfl (hb hby at_34) rfl rfl ?_
        show Steps p.tables e below (T61.setTop (mkF m 35 #[.val (.int p1), .val (.int p2), .val (.int p3), .val (.int (p1 &&& (2147483647 : Int32))), .val (.int (0 : Int32)), .val (.int (1 : Int32)), .unset, .unset] [(.ref b61), (.ref b61)])) _
        refine XS.aconstNull X61.here hx rfl (hb hby at_35) ?_
        show Steps p.tables e below (T61.setTop (mkF m 36 #[.val (.int p1), .val (.int p2), .val (.int p3), .val (.int (p1 &&& (2147483647 : Int32))), .val (.int (0 : Int32)), .val (.int (1 : Int32)), .unset, .unset] [.null, (.ref b61), (.ref b61)])) _
        refine XS.aconstNull X61.here hx rfl (hb hby at_36) ?_
        show Steps p.tables e below (T61.setTop (mkF m 37 #[.val (.int p1), .val (.int p2), .val (.int p3), .val (.int (p1 &&& (2147483647 : Int32))), .val (.int (0 : Int32)), .val (.int (1 : Int32)), .unset, .unset] [.null, .null, (.ref b61), (.ref b61)])) _
        refine XS.iload X61.here hx rfl (hb hby at_37) rfl ?_
        show Steps p.tables e below (T61.setTop (mkF m 39 #[.val (.int p1), .val (.int p2), .val (.int p3), .val (.int (p1 &&& (2147483647 : Int32))), .val (.int (0 : Int32)), .val (.int (1 : Int32)), .unset, .unset] [(.int (0 : Int32)), .null, .null, (.ref b61), (.ref b61)])) _
        refine st65.trans ?_
        show Steps p.tables e below (T65.setTop (mkF m 42 #[.val (.int p1), .val (.int p2), .val (.int p3), .val (.int (p1 &&& (2147483647 : Int32))), .val (.int (0 : Int32)), .val (.int (1 : Int32)), .unset, .unset] [(.ref b61)])) _
        refine XS.astore X65.here hx rfl (hb hby at_42) rfl rfl (l' := #[.val (.int p1), .val (.int p2), .val (.int p3), .val (.int (p1 &&& (2147483647 : Int32))), .val (.int (0 : Int32)), .val (.int (1 : Int32)), .val (.ref b61), .unset]) rfl ?_
        show Steps p.tables e below (T65.setTop (mkF m 44 #[.val (.int p1), .val (.int p2), .val (.int p3), .val (.int (p1 &&& (2147483647 : Int32))), .val (.int (0 : Int32)), .val (.int (1 : Int32)), .val (.ref b61), .unset] [])) _
        refine XS.aload X65.here hx rfl (hb hby at_44) rfl rfl ?_
        show Steps p.tables e below (T65.setTop (mkF m 46 #[.val (.int p1), .val (.int p2), .val (.int p3), .val (.int (p1 &&& (2147483647 : Int32))), .val (.int (0 : Int32)), .val (.int (1 : Int32)), .val (.ref b61), .unset] [(.ref b61)])) _
        refine XS.iloadN X65.here hx rfl (hb hby at_46) rfl ?_
        show Steps p.tables e below (T65.setTop (mkF m 47 #[.val (.int p1), .val (.int p2), .val (.int p3), .val (.int (p1 &&& (2147483647 : Int32))), .val (.int (0 : Int32)), .val (.int (1 : Int32)), .val (.ref b61), .unset] [(.int (p1 &&& (2147483647 : Int32))), (.ref b61)])) _
        refine st67.trans ?_
        show Steps p.tables e below (T67.setTop (mkF m 50 #[.val (.int p1), .val (.int p2), .val (.int p3), .val (.int (p1 &&& (2147483647 : Int32))), .val (.int (0 : Int32)), .val (.int (1 : Int32)), .val (.ref b61), .unset] [])) _
        refine XS.aload X67.here hx rfl (hb hby at_50) rfl rfl ?_
        show Steps p.tables e below (T67.setTop (mkF m 52 #[.val (.int p1), .val (.int p2), .val (.int p3), .val (.int (p1 &&& (2147483647 : Int32))), .val (.int (0 : Int32)), .val (.int (1 : Int32)), .val (.ref b61), .unset] [(.ref b61)])) _
        refine XS.iload X67.here hx rfl (hb hby at_52) rfl ?_
        show Steps p.tables e below (T67.setTop (mkF m 54 #[.val (.int p1), .val (.int p2), .val (.int p3), .val (.int (p1 &&& (2147483647 : Int32))), .val (.int (0 : Int32)), .val (.int (1 : Int32)), .val (.ref b61), .unset] [(.int (1 : Int32)), (.ref b61)])) _
        refine st68.trans ?_
        show Steps p.tables e below (T68.setTop (mkF m 57 #[.val (.int p1), .val (.int p2), .val (.int p3), .val (.int (p1 &&& (2147483647 : Int32))), .val (.int (0 : Int32)), .val (.int (1 : Int32)), .val (.ref b61), .unset] [])) _
        refine XS.aload X68.here hx rfl (hb hby at_57) rfl rfl ?_
        show Steps p.tables e below (T68.setTop (mkF m 59 #[.val (.int p1), .val (.int p2), .val (.int p3), .val (.int (p1 &&& (2147483647 : Int32))), .val (.int (0 : Int32)), .val (.int (1 : Int32)), .val (.ref b61), .unset] [(.ref b61)])) _
        refine st70.trans ?_
        show Steps p.tables e below (T70.setTop (mkF m 62 #[.val (.int p1), .val (.int p2), .val (.int p3), .val (.int (p1 &&& (2147483647 : Int32))), .val (.int (0 : Int32)), .val (.int (1 : Int32)), .val (.ref b61), .unset] [(.int (own_red (own_setRed (own_setCount (own_cc0 (0 : Int32)) (p1 &&& (2147483647 : Int32))) (1 : Int32))))])) _
        refine XS.iload X70.here hx rfl (hb hby at_62) rfl ?_
        show Steps p.tables e below (T70.setTop (mkF m 64 #[.val (.int p1), .val (.int p2), .val (.int p3), .val (.int (p1 &&& (2147483647 : Int32))), .val (.int (0 : Int32)), .val (.int (1 : Int32)), .val (.ref b61), .unset] [(.int (1 : Int32)), (.int (own_red (own_setRed (own_setCount (own_cc0 (0 : Int32)) (p1 &&& (2147483647 : Int32))) (1 : Int32))))])) _
        refine XS.icmpNo X70.here hx rfl (hb hby at_64) rfl (teq (((own_redset _ _).trans (by decide)) : (own_red (own_setRed (own_setCount (own_cc0 (0 : Int32)) (p1 &&& (2147483647 : Int32))) (1 : Int32))) = (1 : Int32))).2 ?_
        show Steps p.tables e below (T70.setTop (mkF m 67 #[.val (.int p1), .val (.int p2), .val (.int p3), .val (.int (p1 &&& (2147483647 : Int32))), .val (.int (0 : Int32)), .val (.int (1 : Int32)), .val (.ref b61), .unset] [])) _
        refine XS.aload X70.here hx rfl (hb hby at_67) rfl rfl ?_
        show Steps p.tables e below (T70.setTop (mkF m 69 #[.val (.int p1), .val (.int p2), .val (.int p3), .val (.int (p1 &&& (2147483647 : Int32))), .val (.int (0 : Int32)), .val (.int (1 : Int32)), .val (.ref b61), .unset] [(.ref b61)])) _
        refine st71.trans ?_
        show Steps p.tables e below (T71.setTop (mkF m 72 #[.val (.int p1), .val (.int p2), .val (.int p3), .val (.int (p1 &&& (2147483647 : Int32))), .val (.int (0 : Int32)), .val (.int (1 : Int32)), .val (.ref b61), .unset] [(.int (own_count (own_setRed (own_setCount (own_cc0 (0 : Int32)) (p1 &&& (2147483647 : Int32))) (1 : Int32))))])) _
        refine XS.iloadN X71.here hx rfl (hb hby at_72) rfl ?_
        show Steps p.tables e below (T71.setTop (mkF m 73 #[.val (.int p1), .val (.int p2), .val (.int p3), .val (.int (p1 &&& (2147483647 : Int32))), .val (.int (0 : Int32)), .val (.int (1 : Int32)), .val (.ref b61), .unset] [(.int (p1 &&& (2147483647 : Int32))), (.int (own_count (own_setRed (own_setCount (own_cc0 (0 : Int32)) (p1 &&& (2147483647 : Int32))) (1 : Int32))))])) _
        refine XS.icmpNo X71.here hx rfl (hb hby at_73) rfl (teq (((own_cntset _ _).trans (own_cntcnt _ _)) : (own_count (own_setRed (own_setCount (own_cc0 (0 : Int32)) (p1 &&& (2147483647 : Int32))) (1 : Int32))) = (p1 &&& (2147483647 : Int32)))).2 ?_
        show Steps p.tables e below (T71.setTop (mkF m 76 #[.val (.int p1), .val (.int p2), .val (.int p3), .val (.int (p1 &&& (2147483647 : Int32))), .val (.int (0 : Int32)), .val (.int (1 : Int32)), .val (.ref b61), .unset] [])) _
        refine XS.iconst X71.here hx rfl (hb hby at_76) ?_
        show Steps p.tables e below (T71.setTop (mkF m 77 #[.val (.int p1), .val (.int p2), .val (.int p3), .val (.int (p1 &&& (2147483647 : Int32))), .val (.int (0 : Int32)), .val (.int (1 : Int32)), .val (.ref b61), .unset] [(.int (1 : Int32))])) _
        refine XS.goto X71.here hx rfl (pc0 := 77) (pc' := 81) rfl (hb hby at_77) (by decide) (by decide) ?_
        show Steps p.tables e below (T71.setTop (mkF m 81 #[.val (.int p1), .val (.int p2), .val (.int p3), .val (.int (p1 &&& (2147483647 : Int32))), .val (.int (0 : Int32)), .val (.int (1 : Int32)), .val (.ref b61), .unset] [(.int (1 : Int32))])) _
        refine XS.istore X71.here hx rfl (hb hby at_81) rfl (l' := #[.val (.int p1), .val (.int p2), .val (.int p3), .val (.int (p1 &&& (2147483647 : Int32))), .val (.int (0 : Int32)), .val (.int (1 : Int32)), .val (.ref b61), .val (.int (1 : Int32))]) rfl ?_
        show Steps p.tables e below (T71.setTop (mkF m 83 #[.val (.int p1), .val (.int p2), .val (.int p3), .val (.int (p1 &&& (2147483647 : Int32))), .val (.int (0 : Int32)), .val (.int (1 : Int32)), .val (.ref b61), .val (.int (1 : Int32))] [])) _
        refine XS.aload X71.here hx rfl (hb hby at_83) rfl rfl ?_
        show Steps p.tables e below (T71.setTop (mkF m 85 #[.val (.int p1), .val (.int p2), .val (.int p3), .val (.int (p1 &&& (2147483647 : Int32))), .val (.int (0 : Int32)), .val (.int (1 : Int32)), .val (.ref b61), .val (.int (1 : Int32))] [(.ref b61)])) _
        refine XS.iload X71.here hx rfl (hb hby at_85) rfl ?_
        show Steps p.tables e below (T71.setTop (mkF m 87 #[.val (.int p1), .val (.int p2), .val (.int p3), .val (.int (p1 &&& (2147483647 : Int32))), .val (.int (0 : Int32)), .val (.int (1 : Int32)), .val (.ref b61), .val (.int (1 : Int32))] [(.int (1 : Int32)), (.ref b61)])) _
        refine XS.ifYes X71.here hx rfl (pc0 := 87) (pc' := 94) rfl (hb hby at_87) rfl ((if0 _ _).trans (feq (by decide : ¬ ((1 : Int32) = (0 : Int32)))).2) (by decide) (by decide) ?_
        show Steps p.tables e below (T71.setTop (mkF m 94 #[.val (.int p1), .val (.int p2), .val (.int p3), .val (.int (p1 &&& (2147483647 : Int32))), .val (.int (0 : Int32)), .val (.int (1 : Int32)), .val (.ref b61), .val (.int (1 : Int32))] [(.ref b61)])) _
        refine XS.iconst X71.here hx rfl (hb hby at_94) ?_
        show Steps p.tables e below (T71.setTop (mkF m 95 #[.val (.int p1), .val (.int p2), .val (.int p3), .val (.int (p1 &&& (2147483647 : Int32))), .val (.int (0 : Int32)), .val (.int (1 : Int32)), .val (.ref b61), .val (.int (1 : Int32))] [(.int (0 : Int32)), (.ref b61)])) _
        refine st72.trans ?_
        show Steps p.tables e below (T72.setTop (mkF m 98 #[.val (.int p1), .val (.int p2), .val (.int p3), .val (.int (p1 &&& (2147483647 : Int32))), .val (.int (0 : Int32)), .val (.int (1 : Int32)), .val (.ref b61), .val (.int (1 : Int32))] [])) _
        refine XS.iload X72.here hx rfl (hb hby at_98) rfl ?_
        show Steps p.tables e below (T72.setTop (mkF m 100 #[.val (.int p1), .val (.int p2), .val (.int p3), .val (.int (p1 &&& (2147483647 : Int32))), .val (.int (0 : Int32)), .val (.int (1 : Int32)), .val (.ref b61), .val (.int (1 : Int32))] [(.int (1 : Int32))])) _
        refine XS.ifNo X72.here hx rfl (hb hby at_100) rfl ((if0 _ _).trans (feq (by decide : ¬ ((1 : Int32) = (0 : Int32)))).1) ?_
        show Steps p.tables e below (T72.setTop (mkF m 103 #[.val (.int p1), .val (.int p2), .val (.int p3), .val (.int (p1 &&& (2147483647 : Int32))), .val (.int (0 : Int32)), .val (.int (1 : Int32)), .val (.ref b61), .val (.int (1 : Int32))] [])) _
        refine XS.aload X72.here hx rfl (hb hby at_103) rfl rfl ?_
        show Steps p.tables e below (T72.setTop (mkF m 105 #[.val (.int p1), .val (.int p2), .val (.int p3), .val (.int (p1 &&& (2147483647 : Int32))), .val (.int (0 : Int32)), .val (.int (1 : Int32)), .val (.ref b61), .val (.int (1 : Int32))] [(.ref b61)])) _
        refine st73.trans ?_
        show Steps p.tables e below (T73.setTop (mkF m 108 #[.val (.int p1), .val (.int p2), .val (.int p3), .val (.int (p1 &&& (2147483647 : Int32))), .val (.int (0 : Int32)), .val (.int (1 : Int32)), .val (.ref b61), .val (.int (1 : Int32))] [(.int (own_red (own_setRed (own_setRed (own_setCount (own_cc0 (0 : Int32)) (p1 &&& (2147483647 : Int32))) (1 : Int32)) (0 : Int32))))])) _
        refine XS.iload X73.here hx rfl (hb hby at_108) rfl ?_
        show Steps p.tables e below (T73.setTop (mkF m 110 #[.val (.int p1), .val (.int p2), .val (.int p3), .val (.int (p1 &&& (2147483647 : Int32))), .val (.int (0 : Int32)), .val (.int (1 : Int32)), .val (.ref b61), .val (.int (1 : Int32))] [(.int (1 : Int32)), (.int (own_red (own_setRed (own_setRed (own_setCount (own_cc0 (0 : Int32)) (p1 &&& (2147483647 : Int32))) (1 : Int32)) (0 : Int32))))])) _
        refine XS.ifYes X73.here hx rfl (pc0 := 110) (pc' := 117) rfl (hb hby at_110) rfl ((if0 _ _).trans (feq (by decide : ¬ ((1 : Int32) = (0 : Int32)))).2) (by decide) (by decide) ?_
        show Steps p.tables e below (T73.setTop (mkF m 117 #[.val (.int p1), .val (.int p2), .val (.int p3), .val (.int (p1 &&& (2147483647 : Int32))), .val (.int (0 : Int32)), .val (.int (1 : Int32)), .val (.ref b61), .val (.int (1 : Int32))] [(.int (own_red (own_setRed (own_setRed (own_setCount (own_cc0 (0 : Int32)) (p1 &&& (2147483647 : Int32))) (1 : Int32)) (0 : Int32))))])) _
        refine XS.iconst X73.here hx rfl (hb hby at_117) ?_
        show Steps p.tables e below (T73.setTop (mkF m 118 #[.val (.int p1), .val (.int p2), .val (.int p3), .val (.int (p1 &&& (2147483647 : Int32))), .val (.int (0 : Int32)), .val (.int (1 : Int32)), .val (.ref b61), .val (.int (1 : Int32))] [(.int (0 : Int32)), (.int (own_red (own_setRed (own_setRed (own_setCount (own_cc0 (0 : Int32)) (p1 &&& (2147483647 : Int32))) (1 : Int32)) (0 : Int32))))])) _
        refine XS.icmpNo X73.here hx rfl (hb hby at_118) rfl (teq (((own_redset _ _).trans (by decide)) : (own_red (own_setRed (own_setRed (own_setCount (own_cc0 (0 : Int32)) (p1 &&& (2147483647 : Int32))) (1 : Int32)) (0 : Int32))) = (0 : Int32))).2 ?_
        show Steps p.tables e below (T73.setTop (mkF m 121 #[.val (.int p1), .val (.int p2), .val (.int p3), .val (.int (p1 &&& (2147483647 : Int32))), .val (.int (0 : Int32)), .val (.int (1 : Int32)), .val (.ref b61), .val (.int (1 : Int32))] [])) _
        refine XS.aload X73.here hx rfl (hb hby at_121) rfl rfl ?_
        show Steps p.tables e below (T73.setTop (mkF m 123 #[.val (.int p1), .val (.int p2), .val (.int p3), .val (.int (p1 &&& (2147483647 : Int32))), .val (.int (0 : Int32)), .val (.int (1 : Int32)), .val (.ref b61), .val (.int (1 : Int32))] [(.ref b61)])) _
        refine st74.trans ?_
        show Steps p.tables e below (T74.setTop (mkF m 126 #[.val (.int p1), .val (.int p2), .val (.int p3), .val (.int (p1 &&& (2147483647 : Int32))), .val (.int (0 : Int32)), .val (.int (1 : Int32)), .val (.ref b61), .val (.int (1 : Int32))] [(.int (own_count (own_setRed (own_setRed (own_setCount (own_cc0 (0 : Int32)) (p1 &&& (2147483647 : Int32))) (1 : Int32)) (0 : Int32))))])) _
        refine XS.iloadN X74.here hx rfl (hb hby at_126) rfl ?_
        show Steps p.tables e below (T74.setTop (mkF m 127 #[.val (.int p1), .val (.int p2), .val (.int p3), .val (.int (p1 &&& (2147483647 : Int32))), .val (.int (0 : Int32)), .val (.int (1 : Int32)), .val (.ref b61), .val (.int (1 : Int32))] [(.int (p1 &&& (2147483647 : Int32))), (.int (own_count (own_setRed (own_setRed (own_setCount (own_cc0 (0 : Int32)) (p1 &&& (2147483647 : Int32))) (1 : Int32)) (0 : Int32))))])) _
        refine XS.icmpNo X74.here hx rfl (hb hby at_127) rfl (teq (((own_cntset _ _).trans ((own_cntset _ _).trans (own_cntcnt _ _))) : (own_count (own_setRed (own_setRed (own_setCount (own_cc0 (0 : Int32)) (p1 &&& (2147483647 : Int32))) (1 : Int32)) (0 : Int32))) = (p1 &&& (2147483647 : Int32)))).2 ?_
        show Steps p.tables e below (T74.setTop (mkF m 130 #[.val (.int p1), .val (.int p2), .val (.int p3), .val (.int (p1 &&& (2147483647 : Int32))), .val (.int (0 : Int32)), .val (.int (1 : Int32)), .val (.ref b61), .val (.int (1 : Int32))] [])) _
        refine XS.iconst X74.here hx rfl (hb hby at_130) ?_
        show Steps p.tables e below (T74.setTop (mkF m 131 #[.val (.int p1), .val (.int p2), .val (.int p3), .val (.int (p1 &&& (2147483647 : Int32))), .val (.int (0 : Int32)), .val (.int (1 : Int32)), .val (.ref b61), .val (.int (1 : Int32))] [(.int (1 : Int32))])) _
        refine XS.goto X74.here hx rfl (pc0 := 131) (pc' := 135) rfl (hb hby at_131) (by decide) (by decide) ?_
        show Steps p.tables e below (T74.setTop (mkF m 135 #[.val (.int p1), .val (.int p2), .val (.int p3), .val (.int (p1 &&& (2147483647 : Int32))), .val (.int (0 : Int32)), .val (.int (1 : Int32)), .val (.ref b61), .val (.int (1 : Int32))] [(.int (1 : Int32))])) _
        refine XS.istore X74.here hx rfl (hb hby at_135) rfl (l' := #[.val (.int p1), .val (.int p2), .val (.int p3), .val (.int (p1 &&& (2147483647 : Int32))), .val (.int (0 : Int32)), .val (.int (1 : Int32)), .val (.ref b61), .val (.int (1 : Int32))]) rfl ?_
        show Steps p.tables e below (T74.setTop (mkF m 137 #[.val (.int p1), .val (.int p2), .val (.int p3), .val (.int (p1 &&& (2147483647 : Int32))), .val (.int (0 : Int32)), .val (.int (1 : Int32)), .val (.ref b61), .val (.int (1 : Int32))] [])) _
        refine XS.iload X74.here hx rfl (hb hby at_137) rfl ?_
        exact kt
      obtain ⟨fs, hr, hrun, hended, hW, hsame⟩ := X74.leave (v := some (.int (1 : Int32))) (fun h => by rw [Bd.returns] at h; cases h)
      refine ⟨_, _, pre75 _ ?_, hrun, hended, _, _, rfl, ?_, ⟨_, rfl⟩, hW, hsame.mono (by decide) (by decide)⟩
      · show Steps p.tables e below (T74.setTop (mkF m 139 #[.val (.int p1), .val (.int p2), .val (.int p3), .val (.int (p1 &&& (2147483647 : Int32))), .val (.int (0 : Int32)), .val (.int (1 : Int32)), .val (.ref b61), .val (.int (1 : Int32))] [(.int (1 : Int32))])) _
        exact retN X74 hx (t := .boolean) Bd.returns (by simp) (hb hby at_139) hr
      · show Q0 Z p1 p2 p3 h0 n0 _ T74.heap _
        rw [e74]
        exact ⟨rfl, N74⟩
  · have pre76 : ∀ t, Steps p.tables e below (s₁.setTop (mkF m 21 #[.val (.int p1), .val (.int p2), .val (.int p3), .val (.int (p1 &&& (2147483647 : Int32))), .val (.int (1 : Int32)), .unset, .unset, .unset] [(.int (p3 &&& (1 : Int32)))])) t → Steps p.tables e below (s₁.setTop (entryFrame m #[(.int p1), (.int p2), (.int p3)] maxLocals)) t := by
      intro t kt
      refine pre42 _ ?_
      show Steps p.tables e below (s₁.setTop (mkF m 8 #[.val (.int p1), .val (.int p2), .val (.int p3), .val (.int (p1 &&& (2147483647 : Int32))), .unset, .unset, .unset, .unset] [(.int (p2 &&& (1 : Int32)))])) _
      refine XS.ifNo X0.here hx rfl (hb hby at_8) rfl ((if0 _ _).trans (feq hc8_43).1) ?_
      show Steps p.tables e below (s₁.setTop (mkF m 11 #[.val (.int p1), .val (.int p2), .val (.int p3), .val (.int (p1 &&& (2147483647 : Int32))), .unset, .unset, .unset, .unset] [])) _
      refine XS.iconst X0.here hx rfl (hb hby at_11) ?_
      show Steps p.tables e below (s₁.setTop (mkF m 12 #[.val (.int p1), .val (.int p2), .val (.int p3), .val (.int (p1 &&& (2147483647 : Int32))), .unset, .unset, .unset, .unset] [(.int (1 : Int32))])) _
      refine XS.goto X0.here hx rfl (pc0 := 12) (pc' := 16) rfl (hb hby at_12) (by decide) (by decide) ?_
      show Steps p.tables e below (s₁.setTop (mkF m 16 #[.val (.int p1), .val (.int p2), .val (.int p3), .val (.int (p1 &&& (2147483647 : Int32))), .unset, .unset, .unset, .unset] [(.int (1 : Int32))])) _
      refine XS.istore X0.here hx rfl (hb hby at_16) rfl (l' := #[.val (.int p1), .val (.int p2), .val (.int p3), .val (.int (p1 &&& (2147483647 : Int32))), .val (.int (1 : Int32)), .unset, .unset, .unset]) rfl ?_
      show Steps p.tables e below (s₁.setTop (mkF m 18 #[.val (.int p1), .val (.int p2), .val (.int p3), .val (.int (p1 &&& (2147483647 : Int32))), .val (.int (1 : Int32)), .unset, .unset, .unset] [])) _
      refine XS.iloadN X0.here hx rfl (hb hby at_18) rfl ?_
      show Steps p.tables e below (s₁.setTop (mkF m 19 #[.val (.int p1), .val (.int p2), .val (.int p3), .val (.int (p1 &&& (2147483647 : Int32))), .val (.int (1 : Int32)), .unset, .unset, .unset] [(.int p3)])) _
      refine XS.iconst X0.here hx rfl (hb hby at_19) ?_
      show Steps p.tables e below (s₁.setTop (mkF m 20 #[.val (.int p1), .val (.int p2), .val (.int p3), .val (.int (p1 &&& (2147483647 : Int32))), .val (.int (1 : Int32)), .unset, .unset, .unset] [(.int (1 : Int32)), (.int p3)])) _
      refine XS.iand X0.here hx rfl (hb hby at_20) rfl ?_
      exact kt
    by_cases hc21_77 : (p3 &&& (1 : Int32)) = (0 : Int32)
    · obtain ⟨T78, h78, X78, e78, E78, A78, D78, -, st78⟩ := newO X0 hx hZ hown (hw _ (List.mem_of_getElem? (i := 1) rfl)) (hw _ (List.mem_of_getElem? (i := 2) rfl)) (hw _ (List.mem_of_getElem? (i := 3) rfl)) e0 (g := (mkF m 31 #[.val (.int p1), .val (.int p2), .val (.int p3), .val (.int (p1 &&& (2147483647 : Int32))), .val (.int (1 : Int32)), .val (.int (0 : Int32)), .unset, .unset] [])) rfl (hb hby at_31) (by decide) (by decide)
      obtain ⟨b78, g78⟩ : ∃ z, z = h0.size := ⟨_, rfl⟩
      rw [← g78] at A78 D78 st78
      have g_b78 : n0 ≤ b78 := Nat.le_trans Z0 (Nat.le_of_eq g78.symm)
      have sz_b78 : h0.size ≤ b78 := Nat.le_trans (Keep.refl h0 []).1 (Nat.le_of_eq g78.symm)
      have K78 : Keep h0 h78 [] := (Keep.refl h0 []).ext E78
      have f79 : Fld Z h78 b78 "com/example/twotone/twotone/RedBlackTreeMap$Node" "key" "Ljava/lang/Object;" .null := D78 (Or.inr (hw _ (List.mem_of_getElem? (i := 11) rfl))) (ty := (.object "java/lang/Object")) (by decide)
      have f80 : Fld Z h78 b78 "com/example/twotone/twotone/RedBlackTreeMap$Node" "value" "Ljava/lang/Object;" .null := D78 (Or.inl (hw _ (List.mem_of_getElem? (i := 13) rfl))) (ty := (.object "java/lang/Object")) (by decide)
      have f81 : Fld Z h78 b78 "com/example/twotone/twotone/RedBlackTreeMap$Node" "countAndColour" "I" (.int (0 : Int32)) := D78 (Or.inl (hw _ (List.mem_of_getElem? (i := 15) rfl))) (ty := .int) (by decide)
      obtain ⟨_, _, ⟨T82, L82, k82, n82⟩, -, X82, ⟨Lc82, hQ82, l82, y82, z82⟩, st82⟩ := X78.specialBack hx (y := (⟨"com/example/twotone/twotone/RedBlackTreeMap$Node", "<init>", "(Ljava/lang/Object;Ljava/lang/Object;Z)V"⟩ : MethodName)) rfl hown (mvT hZ (hw _ (List.mem_of_getElem? (i := 4) rfl))) (mvT hZ (hw _ (List.mem_of_getElem? (i := 5) rfl))) (mvT hZ (hw _ (List.mem_of_getElem? (i := 6) rfl))) (by decide) (backOf (W := 1) (rm1 l Z a0 hw [] b78 (1 : Int32) h78 n0 (Nat.le_trans Z0 E78.1) f79 f80 f81 A78 g_b78) hZ (hw _ (List.mem_of_getElem? (i := 6) rfl)) (hw _ (List.mem_of_getElem? (i := 3) rfl)) (by decide) (by decide)) (g := (mkF m 39 #[.val (.int p1), .val (.int p2), .val (.int p3), .val (.int (p1 &&& (2147483647 : Int32))), .val (.int (1 : Int32)), .val (.int (0 : Int32)), .unset, .unset] [(.int (1 : Int32)), .null, .null, (.ref b78), (.ref b78)])) rfl (by rw [hml]; rfl) (Steps.refl _) (a := b78) (argsL := [.null, .null, (.int (1 : Int32))]) (rest := [(.ref b78)]) (lenOf pd_0 rfl) rfl (by show 2 * 0 + _ ≤ _; exact Nat.le_of_eq rfl) (hb hby at_39) (fun _ _ => ⟨rfl, e78, (by decide : 1 + 0 ≤ _), (by decide : 5 + 0 ≤ _)⟩)
      dsimp only [Pt.U, Pt.locs, Pt.cells, Pt.slots] at X82 l82 y82 z82 st82 hQ82
      subst l82 y82 z82
      obtain ⟨rfl, N82q, K82q, gE82, gF82⟩ := hQ82
      have N82 := Fr.app N0 N82q
      have K82 : Keep h0 T82.heap [] := K78.trans K82q (allS (Or.inr sz_b78) all0)
      have z83 : n0 ≤ T82.heap.size := (Nat.le_trans (Nat.le_trans Z0 E78.1) K82q.1)
      obtain ⟨cq84, kq84, q84a, q84b, q84c⟩ := isOf hZ rfl gE82
      obtain ⟨_, _, ⟨T84, L84, k84, n84⟩, -, X84, ⟨Lc84, hQ84, l84, y84, z84⟩, st84⟩ := X82.virtualBack hx (y := (⟨"com/example/twotone/twotone/RedBlackTreeMap$Node", "setCount", "(I)V"⟩ : MethodName)) (z := (⟨"com/example/twotone/twotone/RedBlackTreeMap$Node", "setCount", "(I)V"⟩ : MethodName)) hown (mvT hZ (hw _ (List.mem_of_getElem? (i := 16) rfl))) (mvT hZ (hw _ (List.mem_of_getElem? (i := 17) rfl))) (notFace_of_selects (args := #[]) (mvT hZ (hw _ (List.mem_of_getElem? (i := 19) rfl)))) (mvT hZ (hw _ (List.mem_of_getElem? (i := 19) rfl))) (mvT hZ (hw _ (List.mem_of_getElem? (i := 18) rfl))) (by decide) (backOf (W := 0) (rm3 l Z a0 hw [] b78 (p1 &&& (2147483647 : Int32)) (own_cc0 (1 : Int32)) T82.heap n0 z83 gF82 gE82 g_b78) hZ (hw _ (List.mem_of_getElem? (i := 20) rfl)) (hw _ (List.mem_of_getElem? (i := 3) rfl)) (by decide) (by decide)) q84a q84c (g := (mkF m 47 #[.val (.int p1), .val (.int p2), .val (.int p3), .val (.int (p1 &&& (2147483647 : Int32))), .val (.int (1 : Int32)), .val (.int (0 : Int32)), .val (.ref b78), .unset] [(.int (p1 &&& (2147483647 : Int32))), (.ref b78)])) rfl (by rw [hml]; rfl) (Steps.refl _) (argsL := [(.int (p1 &&& (2147483647 : Int32)))]) (rest := []) (lenOf pd_1 rfl) rfl (by show 2 * 0 + _ ≤ _; exact Nat.le_of_eq rfl) (hb hby at_47) (fun _ _ => ⟨rfl, rfl, (by decide : 1 + 0 ≤ _), (by decide : 5 + 0 ≤ _)⟩)
      dsimp only [Pt.U, Pt.locs, Pt.cells, Pt.slots] at X84 l84 y84 z84 st84 hQ84
      subst l84 y84 z84
      obtain ⟨rfl, N84q, K84q, gE84, gF84⟩ := hQ84
      have N84 := Fr.app N82 N84q
      have K84 : Keep h0 T84.heap [] := K82.trans K84q (allS (Or.inr sz_b78) all0)
      obtain ⟨cq85, kq85, q85a, q85b, q85c⟩ := isOf hZ rfl gE84
      obtain ⟨_, _, ⟨T85, L85, k85, n85⟩, -, X85, ⟨Lc85, hQ85, l85, y85, z85⟩, st85⟩ := X84.virtualBack hx (y := (⟨"com/example/twotone/twotone/RedBlackTreeMap$Node", "setRed", "(Z)V"⟩ : MethodName)) (z := (⟨"com/example/twotone/twotone/RedBlackTreeMap$Node", "setRed", "(Z)V"⟩ : MethodName)) hown (mvT hZ (hw _ (List.mem_of_getElem? (i := 21) rfl))) (mvT hZ (hw _ (List.mem_of_getElem? (i := 22) rfl))) (notFace_of_selects (args := #[]) (mvT hZ (hw _ (List.mem_of_getElem? (i := 24) rfl)))) (mvT hZ (hw _ (List.mem_of_getElem? (i := 24) rfl))) (mvT hZ (hw _ (List.mem_of_getElem? (i := 23) rfl))) (by decide) (backOf (W := 0) (rm4 l Z a0 hw [] b78 (0 : Int32) (own_setCount (own_cc0 (1 : Int32)) (p1 &&& (2147483647 : Int32))) T84.heap n0 (Nat.le_trans z83 K84q.1) gF84 gE84 g_b78) hZ (hw _ (List.mem_of_getElem? (i := 25) rfl)) (hw _ (List.mem_of_getElem? (i := 3) rfl)) (by decide) (by decide)) q85a q85c (g := (mkF m 54 #[.val (.int p1), .val (.int p2), .val (.int p3), .val (.int (p1 &&& (2147483647 : Int32))), .val (.int (1 : Int32)), .val (.int (0 : Int32)), .val (.ref b78), .unset] [(.int (0 : Int32)), (.ref b78)])) rfl (by rw [hml]; rfl) (Steps.refl _) (argsL := [(.int (0 : Int32))]) (rest := []) (lenOf pd_2 rfl) rfl (by show 2 * 0 + _ ≤ _; exact Nat.le_of_eq rfl) (hb hby at_54) (fun _ _ => ⟨rfl, rfl, (by decide : 1 + 0 ≤ _), (by decide : 5 + 0 ≤ _)⟩)
      dsimp only [Pt.U, Pt.locs, Pt.cells, Pt.slots] at X85 l85 y85 z85 st85 hQ85
      subst l85 y85 z85
      obtain ⟨rfl, N85q, K85q, gE85, gF85⟩ := hQ85
      have N85 := Fr.app N84 N85q
      have K85 : Keep h0 T85.heap [] := K84.trans K85q (allS (Or.inr sz_b78) all0)
      have z86 : n0 ≤ T85.heap.size := (Nat.le_trans (Nat.le_trans z83 K84q.1) K85q.1)
      obtain ⟨cq87, kq87, q87a, q87b, q87c⟩ := isOf hZ rfl gE85
      obtain ⟨_, _, ⟨T87, L87, k87, n87⟩, -, X87, ⟨Lc87, hQ87, l87, y87, z87⟩, st87⟩ := X85.virtualBack hx (y := (⟨"com/example/twotone/twotone/RedBlackTreeMap$Node", "red", "()Z"⟩ : MethodName)) (z := (⟨"com/example/twotone/twotone/RedBlackTreeMap$Node", "red", "()Z"⟩ : MethodName)) hown (mvT hZ (hw _ (List.mem_of_getElem? (i := 26) rfl))) (mvT hZ (hw _ (List.mem_of_getElem? (i := 27) rfl))) (notFace_of_selects (args := #[]) (mvT hZ (hw _ (List.mem_of_getElem? (i := 29) rfl)))) (mvT hZ (hw _ (List.mem_of_getElem? (i := 29) rfl))) (mvT hZ (hw _ (List.mem_of_getElem? (i := 28) rfl))) (by decide) (backOf (W := 0) (rm5 l Z a0 hw [] b78 (own_setRed (own_setCount (own_cc0 (1 : Int32)) (p1 &&& (2147483647 : Int32))) (0 : Int32)) T85.heap n0 z86 gF85) hZ (hw _ (List.mem_of_getElem? (i := 30) rfl)) (hw _ (List.mem_of_getElem? (i := 3) rfl)) (by decide) (by decide)) q87a q87c (g := (mkF m 59 #[.val (.int p1), .val (.int p2), .val (.int p3), .val (.int (p1 &&& (2147483647 : Int32))), .val (.int (1 : Int32)), .val (.int (0 : Int32)), .val (.ref b78), .unset] [(.ref b78)])) rfl (by rw [hml]; rfl) (Steps.refl _) (argsL := []) (rest := []) (lenOf pd_3 rfl) rfl (by show 2 * 0 + _ ≤ _; exact Nat.le_of_eq rfl) (hb hby at_59) (fun _ _ => ⟨rfl, rfl, (by decide : 1 + 0 ≤ _), (by decide : 5 + 0 ≤ _)⟩)
      dsimp only [Pt.U, Pt.locs, Pt.cells, Pt.slots] at X87 l87 y87 z87 st87 hQ87
      subst l87 y87 z87
      obtain ⟨rfl, N87q, e87⟩ := hQ87
      have N87 := Fr.app N85 N87q
      obtain ⟨cq88, kq88, q88a, q88b, q88c⟩ := isOf hZ e87 gE85
      obtain ⟨_, _, ⟨T88, L88, k88, n88⟩, -, X88, ⟨Lc88, hQ88, l88, y88, z88⟩, st88⟩ := X87.virtualBack hx (y := (⟨"com/example/twotone/twotone/RedBlackTreeMap$Node", "count", "()I"⟩ : MethodName)) (z := (⟨"com/example/twotone/twotone/RedBlackTreeMap$Node", "count", "()I"⟩ : MethodName)) hown (mvT hZ (hw _ (List.mem_of_getElem? (i := 31) rfl))) (mvT hZ (hw _ (List.mem_of_getElem? (i := 32) rfl))) (notFace_of_selects (args := #[]) (mvT hZ (hw _ (List.mem_of_getElem? (i := 34) rfl)))) (mvT hZ (hw _ (List.mem_of_getElem? (i := 34) rfl))) (mvT hZ (hw _ (List.mem_of_getElem? (i := 33) rfl))) (by decide) (backOf (W := 0) (rm6 l Z a0 hw [] b78 (own_setRed (own_setCount (own_cc0 (1 : Int32)) (p1 &&& (2147483647 : Int32))) (0 : Int32)) T85.heap n0 z86 gF85) hZ (hw _ (List.mem_of_getElem? (i := 35) rfl)) (hw _ (List.mem_of_getElem? (i := 3) rfl)) (by decide) (by decide)) q88a q88c (g := (mkF m 69 #[.val (.int p1), .val (.int p2), .val (.int p3), .val (.int (p1 &&& (2147483647 : Int32))), .val (.int (1 : Int32)), .val (.int (0 : Int32)), .val (.ref b78), .unset] [(.ref b78)])) rfl (by rw [hml]; rfl) (Steps.refl _) (argsL := []) (rest := []) (lenOf pd_4 rfl) rfl (by show 2 * 0 + _ ≤ _; exact Nat.le_of_eq rfl) (hb hby at_69) (fun _ _ => ⟨rfl, e87, (by decide : 1 + 0 ≤ _), (by decide : 5 + 0 ≤ _)⟩)
      dsimp only [Pt.U, Pt.locs, Pt.cells, Pt.slots] at X88 l88 y88 z88 st88 hQ88
      subst l88 y88 z88
      obtain ⟨rfl, N88q, e88⟩ := hQ88
      have N88 := Fr.app N87 N88q
      obtain ⟨cq89, kq89, q89a, q89b, q89c⟩ := isOf hZ e88 gE85
      obtain ⟨_, _, ⟨T89, L89, k89, n89⟩, -, X89, ⟨Lc89, hQ89, l89, y89, z89⟩, st89⟩ := X88.virtualBack hx (y := (⟨"com/example/twotone/twotone/RedBlackTreeMap$Node", "setRed", "(Z)V"⟩ : MethodName)) (z := (⟨"com/example/twotone/twotone/RedBlackTreeMap$Node", "setRed", "(Z)V"⟩ : MethodName)) hown (mvT hZ (hw _ (List.mem_of_getElem? (i := 21) rfl))) (mvT hZ (hw _ (List.mem_of_getElem? (i := 22) rfl))) (notFace_of_selects (args := #[]) (mvT hZ (hw _ (List.mem_of_getElem? (i := 24) rfl)))) (mvT hZ (hw _ (List.mem_of_getElem? (i := 24) rfl))) (mvT hZ (hw _ (List.mem_of_getElem? (i := 23) rfl))) (by decide) (backOf (W := 0) (rm4 l Z a0 hw [] b78 (1 : Int32) (own_setRed (own_setCount (own_cc0 (1 : Int32)) (p1 &&& (2147483647 : Int32))) (0 : Int32)) T85.heap n0 z86 gF85 gE85 g_b78) hZ (hw _ (List.mem_of_getElem? (i := 25) rfl)) (hw _ (List.mem_of_getElem? (i := 3) rfl)) (by decide) (by decide)) q89a q89c (g := (mkF m 95 #[.val (.int p1), .val (.int p2), .val (.int p3), .val (.int (p1 &&& (2147483647 : Int32))), .val (.int (1 : Int32)), .val (.int (0 : Int32)), .val (.ref b78), .val (.int (1 : Int32))] [(.int (1 : Int32)), (.ref b78)])) rfl (by rw [hml]; rfl) (Steps.refl _) (argsL := [(.int (1 : Int32))]) (rest := []) (lenOf pd_2 rfl) rfl (by show 2 * 0 + _ ≤ _; exact Nat.le_of_eq rfl) (hb hby at_95) (fun _ _ => ⟨rfl, e88, (by decide : 1 + 0 ≤ _), (by decide : 5 + 0 ≤ _)⟩)
      dsimp only [Pt.U, Pt.locs, Pt.cells, Pt.slots] at X89 l89 y89 z89 st89 hQ89
      subst l89 y89 z89
      obtain ⟨rfl, N89q, K89q, gE89, gF89⟩ := hQ89
      have N89 := Fr.app N88 N89q
      have K89 : Keep h0 T89.heap [] := K85.trans K89q (allS (Or.inr sz_b78) all0)
      obtain ⟨cq90, kq90, q90a, q90b, q90c⟩ := isOf hZ rfl gE89
      obtain ⟨_, _, ⟨T90, L90, k90, n90⟩, -, X90, ⟨Lc90, hQ90, l90, y90, z90⟩, st90⟩ := X89.virtualBack hx (y := (⟨"com/example/twotone/twotone/RedBlackTreeMap$Node", "red", "()Z"⟩ : MethodName)) (z := (⟨"com/example/twotone/twotone/RedBlackTreeMap$Node", "red", "()Z"⟩ : MethodName)) hown (mvT hZ (hw _ (List.mem_of_getElem? (i := 26) rfl))) (mvT hZ (hw _ (List.mem_of_getElem? (i := 27) rfl))) (notFace_of_selects (args := #[]) (mvT hZ (hw _ (List.mem_of_getElem? (i := 29) rfl)))) (mvT hZ (hw _ (List.mem_of_getElem? (i := 29) rfl))) (mvT hZ (hw _ (List.mem_of_getElem? (i := 28) rfl))) (by decide) (backOf (W := 0) (rm5 l Z a0 hw [] b78 (own_setRed (own_setRed (own_setCount (own_cc0 (1 : Int32)) (p1 &&& (2147483647 : Int32))) (0 : Int32)) (1 : Int32)) T89.heap n0 (Nat.le_trans z86 K89q.1) gF89) hZ (hw _ (List.mem_of_getElem? (i := 30) rfl)) (hw _ (List.mem_of_getElem? (i := 3) rfl)) (by decide) (by decide)) q90a q90c (g := (mkF m 105 #[.val (.int p1), .val (.int p2), .val (.int p3), .val (.int (p1 &&& (2147483647 : Int32))), .val (.int (1 : Int32)), .val (.int (0 : Int32)), .val (.ref b78), .val (.int (1 : Int32))] [(.ref b78)])) rfl (by rw [hml]; rfl) (Steps.refl _) (argsL := []) (rest := []) (lenOf pd_3 rfl) rfl (by show 2 * 0 + _ ≤ _; exact Nat.le_of_eq rfl) (hb hby at_105) (fun _ _ => ⟨rfl, rfl, (by decide : 1 + 0 ≤ _), (by decide : 5 + 0 ≤ _)⟩)
      dsimp only [Pt.U, Pt.locs, Pt.cells, Pt.slots] at X90 l90 y90 z90 st90 hQ90
      subst l90 y90 z90
      obtain ⟨rfl, N90q, e90⟩ := hQ90
      have N90 := Fr.app N89 N90q
      obtain ⟨cq91, kq91, q91a, q91b, q91c⟩ := isOf hZ e90 gE89
      obtain ⟨_, _, ⟨T91, L91, k91, n91⟩, -, X91, ⟨Lc91, hQ91, l91, y91, z91⟩, st91⟩ := X90.virtualBack hx (y := (⟨"com/example/twotone/twotone/RedBlackTreeMap$Node", "count", "()I"⟩ : MethodName)) (z := (⟨"com/example/twotone/twotone/RedBlackTreeMap$Node", "count", "()I"⟩ : MethodName)) hown (mvT hZ (hw _ (List.mem_of_getElem? (i := 31) rfl))) (mvT hZ (hw _ (List.mem_of_getElem? (i := 32) rfl))) (notFace_of_selects (args := #[]) (mvT hZ (hw _ (List.mem_of_getElem? (i := 34) rfl)))) (mvT hZ (hw _ (List.mem_of_getElem? (i := 34) rfl))) (mvT hZ (hw _ (List.mem_of_getElem? (i := 33) rfl))) (by decide) (backOf (W := 0) (rm6 l Z a0 hw [] b78 (own_setRed (own_setRed (own_setCount (own_cc0 (1 : Int32)) (p1 &&& (2147483647 : Int32))) (0 : Int32)) (1 : Int32)) T89.heap n0 (Nat.le_trans z86 K89q.1) gF89) hZ (hw _ (List.mem_of_getElem? (i := 35) rfl)) (hw _ (List.mem_of_getElem? (i := 3) rfl)) (by decide) (by decide)) q91a q91c (g := (mkF m 123 #[.val (.int p1), .val (.int p2), .val (.int p3), .val (.int (p1 &&& (2147483647 : Int32))), .val (.int (1 : Int32)), .val (.int (0 : Int32)), .val (.ref b78), .val (.int (1 : Int32))] [(.ref b78)])) rfl (by rw [hml]; rfl) (Steps.refl _) (argsL := []) (rest := []) (lenOf pd_4 rfl) rfl (by show 2 * 0 + _ ≤ _; exact Nat.le_of_eq rfl) (hb hby at_123) (fun _ _ => ⟨rfl, e90, (by decide : 1 + 0 ≤ _), (by decide : 5 + 0 ≤ _)⟩)
      dsimp only [Pt.U, Pt.locs, Pt.cells, Pt.slots] at X91 l91 y91 z91 st91 hQ91
      subst l91 y91 z91
      obtain ⟨rfl, N91q, e91⟩ := hQ91
      have N91 := Fr.app N90 N91q
      have pre92 : ∀ t, Steps p.tables e below (T91.setTop (mkF m 139 #[.val (.int p1), .val (.int p2), .val (.int p3), .val (.int (p1 &&& (2147483647 : Int32))), .val (.int (1 : Int32)), .val (.int (0 : Int32)), .val (.ref b78), .val (.int (1 : Int32))] [(.int (1 : Int32))])) t → Steps p.tables e below (s₁.setTop (entryFrame m #[(.int p1), (.int p2), (.int p3)] maxLocals)) t := by
        intro t kt
        refine pre76 _ ?_
        show Steps p.tables e below (s₁.setTop (mkF m 21 #[.val (.int p1), .val (.int p2), .val (.int p3), .val (.int (p1 &&& (2147483647 : Int32))), .val (.int (1 : Int32)), .unset, .unset, .unset] [(.int (p3 &&& (1 : Int32)))])) _
        refine XS.ifYes X0.here hx rfl (pc0 := 21) (pc' := 28) rfl (hb hby at_21) rfl ((if0 _ _).trans (teq hc21_77).1) (by decide) (by decide) ?_
        show Steps p.tables e below (s₁.setTop (mkF m 28 #[.val (.int p1), .val (.int p2), .val (.int p3), .val (.int (p1 &&& (2147483647 : Int32))), .val (.int (1 : Int32)), .unset, .unset, .unset] [])) _
        refine XS.iconst X0.here hx rfl (hb hby at_28) ?_
        show Steps p.tables e below (s₁.setTop (mkF m 29 #[.val (.int p1), .val (.int p2), .val (.int p3), .val (.int (p1 &&& (2147483647 : Int32))), .val (.int (1 : Int32)), .unset, .unset, .unset] [(.int (0 : Int32))])) _
        refine XS.istore X0.here hx rfl (hb hby at_29) rfl (l' := #[.val (.int p1), .val (.int p2), .val (.int p3), .val (.int (p1 &&& (2147483647 : Int32))), .val (.int (1 : Int32)), .val (.int (0 : Int32)), .unset, .unset]) rfl ?_
        show Steps p.tables e below (s₁.setTop (mkF m 31 #[.val (.int p1), .val (.int p2), .val (.int p3), .val (.int (p1 &&& (2147483647 : Int32))), .val (.int (1 : Int32)), .val (.int (0 : Int32)), .unset, .unset] [])) _
        refine st78 _ ?_
        show Steps p.tables e below (T78.setTop (mkF m 34 #[.val (.int p1), .val (.int p2), .val (.int p3), .val (.int (p1 &&& (2147483647 : Int32))), .val (.int (1 : Int32)), .val (.int (0 : Int32)), .unset, .unset] [(.ref b78)])) _
        refine XS.dup X78.here hx rfl (hb hby at_34) rfl rfl ?_
        show Steps p.tables e below (T78.setTop (mkF m 35 #[.val (.int p1), .val (.int p2), .val (.int p3), .val (.int (p1 &&& (2147483647 : Int32))), .val (.int (1 : Int32)), .val (.int (0 : Int32)), .unset, .unset] [(.ref b78), (.ref b78)])) _
        refine XS.aconstNull X78.here hx rfl (hb hby at_35) ?_
        show Steps p.tables e below (T78.setTop (mkF m 36 #[.val (.int p1), .val (.int p2), .val (.int p3), .val (.int (p1 &&& (2147483647 : Int32))), .val (.int (1 : Int32)), .val (.int (0 : Int32)), .unset, .unset] [.null, (.ref b78), (.ref b78)])) _
        refine XS.aconstNull X78.here hx rfl (hb hby at_36) ?_
        show Steps p.tables e below (T78.setTop (mkF m 37 #[.val (.int p1), .val (.int p2), .val (.int p3), .val (.int (p1 &&& (2147483647 : Int32))), .val (.int (1 : Int32)), .val (.int (0 : Int32)), .unset, .unset] [.null, .null, (.ref b78), (.ref b78)])) _
        refine XS.iload X78.here hx rfl (hb hby at_37) rfl ?_
        show Steps p.tables e below (T78.setTop (mkF m 39 #[.val (.int p1), .val (.int p2), .val (.int p3), .val (.int (p1 &&& (2147483647 : Int32))), .val (.int (1 : Int32)), .val (.int (0 : Int32)), .unset, .unset] [(.int (1 : Int32)), .null, .null, (.ref b78), (.ref b78)])) _
        refine st82.trans ?_
        show Steps p.tables e below (T82.setTop (mkF m 42 #[.val (.int p1), .val (.int p2), .val (.int p3), .val (.int (p1 &&& (2147483647 : Int32))), .val (.int (1 : Int32)), .val (.int (0 : Int32)), .unset, .unset] [(.ref b78)])) _
        refine XS.astore X82.here hx rfl (hb hby at_42) rfl rfl (l' := #[.val (.int p1), .val (.int p2), .val (.int p3), .val (.int (p1 &&& (2147483647 : Int32))), .val (.int (1 : Int32)), .val (.int (0 : Int32)), .val (.ref b78), .unset]) rfl ?_
        show Steps p.tables e below (T82.setTop (mkF m 44 #[.val (.int p1), .val (.int p2), .val (.int p3), .val (.int (p1 &&& (2147483647 : Int32))), .val (.int (1 : Int32)), .val (.int (0 : Int32)), .val (.ref b78), .unset] [])) _
        refine XS.aload X82.here hx rfl (hb hby at_44) rfl rfl ?_
        show Steps p.tables e below (T82.setTop (mkF m 46 #[.val (.int p1), .val (.int p2), .val (.int p3), .val (.int (p1 &&& (2147483647 : Int32))), .val (.int (1 : Int32)), .val (.int (0 : Int32)), .val (.ref b78), .unset] [(.ref b78)])) _
        refine XS.iloadN X82.here hx rfl (hb hby at_46) rfl ?_
        show Steps p.tables e below (T82.setTop (mkF m 47 #[.val (.int p1), .val (.int p2), .val (.int p3), .val (.int (p1 &&& (2147483647 : Int32))), .val (.int (1 : Int32)), .val (.int (0 : Int32)), .val (.ref b78), .unset] [(.int (p1 &&& (2147483647 : Int32))), (.ref b78)])) _
        refine st84.trans ?_
        show Steps p.tables e below (T84.setTop (mkF m 50 #[.val (.int p1), .val (.int p2), .val (.int p3), .val (.int (p1 &&& (2147483647 : Int32))), .val (.int (1 : Int32)), .val (.int (0 : Int32)), .val (.ref b78), .unset] [])) _
        refine XS.aload X84.here hx rfl (hb hby at_50) rfl rfl ?_
        show Steps p.tables e below (T84.setTop (mkF m 52 #[.val (.int p1), .val (.int p2), .val (.int p3), .val (.int (p1 &&& (2147483647 : Int32))), .val (.int (1 : Int32)), .val (.int (0 : Int32)), .val (.ref b78), .unset] [(.ref b78)])) _
        refine XS.iload X84.here hx rfl (hb hby at_52) rfl ?_
        show Steps p.tables e below (T84.setTop (mkF m 54 #[.val (.int p1), .val (.int p2), .val (.int p3), .val (.int (p1 &&& (2147483647 : Int32))), .val (.int (1 : Int32)), .val (.int (0 : Int32)), .val (.ref b78), .unset] [(.int (0 : Int32)), (.ref b78)])) _
        refine st85.trans ?_
        show Steps p.tables e below (T85.setTop (mkF m 57 #[.val (.int p1), .val (.int p2), .val (.int p3), .val (.int (p1 &&& (2147483647 : Int32))), .val (.int (1 : Int32)), .val (.int (0 : Int32)), .val (.ref b78), .unset] [])) _
        refine XS.aload X85.here hx rfl (hb hby at_57) rfl rfl ?_
        show Steps p.tables e below (T85.setTop (mkF m 59 #[.val (.int p1), .val (.int p2), .val (.int p3), .val (.int (p1 &&& (2147483647 : Int32))), .val (.int (1 : Int32)), .val (.int (0 : Int32)), .val (.ref b78), .unset] [(.ref b78)])) _
        refine st87.trans ?_
        show Steps p.tables e below (T87.setTop (mkF m 62 #[.val (.int p1), .val (.int p2), .val (.int p3), .val (.int (p1 &&& (2147483647 : Int32))), .val (.int (1 : Int32)), .val (.int (0 : Int32)), .val (.ref b78), .unset] [(.int (own_red (own_setRed (own_setCount (own_cc0 (1 : Int32)) (p1 &&& (2147483647 : Int32))) (0 : Int32))))])) _
        refine XS.iload X87.here hx rfl (hb hby at_62) rfl ?_
        show Steps p.tables e below (T87.setTop (mkF m 64 #[.val (.int p1), .val (.int p2), .val (.int p3), .val (.int (p1 &&& (2147483647 : Int32))), .val (.int (1 : Int32)), .val (.int (0 : Int32)), .val (.ref b78), .unset] [(.int (0 : Int32)), (.int (own_red (own_setRed (own_setCount (own_cc0 (1 : Int32)) (p1 &&& (2147483647 : Int32))) (0 : Int32))))])) _
        refine XS.icmpNo X87.here hx rfl (hb hby at_64) rfl (teq (((own_redset _ _).trans (by decide)) : (own_red (own_setRed (own_setCount (own_cc0 (1 : Int32)) (p1 &&& (2147483647 : Int32))) (0 : Int32))) = (0 : Int32))).2 ?_
        show Steps p.tables e below (T87.setTop (mkF m 67 #[.val (.int p1), .val (.int p2), .val (.int p3), .val (.int (p1 &&& (2147483647 : Int32))), .val (.int (1 : Int32)), .val (.int (0 : Int32)), .val (.ref b78), .unset] [])) _
        refine XS.aload X87.here hx rfl (hb hby at_67) rfl rfl ?_
        show Steps p.tables e below (T87.setTop (mkF m 69 #[.val (.int p1), .val (.int p2), .val (.int p3), .val (.int (p1 &&& (2147483647 : Int32))), .val (.int (1 : Int32)), .val (.int (0 : Int32)), .val (.ref b78), .unset] [(.ref b78)])) _
        refine st88.trans ?_
        show Steps p.tables e below (T88.setTop (mkF m 72 #[.val (.int p1), .val (.int p2), .val (.int p3), .val (.int (p1 &&& (2147483647 : Int32))), .val (.int (1 : Int32)), .val (.int (0 : Int32)), .val (.ref b78), .unset] [(.int (own_count (own_setRed (own_setCount (own_cc0 (1 : Int32)) (p1 &&& (2147483647 : Int32))) (0 : Int32))))])) _
        refine XS.iloadN X88.here hx rfl (hb hby at_72) rfl ?_
        show Steps p.tables e below (T88.setTop (mkF m 73 #[.val (.int p1), .val (.int p2), .val (.int p3), .val (.int (p1 &&& (2147483647 : Int32))), .val (.int (1 : Int32)), .val (.int (0 : Int32)), .val (.ref b78), .unset] [(.int (p1 &&& (2147483647 : Int32))), (.int (own_count (own_setRed (own_setCount (own_cc0 (1 : Int32)) (p1 &&& (2147483647 : Int32))) (0 : Int32))))])) _
        refine XS.icmpNo X88.here hx rfl (hb hby at_73) rfl (teq (((own_cntset _ _).trans (own_cntcnt _ _)) : (own_count (own_setRed (own_setCount (own_cc0 (1 : Int32)) (p1 &&& (2147483647 : Int32))) (0 : Int32))) = (p1 &&& (2147483647 : Int32)))).2 ?_
        show Steps p.tables e below (T88.setTop (mkF m 76 #[.val (.int p1), .val (.int p2), .val (.int p3), .val (.int (p1 &&& (2147483647 : Int32))), .val (.int (1 : Int32)), .val (.int (0 : Int32)), .val (.ref b78), .unset] [])) _
        refine XS.iconst X88.here hx rfl (hb hby at_76) ?_
        show Steps p.tables e below (T88.setTop (mkF m 77 #[.val (.int p1), .val (.int p2), .val (.int p3), .val (.int (p1 &&& (2147483647 : Int32))), .val (.int (1 : Int32)), .val (.int (0 : Int32)), .val (.ref b78), .unset] [(.int (1 : Int32))])) _
        refine XS.goto X88.here hx rfl (pc0 := 77) (pc' := 81) rfl (hb hby at_77) (by decide) (by decide) ?_
        show Steps p.tables e below (T88.setTop (mkF m 81 #[.val (.int p1), .val (.int p2), .val (.int p3), .val (.int (p1 &&& (2147483647 : Int32))), .val (.int (1 : Int32)), .val (.int (0 : Int32)), .val (.ref b78), .unset] [(.int (1 : Int32))])) _
        refine XS.istore X88.here hx rfl (hb hby at_81) rfl (l' := #[.val (.int p1), .val (.int p2), .val (.int p3), .val (.int (p1 &&& (2147483647 : Int32))), .val (.int (1 : Int32)), .val (.int (0 : Int32)), .val (.ref b78), .val (.int (1 : Int32))]) rfl ?_
        show Steps p.tables e below (T88.setTop (mkF m 83 #[.val (.int p1), .val (.int p2), .val (.int p3), .val (.int (p1 &&& (2147483647 : Int32))), .val (.int (1 : Int32)), .val (.int (0 : Int32)), .val (.ref b78), .val (.int (1 : Int32))] [])) _
        refine XS.aload X88.here hx rfl (hb hby at_83) rfl rfl ?_
        show Steps p.tables e below (T88.setTop (mkF m 85 #[.val (.int p1), .val (.int p2), .val (.int p3), .val (.int (p1 &&& (2147483647 : Int32))), .val (.int (1 : Int32)), .val (.int (0 : Int32)), .val (.ref b78), .val (.int (1 : Int32))] [(.ref b78)])) _
        refine XS.iload X88.here hx rfl (hb hby at_85) rfl ?_
        show Steps p.tables e below (T88.setTop (mkF m 87 #[.val (.int p1), .val (.int p2), .val (.int p3), .val (.int (p1 &&& (2147483647 : Int32))), .val (.int (1 : Int32)), .val (.int (0 : Int32)), .val (.ref b78), .val (.int (1 : Int32))] [(.int (0 : Int32)), (.ref b78)])) _
        refine XS.ifNo X88.here hx rfl (hb hby at_87) rfl ((if0 _ _).trans (teq (by decide : (0 : Int32) = (0 : Int32))).2) ?_
        show Steps p.tables e below (T88.setTop (mkF m 90 #[.val (.int p1), .val (.int p2), .val (.int p3), .val (.int (p1 &&& (2147483647 : Int32))), .val (.int (1 : Int32)), .val (.int (0 : Int32)), .val (.ref b78), .val (.int (1 : Int32))] [(.ref b78)])) _
        refine XS.iconst X88.here hx rfl (hb hby at_90) ?_
        show Steps p.tables e below (T88.setTop (mkF m 91 #[.val (.int p1), .val (.int p2), .val (.int p3), .val (.int (p1 &&& (2147483647 : Int32))), .val (.int (1 : Int32)), .val (.int (0 : Int32)), .val (.ref b78), .val (.int (1 : Int32))] [(.int (1 : Int32)), (.ref b78)])) _
        refine XS.goto X88.here hx rfl (pc0 := 91) (pc' := 95) rfl (hb hby at_91) (by decide) (by decide) ?_
        show Steps p.tables e below (T88.setTop (mkF m 95 #[.val (.int p1), .val (.int p2), .val (.int p3), .val (.int (p1 &&& (2147483647 : Int32))), .val (.int (1 : Int32)), .val (.int (0 : Int32)), .val (.ref b78), .val (.int (1 : Int32))] [(.int (1 : Int32)), (.ref b78)])) _
        refine st89.trans ?_
        show Steps p.tables e below (T89.setTop (mkF m 98 #[.val (.int p1), .val (.int p2), .val (.int p3), .val (.int (p1 &&& (2147483647 : Int32))), .val (.int (1 : Int32)), .val (.int (0 : Int32)), .val (.ref b78), .val (.int (1 : Int32))] [])) _
        refine XS.iload X89.here hx rfl (hb hby at_98) rfl ?_
        show Steps p.tables e below (T89.setTop (mkF m 100 #[.val (.int p1), .val (.int p2), .val (.int p3), .val (.int (p1 &&& (2147483647 : Int32))), .val (.int (1 : Int32)), .val (.int (0 : Int32)), .val (.ref b78), .val (.int (1 : Int32))] [(.int (1 : Int32))])) _
        refine XS.ifNo X89.here hx rfl (hb hby at_100) rfl ((if0 _ _).trans (feq (by decide : ¬ ((1 : Int32) = (0 : Int32)))).1) ?_
        show Steps p.tables e below (T89.setTop (mkF m 103 #[.val (.int p1), .val (.int p2), .val (.int p3), .val (.int (p1 &&& (2147483647 : Int32))), .val (.int (1 : Int32)), .val (.int (0 : Int32)), .val (.ref b78), .val (.int (1 : Int32))] [])) _
        refine XS.aload X89.here hx rfl (hb hby at_103) rfl rfl ?_
        show Steps p.tables e below (T89.setTop (mkF m 105 #[.val (.int p1), .val (.int p2), .val (.int p3), .val (.int (p1 &&& (2147483647 : Int32))), .val (.int (1 : Int32)), .val (.int (0 : Int32)), .val (.ref b78), .val (.int (1 : Int32))] [(.ref b78)])) _
        refine st90.trans ?_
        show Steps p.tables e below (T90.setTop (mkF m 108 #[.val (.int p1), .val (.int p2), .val (.int p3), .val (.int (p1 &&& (2147483647 : Int32))), .val (.int (1 : Int32)), .val (.int (0 : Int32)), .val (.ref b78), .val (.int (1 : Int32))] [(.int (own_red (own_setRed (own_setRed (own_setCount (own_cc0 (1 : Int32)) (p1 &&& (2147483647 : Int32))) (0 : Int32)) (1 : Int32))))])) _
        refine XS.iload X90.here hx rfl (hb hby at_108) rfl ?_
        show Steps p.tables e below (T90.setTop (mkF m 110 #[.val (.int p1), .val (.int p2), .val (.int p3), .val (.int (p1 &&& (2147483647 : Int32))), .val (.int (1 : Int32)), .val (.int (0 : Int32)), .val (.ref b78), .val (.int (1 : Int32))] [(.int (0 : Int32)), (.int (own_red (own_setRed (own_setRed (own_setCount (own_cc0 (1 : Int32)) (p1 &&& (2147483647 : Int32))) (0 : Int32)) (1 : Int32))))])) _
        refine XS.ifNo X90.here hx rfl (hb hby at_110) rfl ((if0 _ _).trans (teq (by decide : (0 : Int32) = (0 : Int32))).2) ?_
        show Steps p.tables e below (T90.setTop (mkF m 113 #[.val (.int p1), .val (.int p2), .val (.int p3), .val (.int (p1 &&& (2147483647 : Int32))), .val (.int (1 : Int32)), .val (.int (0 : Int32)), .val (.ref b78), .val (.int (1 : Int32))] [(.int (own_red (own_setRed (own_setRed (own_setCount (own_cc0 (1 : Int32)) (p1 &&& (2147483647 : Int32))) (0 : Int32)) (1 : Int32))))])) _
        refine XS.iconst X90.here hx rfl (hb hby at_113) ?_
        show Steps p.tables e below (T90.setTop (mkF m 114 #[.val (.int p1), .val (.int p2), .val (.int p3), .val (.int (p1 &&& (2147483647 : Int32))), .val (.int (1 : Int32)), .val (.int (0 : Int32)), .val (.ref b78), .val (.int (1 : Int32))] [(.int (1 : Int32)), (.int (own_red (own_setRed (own_setRed (own_setCount (own_cc0 (1 : Int32)) (p1 &&& (2147483647 : Int32))) (0 : Int32)) (1 : Int32))))])) _
        refine XS.goto X90.here hx rfl (pc0 := 114) (pc' := 118) rfl (hb hby at_114) (by decide) (by decide) ?_
        show Steps p.tables e below (T90.setTop (mkF m 118 #[.val (.int p1), .val (.int p2), .val (.int p3), .val (.int (p1 &&& (2147483647 : Int32))), .val (.int (1 : Int32)), .val (.int (0 : Int32)), .val (.ref b78), .val (.int (1 : Int32))] [(.int (1 : Int32)), (.int (own_red (own_setRed (own_setRed (own_setCount (own_cc0 (1 : Int32)) (p1 &&& (2147483647 : Int32))) (0 : Int32)) (1 : Int32))))])) _
        refine XS.icmpNo X90.here hx rfl (hb hby at_118) rfl (teq (((own_redset _ _).trans (by decide)) : (own_red (own_setRed (own_setRed (own_setCount (own_cc0 (1 : Int32)) (p1 &&& (2147483647 : Int32))) (0 : Int32)) (1 : Int32))) = (1 : Int32))).2 ?_
        show Steps p.tables e below (T90.setTop (mkF m 121 #[.val (.int p1), .val (.int p2), .val (.int p3), .val (.int (p1 &&& (2147483647 : Int32))), .val (.int (1 : Int32)), .val (.int (0 : Int32)), .val (.ref b78), .val (.int (1 : Int32))] [])) _
        refine XS.aload X90.here hx rfl (hb hby at_121) rfl rfl ?_
        show Steps p.tables e below (T90.setTop (mkF m 123 #[.val (.int p1), .val (.int p2), .val (.int p3), .val (.int (p1 &&& (2147483647 : Int32))), .val (.int (1 : Int32)), .val (.int (0 : Int32)), .val (.ref b78), .val (.int (1 : Int32))] [(.ref b78)])) _
        refine st91.trans ?_
        show Steps p.tables e below (T91.setTop (mkF m 126 #[.val (.int p1), .val (.int p2), .val (.int p3), .val (.int (p1 &&& (2147483647 : Int32))), .val (.int (1 : Int32)), .val (.int (0 : Int32)), .val (.ref b78), .val (.int (1 : Int32))] [(.int (own_count (own_setRed (own_setRed (own_setCount (own_cc0 (1 : Int32)) (p1 &&& (2147483647 : Int32))) (0 : Int32)) (1 : Int32))))])) _
        refine XS.iloadN X91.here hx rfl (hb hby at_126) rfl ?_
        show Steps p.tables e below (T91.setTop (mkF m 127 #[.val (.int p1), .val (.int p2), .val (.int p3), .val (.int (p1 &&& (2147483647 : Int32))), .val (.int (1 : Int32)), .val (.int (0 : Int32)), .val (.ref b78), .val (.int (1 : Int32))] [(.int (p1 &&& (2147483647 : Int32))), (.int (own_count (own_setRed (own_setRed (own_setCount (own_cc0 (1 : Int32)) (p1 &&& (2147483647 : Int32))) (0 : Int32)) (1 : Int32))))])) _
        refine XS.icmpNo X91.here hx rfl (hb hby at_127) rfl (teq (((own_cntset _ _).trans ((own_cntset _ _).trans (own_cntcnt _ _))) : (own_count (own_setRed (own_setRed (own_setCount (own_cc0 (1 : Int32)) (p1 &&& (2147483647 : Int32))) (0 : Int32)) (1 : Int32))) = (p1 &&& (2147483647 : Int32)))).2 ?_
        show Steps p.tables e below (T91.setTop (mkF m 130 #[.val (.int p1), .val (.int p2), .val (.int p3), .val (.int (p1 &&& (2147483647 : Int32))), .val (.int (1 : Int32)), .val (.int (0 : Int32)), .val (.ref b78), .val (.int (1 : Int32))] [])) _
        refine XS.iconst X91.here hx rfl (hb hby at_130) ?_
        show Steps p.tables e below (T91.setTop (mkF m 131 #[.val (.int p1), .val (.int p2), .val (.int p3), .val (.int (p1 &&& (2147483647 : Int32))), .val (.int (1 : Int32)), .val (.int (0 : Int32)), .val (.ref b78), .val (.int (1 : Int32))] [(.int (1 : Int32))])) _
        refine XS.goto X91.here hx rfl (pc0 := 131) (pc' := 135) rfl (hb hby at_131) (by decide) (by decide) ?_
        show Steps p.tables e below (T91.setTop (mkF m 135 #[.val (.int p1), .val (.int p2), .val (.int p3), .val (.int (p1 &&& (2147483647 : Int32))), .val (.int (1 : Int32)), .val (.int (0 : Int32)), .val (.ref b78), .val (.int (1 : Int32))] [(.int (1 : Int32))])) _
        refine XS.istore X91.here hx rfl (hb hby at_135) rfl (l' := #[.val (.int p1), .val (.int p2), .val (.int p3), .val (.int (p1 &&& (2147483647 : Int32))), .val (.int (1 : Int32)), .val (.int (0 : Int32)), .val (.ref b78), .val (.int (1 : Int32))]) rfl ?_
        show Steps p.tables e below (T91.setTop (mkF m 137 #[.val (.int p1), .val (.int p2), .val (.int p3), .val (.int (p1 &&& (2147483647 : Int32))), .val (.int (1 : Int32)), .val (.int (0 : Int32)), .val (.ref b78), .val (.int (1 : Int32))] [])) _
        refine XS.iload X91.here hx rfl (hb hby at_137) rfl ?_
        exact kt
      obtain ⟨fs, hr, hrun, hended, hW, hsame⟩ := X91.leave (v := some (.int (1 : Int32))) (fun h => by rw [Bd.returns] at h; cases h)
      refine ⟨_, _, pre92 _ ?_, hrun, hended, _, _, rfl, ?_, ⟨_, rfl⟩, hW, hsame.mono (by decide) (by decide)⟩
      · show Steps p.tables e below (T91.setTop (mkF m 139 #[.val (.int p1), .val (.int p2), .val (.int p3), .val (.int (p1 &&& (2147483647 : Int32))), .val (.int (1 : Int32)), .val (.int (0 : Int32)), .val (.ref b78), .val (.int (1 : Int32))] [(.int (1 : Int32))])) _
        exact retN X91 hx (t := .boolean) Bd.returns (by simp) (hb hby at_139) hr
      · show Q0 Z p1 p2 p3 h0 n0 _ T91.heap _
        rw [e91]
        exact ⟨rfl, N91⟩
    · obtain ⟨T93, h93, X93, e93, E93, A93, D93, -, st93⟩ := newO X0 hx hZ hown (hw _ (List.mem_of_getElem? (i := 1) rfl)) (hw _ (List.mem_of_getElem? (i := 2) rfl)) (hw _ (List.mem_of_getElem? (i := 3) rfl)) e0 (g := (mkF m 31 #[.val (.int p1), .val (.int p2), .val (.int p3), .val (.int (p1 &&& (2147483647 : Int32))), .val (.int (1 : Int32)), .val (.int (1 : Int32)), .unset, .unset] [])) rfl (hb hby at_31) (by decide) (by decide)
      obtain ⟨b93, g93⟩ : ∃ z, z = h0.size := ⟨_, rfl⟩
      rw [← g93] at A93 D93 st93
      have g_b93 : n0 ≤ b93 := Nat.le_trans Z0 (Nat.le_of_eq g93.symm)
      have sz_b93 : h0.size ≤ b93 := Nat.le_trans (Keep.refl h0 []).1 (Nat.le_of_eq g93.symm)
      have K93 : Keep h0 h93 [] := (Keep.refl h0 []).ext E93
      have f94 : Fld Z h93 b93 "com/example/twotone/twotone/RedBlackTreeMap$Node" "key" "Ljava/lang/Object;" .null := D93 (Or.inr (hw _ (List.mem_of_getElem? (i := 11) rfl))) (ty := (.object "java/lang/Object")) (by decide)
      have f95 : Fld Z h93 b93 "com/example/twotone/twotone/RedBlackTreeMap$Node" "value" "Ljava/lang/Object;" .null := D93 (Or.inl (hw _ (List.mem_of_getElem? (i := 13) rfl))) (ty := (.object "java/lang/Object")) (by decide)
      have f96 : Fld Z h93 b93 "com/example/twotone/twotone/RedBlackTreeMap$Node" "countAndColour" "I" (.int (0 : Int32)) := D93 (Or.inl (hw _ (List.mem_of_getElem? (i := 15) rfl))) (ty := .int) (by decide)
      obtain ⟨_, _, ⟨T97, L97, k97, n97⟩, -, X97, ⟨Lc97, hQ97, l97, y97, z97⟩, st97⟩ := X93.specialBack hx (y := (⟨"com/example/twotone/twotone/RedBlackTreeMap$Node", "<init>", "(Ljava/lang/Object;Ljava/lang/Object;Z)V"⟩ : MethodName)) rfl hown (mvT hZ (hw _ (List.mem_of_getElem? (i := 4) rfl))) (mvT hZ (hw _ (List.mem_of_getElem? (i := 5) rfl))) (mvT hZ (hw _ (List.mem_of_getElem? (i := 6) rfl))) (by decide) (backOf (W := 1) (rm1 l Z a0 hw [] b93 (1 : Int32) h93 n0 (Nat.le_trans Z0 E93.1) f94 f95 f96 A93 g_b93) hZ (hw _ (List.mem_of_getElem? (i := 6) rfl)) (hw _ (List.mem_of_getElem? (i := 3) rfl)) (by decide) (by decide)) (g := (mkF m 39 #[.val (.int p1), .val (.int p2), .val (.int p3), .val (.int (p1 &&& (2147483647 : Int32))), .val (.int (1 : Int32)), .val (.int (1 : Int32)), .unset, .unset] [(.int (1 : Int32)), .null, .null, (.ref b93), (.ref b93)])) rfl (by rw [hml]; rfl) (Steps.refl _) (a := b93) (argsL := [.null, .null, (.int (1 : Int32))]) (rest := [(.ref b93)]) (lenOf pd_0 rfl) rfl (by show 2 * 0 + _ ≤ _; exact Nat.le_of_eq rfl) (hb hby at_39) (fun _ _ => ⟨rfl, e93, (by decide : 1 + 0 ≤ _), (by decide : 5 + 0 ≤ _)⟩)
      dsimp only [Pt.U, Pt.locs, Pt.cells, Pt.slots] at X97 l97 y97 z97 st97 hQ97
      subst l97 y97 z97
      obtain ⟨rfl, N97q, K97q, gE97, gF97⟩ := hQ97
      have N97 := Fr.app N0 N97q
      have K97 : Keep h0 T97.heap [] := K93.trans K97q (allS (Or.inr sz_b93) all0)
      have z98 : n0 ≤ T97.heap.size := (Nat.le_trans (Nat.le_trans Z0 E93.1) K97q.1)
      obtain ⟨cq99, kq99, q99a, q99b, q99c⟩ := isOf hZ rfl gE97
      obtain ⟨_, _, ⟨T99, L99, k99, n99⟩, -, X99, ⟨Lc99, hQ99, l99, y99, z99⟩, st99⟩ := X97.virtualBack hx (y := (⟨"com/example/twotone/twotone/RedBlackTreeMap$Node", "setCount", "(I)V"⟩ : MethodName)) (z := (⟨"com/example/twotone/twotone/RedBlackTreeMap$Node", "setCount", "(I)V"⟩ : MethodName)) hown (mvT hZ (hw _ (List.mem_of_getElem? (i := 16) rfl))) (mvT hZ (hw _ (List.mem_of_getElem? (i := 17) rfl))) (notFace_of_selects (args := #[]) (mvT hZ (hw _ (List.mem_of_getElem? (i := 19) rfl)))) (mvT hZ (hw _ (List.mem_of_getElem? (i := 19) rfl))) (mvT hZ (hw _ (List.mem_of_getElem? (i := 18) rfl))) (by decide) (backOf (W := 0) (rm3 l Z a0 hw [] b93 (p1 &&& (2147483647 : Int32)) (own_cc0 (1 : Int32)) T97.heap n0 z98 gF97 gE97 g_b93) hZ (hw _ (List.mem_of_getElem? (i := 20) rfl)) (hw _ (List.mem_of_getElem? (i := 3) rfl)) (by decide) (by decide)) q99a q99c (g := (mkF m 47 #[.val (.int p1), .val (.int p2), .val (.int p3), .val (.int (p1 &&& (2147483647 : Int32))), .val (.int (1 : Int32)), .val (.int (1 : Int32)), .val (.ref b93), .unset] [(.int (p1 &&& (2147483647 : Int32))), (.ref b93)])) rfl (by rw [hml]; rfl) (Steps.refl _) (argsL := [(.int (p1 &&& (2147483647 : Int32)))]) (rest := []) (lenOf pd_1 rfl) rfl (by show 2 * 0 + _ ≤ _; exact Nat.le_of_eq rfl) (hb hby at_47) (fun _ _ => ⟨rfl, rfl, (by decide : 1 + 0 ≤ _), (by decide : 5 + 0 ≤ _)⟩)
      dsimp only [Pt.U, Pt.locs, Pt.cells, Pt.slots] at X99 l99 y99 z99 st99 hQ99
      subst l99 y99 z99
      obtain ⟨rfl, N99q, K99q, gE99, gF99⟩ := hQ99
      have N99 := Fr.app N97 N99q
      have K99 : Keep h0 T99.heap [] := K97.trans K99q (allS (Or.inr sz_b93) all0)
      obtain ⟨cq100, kq100, q100a, q100b, q100c⟩ := isOf hZ rfl gE99
      obtain ⟨_, _, ⟨T100, L100, k100, n100⟩, -, X100, ⟨Lc100, hQ100, l100, y100, z100⟩, st100⟩ := X99.virtualBack hx (y := (⟨"com/example/twotone/twotone/RedBlackTreeMap$Node", "setRed", "(Z)V"⟩ : MethodName)) (z := (⟨"com/example/twotone/twotone/RedBlackTreeMap$Node", "setRed", "(Z)V"⟩ : MethodName)) hown (mvT hZ (hw _ (List.mem_of_getElem? (i := 21) rfl))) (mvT hZ (hw _ (List.mem_of_getElem? (i := 22) rfl))) (notFace_of_selects (args := #[]) (mvT hZ (hw _ (List.mem_of_getElem? (i := 24) rfl)))) (mvT hZ (hw _ (List.mem_of_getElem? (i := 24) rfl))) (mvT hZ (hw _ (List.mem_of_getElem? (i := 23) rfl))) (by decide) (backOf (W := 0) (rm4 l Z a0 hw [] b93 (1 : Int32) (own_setCount (own_cc0 (1 : Int32)) (p1 &&& (2147483647 : Int32))) T99.heap n0 (Nat.le_trans z98 K99q.1) gF99 gE99 g_b93) hZ (hw _ (List.mem_of_getElem? (i := 25) rfl)) (hw _ (List.mem_of_getElem? (i := 3) rfl)) (by decide) (by decide)) q100a q100c (g := (mkF m 54 #[.val (.int p1), .val (.int p2), .val (.int p3), .val (.int (p1 &&& (2147483647 : Int32))), .val (.int (1 : Int32)), .val (.int (1 : Int32)), .val (.ref b93), .unset] [(.int (1 : Int32)), (.ref b93)])) rfl (by rw [hml]; rfl) (Steps.refl _) (argsL := [(.int (1 : Int32))]) (rest := []) (lenOf pd_2 rfl) rfl (by show 2 * 0 + _ ≤ _; exact Nat.le_of_eq rfl) (hb hby at_54) (fun _ _ => ⟨rfl, rfl, (by decide : 1 + 0 ≤ _), (by decide : 5 + 0 ≤ _)⟩)
      dsimp only [Pt.U, Pt.locs, Pt.cells, Pt.slots] at X100 l100 y100 z100 st100 hQ100
      subst l100 y100 z100
      obtain ⟨rfl, N100q, K100q, gE100, gF100⟩ := hQ100
      have N100 := Fr.app N99 N100q
      have K100 : Keep h0 T100.heap [] := K99.trans K100q (allS (Or.inr sz_b93) all0)
      have z101 : n0 ≤ T100.heap.size := (Nat.le_trans (Nat.le_trans z98 K99q.1) K100q.1)
      obtain ⟨cq102, kq102, q102a, q102b, q102c⟩ := isOf hZ rfl gE100
      obtain ⟨_, _, ⟨T102, L102, k102, n102⟩, -, X102, ⟨Lc102, hQ102, l102, y102, z102⟩, st102⟩ := X100.virtualBack hx (y := (⟨"com/example/twotone/twotone/RedBlackTreeMap$Node", "red", "()Z"⟩ : MethodName)) (z := (⟨"com/example/twotone/twotone/RedBlackTreeMap$Node", "red", "()Z"⟩ : MethodName)) hown (mvT hZ (hw _ (List.mem_of_getElem? (i := 26) rfl))) (mvT hZ (hw _ (List.mem_of_getElem? (i := 27) rfl))) (notFace_of_selects (args := #[]) (mvT hZ (hw _ (List.mem_of_getElem? (i := 29) rfl)))) (mvT hZ (hw _ (List.mem_of_getElem? (i := 29) rfl))) (mvT hZ (hw _ (List.mem_of_getElem? (i := 28) rfl))) (by decide) (backOf (W := 0) (rm5 l Z a0 hw [] b93 (own_setRed (own_setCount (own_cc0 (1 : Int32)) (p1 &&& (2147483647 : Int32))) (1 : Int32)) T100.heap n0 z101 gF100) hZ (hw _ (List.mem_of_getElem? (i := 30) rfl)) (hw _ (List.mem_of_getElem? (i := 3) rfl)) (by decide) (by decide)) q102a q102c (g := (mkF m 59 #[.val (.int p1), .val (.int p2), .val (.int p3), .val (.int (p1 &&& (2147483647 : Int32))), .val (.int (1 : Int32)), .val (.int (1 : Int32)), .val (.ref b93), .unset] [(.ref b93)])) rfl (by rw [hml]; rfl) (Steps.refl _) (argsL := []) (rest := []) (lenOf pd_3 rfl) rfl (by show 2 * 0 + _ ≤ _; exact Nat.le_of_eq rfl) (hb hby at_59) (fun _ _ => ⟨rfl, rfl, (by decide : 1 + 0 ≤ _), (by decide : 5 + 0 ≤ _)⟩)
      dsimp only [Pt.U, Pt.locs, Pt.cells, Pt.slots] at X102 l102 y102 z102 st102 hQ102
      subst l102 y102 z102
      obtain ⟨rfl, N102q, e102⟩ := hQ102
      have N102 := Fr.app N100 N102q
      obtain ⟨cq103, kq103, q103a, q103b, q103c⟩ := isOf hZ e102 gE100
      obtain ⟨_, _, ⟨T103, L103, k103, n103⟩, -, X103, ⟨Lc103, hQ103, l103, y103, z103⟩, st103⟩ := X102.virtualBack hx (y := (⟨"com/example/twotone/twotone/RedBlackTreeMap$Node", "count", "()I"⟩ : MethodName)) (z := (⟨"com/example/twotone/twotone/RedBlackTreeMap$Node", "count", "()I"⟩ : MethodName)) hown (mvT hZ (hw _ (List.mem_of_getElem? (i := 31) rfl))) (mvT hZ (hw _ (List.mem_of_getElem? (i := 32) rfl))) (notFace_of_selects (args := #[]) (mvT hZ (hw _ (List.mem_of_getElem? (i := 34) rfl)))) (mvT hZ (hw _ (List.mem_of_getElem? (i := 34) rfl))) (mvT hZ (hw _ (List.mem_of_getElem? (i := 33) rfl))) (by decide) (backOf (W := 0) (rm6 l Z a0 hw [] b93 (own_setRed (own_setCount (own_cc0 (1 : Int32)) (p1 &&& (2147483647 : Int32))) (1 : Int32)) T100.heap n0 z101 gF100) hZ (hw _ (List.mem_of_getElem? (i := 35) rfl)) (hw _ (List.mem_of_getElem? (i := 3) rfl)) (by decide) (by decide)) q103a q103c (g := (mkF m 69 #[.val (.int p1), .val (.int p2), .val (.int p3), .val (.int (p1 &&& (2147483647 : Int32))), .val (.int (1 : Int32)), .val (.int (1 : Int32)), .val (.ref b93), .unset] [(.ref b93)])) rfl (by rw [hml]; rfl) (Steps.refl _) (argsL := []) (rest := []) (lenOf pd_4 rfl) rfl (by show 2 * 0 + _ ≤ _; exact Nat.le_of_eq rfl) (hb hby at_69) (fun _ _ => ⟨rfl, e102, (by decide : 1 + 0 ≤ _), (by decide : 5 + 0 ≤ _)⟩)
      dsimp only [Pt.U, Pt.locs, Pt.cells, Pt.slots] at X103 l103 y103 z103 st103 hQ103
      subst l103 y103 z103
      obtain ⟨rfl, N103q, e103⟩ := hQ103
      have N103 := Fr.app N102 N103q
      obtain ⟨cq104, kq104, q104a, q104b, q104c⟩ := isOf hZ e103 gE100
      obtain ⟨_, _, ⟨T104, L104, k104, n104⟩, -, X104, ⟨Lc104, hQ104, l104, y104, z104⟩, st104⟩ := X103.virtualBack hx (y := (⟨"com/example/twotone/twotone/RedBlackTreeMap$Node", "setRed", "(Z)V"⟩ : MethodName)) (z := (⟨"com/example/twotone/twotone/RedBlackTreeMap$Node", "setRed", "(Z)V"⟩ : MethodName)) hown (mvT hZ (hw _ (List.mem_of_getElem? (i := 21) rfl))) (mvT hZ (hw _ (List.mem_of_getElem? (i := 22) rfl))) (notFace_of_selects (args := #[]) (mvT hZ (hw _ (List.mem_of_getElem? (i := 24) rfl)))) (mvT hZ (hw _ (List.mem_of_getElem? (i := 24) rfl))) (mvT hZ (hw _ (List.mem_of_getElem? (i := 23) rfl))) (by decide) (backOf (W := 0) (rm4 l Z a0 hw [] b93 (0 : Int32) (own_setRed (own_setCount (own_cc0 (1 : Int32)) (p1 &&& (2147483647 : Int32))) (1 : Int32)) T100.heap n0 z101 gF100 gE100 g_b93) hZ (hw _ (List.mem_of_getElem? (i := 25) rfl)) (hw _ (List.mem_of_getElem? (i := 3) rfl)) (by decide) (by decide)) q104a q104c (g := (mkF m 95 #[.val (.int p1), .val (.int p2), .val (.int p3), .val (.int (p1 &&& (2147483647 : Int32))), .val (.int (1 : Int32)), .val (.int (1 : Int32)), .val (.ref b93), .val (.int (1 : Int32))] [(.int (0 : Int32)), (.ref b93)])) rfl (by rw [hml]; rfl) (Steps.refl _) (argsL := [(.int (0 : Int32))]) (rest := []) (lenOf pd_2 rfl) rfl (by show 2 * 0 + _ ≤ _; exact Nat.le_of_eq rfl) (hb hby at_95) (fun _ _ => ⟨rfl, e103, (by decide : 1 + 0 ≤ _), (by decide : 5 + 0 ≤ _)⟩)
      dsimp only [Pt.U, Pt.locs, Pt.cells, Pt.slots] at X104 l104 y104 z104 st104 hQ104
      subst l104 y104 z104
      obtain ⟨rfl, N104q, K104q, gE104, gF104⟩ := hQ104
      have N104 := Fr.app N103 N104q
      have K104 : Keep h0 T104.heap [] := K100.trans K104q (allS (Or.inr sz_b93) all0)
      obtain ⟨cq105, kq105, q105a, q105b, q105c⟩ := isOf hZ rfl gE104
      obtain ⟨_, _, ⟨T105, L105, k105, n105⟩, -, X105, ⟨Lc105, hQ105, l105, y105, z105⟩, st105⟩ := X104.virtualBack hx (y := (⟨"com/example/twotone/twotone/RedBlackTreeMap$Node", "red", "()Z"⟩ : MethodName)) (z := (⟨"com/example/twotone/twotone/RedBlackTreeMap$Node", "red", "()Z"⟩ : MethodName)) hown (mvT hZ (hw _ (List.mem_of_getElem? (i := 26) rfl))) (mvT hZ (hw _ (List.mem_of_getElem? (i := 27) rfl))) (notFace_of_selects (args := #[]) (mvT hZ (hw _ (List.mem_of_getElem? (i := 29) rfl)))) (mvT hZ (hw _ (List.mem_of_getElem? (i := 29) rfl))) (mvT hZ (hw _ (List.mem_of_getElem? (i := 28) rfl))) (by decide) (backOf (W := 0) (rm5 l Z a0 hw [] b93 (own_setRed (own_setRed (own_setCount (own_cc0 (1 : Int32)) (p1 &&& (2147483647 : Int32))) (1 : Int32)) (0 : Int32)) T104.heap n0 (Nat.le_trans z101 K104q.1) gF104) hZ (hw _ (List.mem_of_getElem? (i := 30) rfl)) (hw _ (List.mem_of_getElem? (i := 3) rfl)) (by decide) (by decide)) q105a q105c (g := (mkF m 105 #[.val (.int p1), .val (.int p2), .val (.int p3), .val (.int (p1 &&& (2147483647 : Int32))), .val (.int (1 : Int32)), .val (.int (1 : Int32)), .val (.ref b93), .val (.int (1 : Int32))] [(.ref b93)])) rfl (by rw [hml]; rfl) (Steps.refl _) (argsL := []) (rest := []) (lenOf pd_3 rfl) rfl (by show 2 * 0 + _ ≤ _; exact Nat.le_of_eq rfl) (hb hby at_105) (fun _ _ => ⟨rfl, rfl, (by decide : 1 + 0 ≤ _), (by decide : 5 + 0 ≤ _)⟩)
      dsimp only [Pt.U, Pt.locs, Pt.cells, Pt.slots] at X105 l105 y105 z105 st105 hQ105
      subst l105 y105 z105
      obtain ⟨rfl, N105q, e105⟩ := hQ105
      have N105 := Fr.app N104 N105q
      obtain ⟨cq106, kq106, q106a, q106b, q106c⟩ := isOf hZ e105 gE104
      obtain ⟨_, _, ⟨T106, L106, k106, n106⟩, -, X106, ⟨Lc106, hQ106, l106, y106, z106⟩, st106⟩ := X105.virtualBack hx (y := (⟨"com/example/twotone/twotone/RedBlackTreeMap$Node", "count", "()I"⟩ : MethodName)) (z := (⟨"com/example/twotone/twotone/RedBlackTreeMap$Node", "count", "()I"⟩ : MethodName)) hown (mvT hZ (hw _ (List.mem_of_getElem? (i := 31) rfl))) (mvT hZ (hw _ (List.mem_of_getElem? (i := 32) rfl))) (notFace_of_selects (args := #[]) (mvT hZ (hw _ (List.mem_of_getElem? (i := 34) rfl)))) (mvT hZ (hw _ (List.mem_of_getElem? (i := 34) rfl))) (mvT hZ (hw _ (List.mem_of_getElem? (i := 33) rfl))) (by decide) (backOf (W := 0) (rm6 l Z a0 hw [] b93 (own_setRed (own_setRed (own_setCount (own_cc0 (1 : Int32)) (p1 &&& (2147483647 : Int32))) (1 : Int32)) (0 : Int32)) T104.heap n0 (Nat.le_trans z101 K104q.1) gF104) hZ (hw _ (List.mem_of_getElem? (i := 35) rfl)) (hw _ (List.mem_of_getElem? (i := 3) rfl)) (by decide) (by decide)) q106a q106c (g := (mkF m 123 #[.val (.int p1), .val (.int p2), .val (.int p3), .val (.int (p1 &&& (2147483647 : Int32))), .val (.int (1 : Int32)), .val (.int (1 : Int32)), .val (.ref b93), .val (.int (1 : Int32))] [(.ref b93)])) rfl (by rw [hml]; rfl) (Steps.refl _) (argsL := []) (rest := []) (lenOf pd_4 rfl) rfl (by show 2 * 0 + _ ≤ _; exact Nat.le_of_eq rfl) (hb hby at_123) (fun _ _ => ⟨rfl, e105, (by decide : 1 + 0 ≤ _), (by decide : 5 + 0 ≤ _)⟩)
      dsimp only [Pt.U, Pt.locs, Pt.cells, Pt.slots] at X106 l106 y106 z106 st106 hQ106
      subst l106 y106 z106
      obtain ⟨rfl, N106q, e106⟩ := hQ106
      have N106 := Fr.app N105 N106q
      have pre107 : ∀ t, Steps p.tables e below (T106.setTop (mkF m 139 #[.val (.int p1), .val (.int p2), .val (.int p3), .val (.int (p1 &&& (2147483647 : Int32))), .val (.int (1 : Int32)), .val (.int (1 : Int32)), .val (.ref b93), .val (.int (1 : Int32))] [(.int (1 : Int32))])) t → Steps p.tables e below (s₁.setTop (entryFrame m #[(.int p1), (.int p2), (.int p3)] maxLocals)) t := by
        intro t kt
        refine pre76 _ ?_
        show Steps p.tables e below (s₁.setTop (mkF m 21 #[.val (.int p1), .val (.int p2), .val (.int p3), .val (.int (p1 &&& (2147483647 : Int32))), .val (.int (1 : Int32)), .unset, .unset, .unset] [(.int (p3 &&& (1 : Int32)))])) _
        refine XS.ifNo X0.here hx rfl (hb hby at_21) rfl ((if0 _ _).trans (feq hc21_77).1) ?_
        show Steps p.tables e below (s₁.setTop (mkF m 24 #[.val (.int p1), .val (.int p2), .val (.int p3), .val (.int (p1 &&& (2147483647 : Int32))), .val (.int (1 : Int32)), .unset, .unset, .unset] [])) _
        refine XS.iconst X0.here hx rfl (hb hby at_24) ?_
        show Steps p.tables e below (s₁.setTop (mkF m 25 #[.val (.int p1), .val (.int p2), .val (.int p3), .val (.int (p1 &&& (2147483647 : Int32))), .val (.int (1 : Int32)), .unset, .unset, .unset] [(.int (1 : Int32))])) _
        refine XS.goto X0.here hx rfl (pc0 := 25) (pc' := 29) rfl (hb hby at_25) (by decide) (by decide) ?_
        show Steps p.tables e below (s₁.setTop (mkF m 29 #[.val (.int p1), .val (.int p2), .val (.int p3), .val (.int (p1 &&& (2147483647 : Int32))), .val (.int (1 : Int32)), .unset, .unset, .unset] [(.int (1 : Int32))])) _
        refine XS.istore X0.here hx rfl (hb hby at_29) rfl (l' := #[.val (.int p1), .val (.int p2), .val (.int p3), .val (.int (p1 &&& (2147483647 : Int32))), .val (.int (1 : Int32)), .val (.int (1 : Int32)), .unset, .unset]) rfl ?_
        show Steps p.tables e below (s₁.setTop (mkF m 31 #[.val (.int p1), .val (.int p2), .val (.int p3), .val (.int (p1 &&& (2147483647 : Int32))), .val (.int (1 : Int32)), .val (.int (1 : Int32)), .unset, .unset] [])) _
        refine st93 _ ?_
        show Steps p.tables e below (T93.setTop (mkF m 34 #[.val (.int p1), .val (.int p2), .val (.int p3), .val (.int (p1 &&& (2147483647 : Int32))), .val (.int (1 : Int32)), .val (.int (1 : Int32)), .unset, .unset] [(.ref b93)])) _
        refine XS.dup X93.here hx rfl (hb hby at_34) rfl rfl ?_
        show Steps p.tables e below (T93.setTop (mkF m 35 #[.val (.int p1), .val (.int p2), .val (.int p3), .val (.int (p1 &&& (2147483647 : Int32))), .val (.int (1 : Int32)), .val (.int (1 : Int32)), .unset, .unset] [(.ref b93), (.ref b93)])) _
        refine XS.aconstNull X93.here hx rfl (hb hby at_35) ?_
        show Steps p.tables e below (T93.setTop (mkF m 36 #[.val (.int p1), .val (.int p2), .val (.int p3), .val (.int (p1 &&& (2147483647 : Int32))), .val (.int (1 : Int32)), .val (.int (1 : Int32)), .unset, .unset] [.null, (.ref b93), (.ref b93)])) _
        refine XS.aconstNull X93.here hx rfl (hb hby at_36) ?_
        show Steps p.tables e below (T93.setTop (mkF m 37 #[.val (.int p1), .val (.int p2), .val (.int p3), .val (.int (p1 &&& (2147483647 : Int32))), .val (.int (1 : Int32)), .val (.int (1 : Int32)), .unset, .unset] [.null, .null, (.ref b93), (.ref b93)])) _
        refine XS.iload X93.here hx rfl (hb hby at_37) rfl ?_
        show Steps p.tables e below (T93.setTop (mkF m 39 #[.val (.int p1), .val (.int p2), .val (.int p3), .val (.int (p1 &&& (2147483647 : Int32))), .val (.int (1 : Int32)), .val (.int (1 : Int32)), .unset, .unset] [(.int (1 : Int32)), .null, .null, (.ref b93), (.ref b93)])) _
        refine st97.trans ?_
        show Steps p.tables e below (T97.setTop (mkF m 42 #[.val (.int p1), .val (.int p2), .val (.int p3), .val (.int (p1 &&& (2147483647 : Int32))), .val (.int (1 : Int32)), .val (.int (1 : Int32)), .unset, .unset] [(.ref b93)])) _
        refine XS.astore X97.here hx rfl (hb hby at_42) rfl rfl (l' := #[.val (.int p1), .val (.int p2), .val (.int p3), .val (.int (p1 &&& (2147483647 : Int32))), .val (.int (1 : Int32)), .val (.int (1 : Int32)), .val (.ref b93), .unset]) rfl ?_
        show Steps p.tables e below (T97.setTop (mkF m 44 #[.val (.int p1), .val (.int p2), .val (.int p3), .val (.int (p1 &&& (2147483647 : Int32))), .val (.int (1 : Int32)), .val (.int (1 : Int32)), .val (.ref b93), .unset] [])) _
        refine XS.aload X97.here hx rfl (hb hby at_44) rfl rfl ?_
        show Steps p.tables e below (T97.setTop (mkF m 46 #[.val (.int p1), .val (.int p2), .val (.int p3), .val (.int (p1 &&& (2147483647 : Int32))), .val (.int (1 : Int32)), .val (.int (1 : Int32)), .val (.ref b93), .unset] [(.ref b93)])) _
        refine XS.iloadN X97.here hx rfl (hb hby at_46) rfl ?_
        show Steps p.tables e below (T97.setTop (mkF m 47 #[.val (.int p1), .val (.int p2), .val (.int p3), .val (.int (p1 &&& (2147483647 : Int32))), .val (.int (1 : Int32)), .val (.int (1 : Int32)), .val (.ref b93), .unset] [(.int (p1 &&& (2147483647 : Int32))), (.ref b93)])) _
        refine st99.trans ?_
        show Steps p.tables e below (T99.setTop (mkF m 50 #[.val (.int p1), .val (.int p2), .val (.int p3), .val (.int (p1 &&& (2147483647 : Int32))), .val (.int (1 : Int32)), .val (.int (1 : Int32)), .val (.ref b93), .unset] [])) _
        refine XS.aload X99.here hx rfl (hb hby at_50) rfl rfl ?_
        show Steps p.tables e below (T99.setTop (mkF m 52 #[.val (.int p1), .val (.int p2), .val (.int p3), .val (.int (p1 &&& (2147483647 : Int32))), .val (.int (1 : Int32)), .val (.int (1 : Int32)), .val (.ref b93), .unset] [(.ref b93)])) _
        refine XS.iload X99.here hx rfl (hb hby at_52) rfl ?_
        show Steps p.tables e below (T99.setTop (mkF m 54 #[.val (.int p1), .val (.int p2), .val (.int p3), .val (.int (p1 &&& (2147483647 : Int32))), .val (.int (1 : Int32)), .val (.int (1 : Int32)), .val (.ref b93), .unset] [(.int (1 : Int32)), (.ref b93)])) _
        refine st100.trans ?_
        show Steps p.tables e below (T100.setTop (mkF m 57 #[.val (.int p1), .val (.int p2), .val (.int p3), .val (.int (p1 &&& (2147483647 : Int32))), .val (.int (1 : Int32)), .val (.int (1 : Int32)), .val (.ref b93), .unset] [])) _
        refine XS.aload X100.here hx rfl (hb hby at_57) rfl rfl ?_
        show Steps p.tables e below (T100.setTop (mkF m 59 #[.val (.int p1), .val (.int p2), .val (.int p3), .val (.int (p1 &&& (2147483647 : Int32))), .val (.int (1 : Int32)), .val (.int (1 : Int32)), .val (.ref b93), .unset] [(.ref b93)])) _
        refine st102.trans ?_
        show Steps p.tables e below (T102.setTop (mkF m 62 #[.val (.int p1), .val (.int p2), .val (.int p3), .val (.int (p1 &&& (2147483647 : Int32))), .val (.int (1 : Int32)), .val (.int (1 : Int32)), .val (.ref b93), .unset] [(.int (own_red (own_setRed (own_setCount (own_cc0 (1 : Int32)) (p1 &&& (2147483647 : Int32))) (1 : Int32))))])) _
        refine XS.iload X102.here hx rfl (hb hby at_62) rfl ?_
        show Steps p.tables e below (T102.setTop (mkF m 64 #[.val (.int p1), .val (.int p2), .val (.int p3), .val (.int (p1 &&& (2147483647 : Int32))), .val (.int (1 : Int32)), .val (.int (1 : Int32)), .val (.ref b93), .unset] [(.int (1 : Int32)), (.int (own_red (own_setRed (own_setCount (own_cc0 (1 : Int32)) (p1 &&& (2147483647 : Int32))) (1 : Int32))))])) _
        refine XS.icmpNo X102.here hx rfl (hb hby at_64) rfl (teq (((own_redset _ _).trans (by decide)) : (own_red (own_setRed (own_setCount (own_cc0 (1 : Int32)) (p1 &&& (2147483647 : Int32))) (1 : Int32))) = (1 : Int32))).2 ?_
        show Steps p.tables e below (T102.setTop (mkF m 67 #[.val (.int p1), .val (.int p2), .val (.int p3), .val (.int (p1 &&& (2147483647 : Int32))), .val (.int (1 : Int32)), .val (.int (1 : Int32)), .val (.ref b93), .unset] [])) _
        refine XS.aload X102.here hx rfl (hb hby at_67) rfl rfl ?_
        show Steps p.tables e below (T102.setTop (mkF m 69 #[.val (.int p1), .val (.int p2), .val (.int p3), .val (.int (p1 &&& (2147483647 : Int32))), .val (.int (1 : Int32)), .val (.int (1 : Int32)), .val (.ref b93), .unset] [(.ref b93)])) _
        refine st103.trans ?_
        show Steps p.tables e below (T103.setTop (mkF m 72 #[.val (.int p1), .val (.int p2), .val (.int p3), .val (.int (p1 &&& (2147483647 : Int32))), .val (.int (1 : Int32)), .val (.int (1 : Int32)), .val (.ref b93), .unset] [(.int (own_count (own_setRed (own_setCount (own_cc0 (1 : Int32)) (p1 &&& (2147483647 : Int32))) (1 : Int32))))])) _
        refine XS.iloadN X103.here hx rfl (hb hby at_72) rfl ?_
        show Steps p.tables e below (T103.setTop (mkF m 73 #[.val (.int p1), .val (.int p2), .val (.int p3), .val (.int (p1 &&& (2147483647 : Int32))), .val (.int (1 : Int32)), .val (.int (1 : Int32)), .val (.ref b93), .unset] [(.int (p1 &&& (2147483647 : Int32))), (.int (own_count (own_setRed (own_setCount (own_cc0 (1 : Int32)) (p1 &&& (2147483647 : Int32))) (1 : Int32))))])) _
        refine XS.icmpNo X103.here hx rfl (hb hby at_73) rfl (teq (((own_cntset _ _).trans (own_cntcnt _ _)) : (own_count (own_setRed (own_setCount (own_cc0 (1 : Int32)) (p1 &&& (2147483647 : Int32))) (1 : Int32))) = (p1 &&& (2147483647 : Int32)))).2 ?_
        show Steps p.tables e below (T103.setTop (mkF m 76 #[.val (.int p1), .val (.int p2), .val (.int p3), .val (.int (p1 &&& (2147483647 : Int32))), .val (.int (1 : Int32)), .val (.int (1 : Int32)), .val (.ref b93), .unset] [])) _
        refine XS.iconst X103.here hx rfl (hb hby at_76) ?_
        show Steps p.tables e below (T103.setTop (mkF m 77 #[.val (.int p1), .val (.int p2), .val (.int p3), .val (.int (p1 &&& (2147483647 : Int32))), .val (.int (1 : Int32)), .val (.int (1 : Int32)), .val (.ref b93), .unset] [(.int (1 : Int32))])) _
        refine XS.goto X103.here hx rfl (pc0 := 77) (pc' := 81) rfl (hb hby at_77) (by decide) (by decide) ?_
        show Steps p.tables e below (T103.setTop (mkF m 81 #[.val (.int p1), .val (.int p2), .val (.int p3), .val (.int (p1 &&& (2147483647 : Int32))), .val (.int (1 : Int32)), .val (.int (1 : Int32)), .val (.ref b93), .unset] [(.int (1 : Int32))])) _
        refine XS.istore X103.here hx rfl (hb hby at_81) rfl (l' := #[.val (.int p1), .val (.int p2), .val (.int p3), .val (.int (p1 &&& (2147483647 : Int32))), .val (.int (1 : Int32)), .val (.int (1 : Int32)), .val (.ref b93), .val (.int (1 : Int32))]) rfl ?_
        show Steps p.tables e below (T103.setTop (mkF m 83 #[.val (.int p1), .val (.int p2), .val (.int p3), .val (.int (p1 &&& (2147483647 : Int32))), .val (.int (1 : Int32)), .val (.int (1 : Int32)), .val (.ref b93), .val (.int (1 : Int32))] [])) _
        refine XS.aload X103.here hx rfl (hb hby at_83) rfl rfl ?_
        show Steps p.tables e below (T103.setTop (mkF m 85 #[.val (.int p1), .val (.int p2), .val (.int p3), .val (.int (p1 &&& (2147483647 : Int32))), .val (.int (1 : Int32)), .val (.int (1 : Int32)), .val (.ref b93), .val (.int (1 : Int32))] [(.ref b93)])) _
        refine XS.iload X103.here hx rfl (hb hby at_85) rfl ?_
        show Steps p.tables e below (T103.setTop (mkF m 87 #[.val (.int p1), .val (.int p2), .val (.int p3), .val (.int (p1 &&& (2147483647 : Int32))), .val (.int (1 : Int32)), .val (.int (1 : Int32)), .val (.ref b93), .val (.int (1 : Int32))] [(.int (1 : Int32)), (.ref b93)])) _
        refine XS.ifYes X103.here hx rfl (pc0 := 87) (pc' := 94) rfl (hb hby at_87) rfl ((if0 _ _).trans (feq (by decide : ¬ ((1 : Int32) = (0 : Int32)))).2) (by decide) (by decide) ?_
        show Steps p.tables e below (T103.setTop (mkF m 94 #[.val (.int p1), .val (.int p2), .val (.int p3), .val (.int (p1 &&& (2147483647 : Int32))), .val (.int (1 : Int32)), .val (.int (1 : Int32)), .val (.ref b93), .val (.int (1 : Int32))] [(.ref b93)])) _
        refine XS.iconst X103.here hx rfl (hb hby at_94) ?_
        show Steps p.tables e below (T103.setTop (mkF m 95 #[.val (.int p1), .val (.int p2), .val (.int p3), .val (.int (p1 &&& (2147483647 : Int32))), .val (.int (1 : Int32)), .val (.int (1 : Int32)), .val (.ref b93), .val (.int (1 : Int32))] [(.int (0 : Int32)), (.ref b93)])) _
        refine st104.trans ?_
        show Steps p.tables e below (T104.setTop (mkF m 98 #[.val (.int p1), .val (.int p2), .val (.int p3), .val (.int (p1 &&& (2147483647 : Int32))), .val (.int (1 : Int32)), .val (.int (1 : Int32)), .val (.ref b93), .val (.int (1 : Int32))] [])) _
        refine XS.iload X104.here hx rfl (hb hby at_98) rfl ?_
        show Steps p.tables e below (T104.setTop (mkF m 100 #[.val (.int p1), .val (.int p2), .val (.int p3), .val (.int (p1 &&& (2147483647 : Int32))), .val (.int (1 : Int32)), .val (.int (1 : Int32)), .val (.ref b93), .val (.int (1 : Int32))] [(.int (1 : Int32))])) _
        refine XS.ifNo X104.here hx rfl (hb hby at_100) rfl ((if0 _ _).trans (feq (by decide : ¬ ((1 : Int32) = (0 : Int32)))).1) ?_
        show Steps p.tables e below (T104.setTop (mkF m 103 #[.val (.int p1), .val (.int p2), .val (.int p3), .val (.int (p1 &&& (2147483647 : Int32))), .val (.int (1 : Int32)), .val (.int (1 : Int32)), .val (.ref b93), .val (.int (1 : Int32))] [])) _
        refine XS.aload X104.here hx rfl (hb hby at_103) rfl rfl ?_
        show Steps p.tables e below (T104.setTop (mkF m 105 #[.val (.int p1), .val (.int p2), .val (.int p3), .val (.int (p1 &&& (2147483647 : Int32))), .val (.int (1 : Int32)), .val (.int (1 : Int32)), .val (.ref b93), .val (.int (1 : Int32))] [(.ref b93)])) _
        refine st105.trans ?_
        show Steps p.tables e below (T105.setTop (mkF m 108 #[.val (.int p1), .val (.int p2), .val (.int p3), .val (.int (p1 &&& (2147483647 : Int32))), .val (.int (1 : Int32)), .val (.int (1 : Int32)), .val (.ref b93), .val (.int (1 : Int32))] [(.int (own_red (own_setRed (own_setRed (own_setCount (own_cc0 (1 : Int32)) (p1 &&& (2147483647 : Int32))) (1 : Int32)) (0 : Int32))))])) _
        refine XS.iload X105.here hx rfl (hb hby at_108) rfl ?_
        show Steps p.tables e below (T105.setTop (mkF m 110 #[.val (.int p1), .val (.int p2), .val (.int p3), .val (.int (p1 &&& (2147483647 : Int32))), .val (.int (1 : Int32)), .val (.int (1 : Int32)), .val (.ref b93), .val (.int (1 : Int32))] [(.int (1 : Int32)), (.int (own_red (own_setRed (own_setRed (own_setCount (own_cc0 (1 : Int32)) (p1 &&& (2147483647 : Int32))) (1 : Int32)) (0 : Int32))))])) _
        refine XS.ifYes X105.here hx rfl (pc0 := 110) (pc' := 117) rfl (hb hby at_110) rfl ((if0 _ _).trans (feq (by decide : ¬ ((1 : Int32) = (0 : Int32)))).2) (by decide) (by decide) ?_
        show Steps p.tables e below (T105.setTop (mkF m 117 #[.val (.int p1), .val (.int p2), .val (.int p3), .val (.int (p1 &&& (2147483647 : Int32))), .val (.int (1 : Int32)), .val (.int (1 : Int32)), .val (.ref b93), .val (.int (1 : Int32))] [(.int (own_red (own_setRed (own_setRed (own_setCount (own_cc0 (1 : Int32)) (p1 &&& (2147483647 : Int32))) (1 : Int32)) (0 : Int32))))])) _
        refine XS.iconst X105.here hx rfl (hb hby at_117) ?_
        show Steps p.tables e below (T105.setTop (mkF m 118 #[.val (.int p1), .val (.int p2), .val (.int p3), .val (.int (p1 &&& (2147483647 : Int32))), .val (.int (1 : Int32)), .val (.int (1 : Int32)), .val (.ref b93), .val (.int (1 : Int32))] [(.int (0 : Int32)), (.int (own_red (own_setRed (own_setRed (own_setCount (own_cc0 (1 : Int32)) (p1 &&& (2147483647 : Int32))) (1 : Int32)) (0 : Int32))))])) _
        refine XS.icmpNo X105.here hx rfl (hb hby at_118) rfl (teq (((own_redset _ _).trans (by decide)) : (own_red (own_setRed (own_setRed (own_setCount (own_cc0 (1 : Int32)) (p1 &&& (2147483647 : Int32))) (1 : Int32)) (0 : Int32))) = (0 : Int32))).2 ?_
        show Steps p.tables e below (T105.setTop (mkF m 121 #[.val (.int p1), .val (.int p2), .val (.int p3), .val (.int (p1 &&& (2147483647 : Int32))), .val (.int (1 : Int32)), .val (.int (1 : Int32)), .val (.ref b93), .val (.int (1 : Int32))] [])) _
        refine XS.aload X105.here hx rfl (hb hby at_121) rfl rfl ?_
        show Steps p.tables e below (T105.setTop (mkF m 123 #[.val (.int p1), .val (.int p2), .val (.int p3), .val (.int (p1 &&& (2147483647 : Int32))), .val (.int (1 : Int32)), .val (.int (1 : Int32)), .val (.ref b93), .val (.int (1 : Int32))] [(.ref b93)])) _
        refine st106.trans ?_
        show Steps p.tables e below (T106.setTop (mkF m 126 #[.val (.int p1), .val (.int p2), .val (.int p3), .val (.int (p1 &&& (2147483647 : Int32))), .val (.int (1 : Int32)), .val (.int (1 : Int32)), .val (.ref b93), .val (.int (1 : Int32))] [(.int (own_count (own_setRed (own_setRed (own_setCount (own_cc0 (1 : Int32)) (p1 &&& (2147483647 : Int32))) (1 : Int32)) (0 : Int32))))])) _
        refine XS.iloadN X106.here hx rfl (hb hby at_126) rfl ?_
        show Steps p.tables e below (T106.setTop (mkF m 127 #[.val (.int p1), .val (.int p2), .val (.int p3), .val (.int (p1 &&& (2147483647 : Int32))), .val (.int (1 : Int32)), .val (.int (1 : Int32)), .val (.ref b93), .val (.int (1 : Int32))] [(.int (p1 &&& (2147483647 : Int32))), (.int (own_count (own_setRed (own_setRed (own_setCount (own_cc0 (1 : Int32)) (p1 &&& (2147483647 : Int32))) (1 : Int32)) (0 : Int32))))])) _
        refine XS.icmpNo X106.here hx rfl (hb hby at_127) rfl (teq (((own_cntset _ _).trans ((own_cntset _ _).trans (own_cntcnt _ _))) : (own_count (own_setRed (own_setRed (own_setCount (own_cc0 (1 : Int32)) (p1 &&& (2147483647 : Int32))) (1 : Int32)) (0 : Int32))) = (p1 &&& (2147483647 : Int32)))).2 ?_
        show Steps p.tables e below (T106.setTop (mkF m 130 #[.val (.int p1), .val (.int p2), .val (.int p3), .val (.int (p1 &&& (2147483647 : Int32))), .val (.int (1 : Int32)), .val (.int (1 : Int32)), .val (.ref b93), .val (.int (1 : Int32))] [])) _
        refine XS.iconst X106.here hx rfl (hb hby at_130) ?_
        show Steps p.tables e below (T106.setTop (mkF m 131 #[.val (.int p1), .val (.int p2), .val (.int p3), .val (.int (p1 &&& (2147483647 : Int32))), .val (.int (1 : Int32)), .val (.int (1 : Int32)), .val (.ref b93), .val (.int (1 : Int32))] [(.int (1 : Int32))])) _
        refine XS.goto X106.here hx rfl (pc0 := 131) (pc' := 135) rfl (hb hby at_131) (by decide) (by decide) ?_
        show Steps p.tables e below (T106.setTop (mkF m 135 #[.val (.int p1), .val (.int p2), .val (.int p3), .val (.int (p1 &&& (2147483647 : Int32))), .val (.int (1 : Int32)), .val (.int (1 : Int32)), .val (.ref b93), .val (.int (1 : Int32))] [(.int (1 : Int32))])) _
        refine XS.istore X106.here hx rfl (hb hby at_135) rfl (l' := #[.val (.int p1), .val (.int p2), .val (.int p3), .val (.int (p1 &&& (2147483647 : Int32))), .val (.int (1 : Int32)), .val (.int (1 : Int32)), .val (.ref b93), .val (.int (1 : Int32))]) rfl ?_
        show Steps p.tables e below (T106.setTop (mkF m 137 #[.val (.int p1), .val (.int p2), .val (.int p3), .val (.int (p1 &&& (2147483647 : Int32))), .val (.int (1 : Int32)), .val (.int (1 : Int32)), .val (.ref b93), .val (.int (1 : Int32))] [])) _
        refine XS.iload X106.here hx rfl (hb hby at_137) rfl ?_
        exact kt
      obtain ⟨fs, hr, hrun, hended, hW, hsame⟩ := X106.leave (v := some (.int (1 : Int32))) (fun h => by rw [Bd.returns] at h; cases h)
      refine ⟨_, _, pre107 _ ?_, hrun, hended, _, _, rfl, ?_, ⟨_, rfl⟩, hW, hsame.mono (by decide) (by decide)⟩
      · show Steps p.tables e below (T106.setTop (mkF m 139 #[.val (.int p1), .val (.int p2), .val (.int p3), .val (.int (p1 &&& (2147483647 : Int32))), .val (.int (1 : Int32)), .val (.int (1 : Int32)), .val (.ref b93), .val (.int (1 : Int32))] [(.int (1 : Int32))])) _
        exact retN X106 hx (t := .boolean) Bd.returns (by simp) (hb hby at_139) hr
      · show Q0 Z p1 p2 p3 h0 n0 _ T106.heap _
        rw [e106]
        exact ⟨rfl, N106⟩
set_option maxRecDepth 65536 in
set_option maxHeartbeats 40000000 in
theorem comes_1 {Post : Tables → Env → Array Value → State → Outcome → State → Prop} (hpost : ∀ tb e args s v u, (limb_1_1.after args s (.returned v) u = true ∧ limb_1_2.after args s (.returned v) u = true ∧ True) → FrameEnd s (.returned v) u (Jvm.fieldLocs frame_1_writes args s ++ Jvm.arrayLocs frame_1_arrays args s ++ Jvm.staticLocs frame_1_statics s) 16 128 → Post tb e args s (.returned v) u) :
    ArmFor flags0 classFile x code maxLocals ret World_1 tables_1 room_1 Calls_1 rest_1 Pre_1 Post := by
  intro l hfl _ _ p e ha hc hk s m args below hf hA hF happ hP
  obtain ⟨hcalls, hrest, hpre⟩ := hP
  obtain ⟨-, -, -, hnamed, -, -, -, hat⟩ := (Spec.applies_iff hf).mp happ
  obtain ⟨hg, hn⟩ := and_e (Cond.before_iff.mp (show (Jvm.Cond.and given_1 narrow_1).before args s = true from hpre))
  obtain ⟨gc, gr0⟩ := and_e hg
  obtain ⟨ga0, gr1⟩ := and_e gr0
  obtain ⟨ga1, gr2⟩ := and_e gr1
  obtain ⟨w0, w1, w2, rfl⟩ : ∃ w0 w1 w2 : Value, args = #[w0, w1, w2] := by
    have hs : args.size = 3 := by simpa [Cond.value, given_1] using gc
    obtain ⟨L⟩ := args
    match L, hs with
    | [w0, w1, w2], _ => exact ⟨w0, w1, w2, rfl⟩
  have hw := fun d (hd : d ∈ tables_1) => atoms_spec (ws := Jvm.Cond.code x code maxLocals ret :: tables_1) hat d (List.mem_cons_of_mem _ hd)
  have hfit : Fit s := fun {y c} hc i hi => by
    obtain ⟨ha, rfl⟩ := Array.getElem?_eq_some_iff.mp hc
    have q := List.all_eq_true.mp ((Array.all_eq_true_iff_forall_mem.mp hF) _ (Array.getElem_mem ha)) i (List.mem_range.mpr hi)
    simpa [Array.getElem?_eq_getElem hi] using q
  obtain ⟨i0, ei0⟩ := is_v ga0
  obtain rfl : w0 = (.int i0) := Option.some.inj ei0
  obtain ⟨i1, ei1⟩ := is_v ga1
  obtain rfl : w1 = (.int i1) := Option.some.inj ei1
  obtain ⟨i2, ei2⟩ := is_v gr2
  obtain rfl : w2 = (.int i2) := Option.some.inj ei2
  obtain ⟨n, o, h1, h2, h3, _, L, rfl, ⟨rfl, N⟩, hq⟩ := rm0 l s _ hw tables_1 i0 i1 i2 s.heap s.heap.size (Nat.le_refl _) p e ha hc hk s m _ below hf ((Spec.applies_iff_loose hf).mp happ).1 ⟨rfl, State.Warmed39.refl s, rfl⟩ trivial
  refine ⟨n, _, h1, h2, h3, hpost _ _ _ _ _ _ ⟨Cond.after_iff.mpr rfl, Cond.after_iff.mpr (eq_i res_at (Term.int_eval (1)) rfl), trivial⟩ ⟨hq.1, hq.2.1, (hq.2.2.sift fun y hy => Or.inr (N y hy)).mono (by decide) (by decide)⟩⟩
theorem main_1_1 : Claimed_1_1 := comes_1 fun _ _ _ _ _ _ h hF => ⟨h.1, hF⟩
theorem main_1_2 : Claimed_1_2 := comes_1 fun _ _ _ _ _ _ h hF => ⟨h.2.1, hF⟩
end Jvm.Pilot.@@N@@
namespace Jvm.Pilot.@@N@@
open Jvm Jvm.ClassFile Sem Op Lib Jvm.Free Jvm.Stand Jvm.Pilot.@@N@@.Jvm.D
/-! MADE BY PROGRAM (witnessworld.py) out of the Statement's table words and the real class files: 10 classes; the members and pool entries that the words name. The judged class is class 1, her method 1. -/
namespace start1
open Jvm.ClassFile
def u (s : String) : CpInfo := .utf8 (stringToUtf16 s)
/-- a pool by its gaps: so many unusable entries, then the entry; so many at the end -/
def gap : Nat → List CpInfo → List CpInfo
  | 0, r => r
  | n + 1, r => .unusable :: gap n r
def poolList (es : List (Nat × CpInfo)) (last : Nat) : List CpInfo := es.foldr (fun e r => gap e.1 (e.2 :: r)) (gap last [])
def pool (es : List (Nat × CpInfo)) (last : Nat) : Array CpInfo := ⟨poolList es last⟩
def fileOf (pool : Array CpInfo) (this : Nat) (attrs : Array Attribute := #[]) (ms : Array MethodInfo := #[]) (fl : Nat := 33) (sup : Nat := 0) (ifs : Array Nat := #[]) (fds : Array FieldInfo := #[]) : ClassFile where
  minorVersion := 0
  majorVersion := 65
  constantPool := pool
  accessFlags := fl
  thisClass := this
  superClass := sup
  interfaces := ifs
  fields := fds
  methods := ms
  attributes := attrs
def plain (name : String) (sup : Option ClassId) : Class where
  name := name
  kind := .ordinary
  loader := none
  accessFlags := 33
  super := sup
  interfaces := #[]
  cf := none
  fields := #[]
  methods := #[]
  instanceTypes := #[]
  staticTypes := #[]
  resolved := #[]
  callSites := []
  init := .initialized
  statics := none
  mirror := none

def pool0 : Array CpInfo := pool [(5, u "<init>"), (0, u "()V"), (1, .class_ 10), (1, u "java/lang/Object")] 113

def k0c0 : Code := { maxStack := 0, maxLocals := 1, code := object_method_1_code, exceptionTable := #[], attributes := #[] }
def k0m0 : Method := { name := "<init>", desc := "()V", sig := { parameters := [], returnType := none }, accessFlags := 1, code := some k0c0 }
/-- java/lang/Object -/
def k0 : Class := { plain "java/lang/Object" none with
  accessFlags := 33
  interfaces := #[]
  cf := some (fileOf pool0 8 #[] #[{ accessFlags := 1, nameIndex := 5, descriptorIndex := 6, attributes := #[] }] 33 0 #[] #[])
  fields := #[]
  methods := #[k0m0]
  instanceTypes := #[]
  staticTypes := #[]
  resolved := Array.replicate 124 none
  statics := none }

def pool1 : Array CpInfo := pool [(2, .class_ 4), (1, u "java/lang/Object"), (0, u "<init>"), (0, u "()V"), (0, .integer 2147483647), (0, .class_ 9), (0, u "com/example/twotone/twotone/RedBlackTreeMap$Node"), (0, .methodref 8 11), (0, .nameAndType 5 12), (0, u "(Ljava/lang/Object;Ljava/lang/Object;Z)V"), (0, .methodref 8 14), (0, .nameAndType 15 16), (0, u "setCount"), (0, u "(I)V"), (0, .methodref 8 18), (0, .nameAndType 19 20), (0, u "setRed"), (0, u "(Z)V"), (0, .methodref 8 22), (0, .nameAndType 23 24), (0, u "red"), (0, u "()Z"), (0, .methodref 8 26), (0, .nameAndType 27 28), (0, u "count"), (0, u "()I"), (0, .class_ 30), (0, u "com/example/twotone/twotone/NodeSetRedPinLaw"), (2, u "law"), (0, u "(III)Z")] 7

def k1m0 : Method := { name := "<init>", desc := "()V", sig := { parameters := [], returnType := none }, accessFlags := 2, code := none }
def k1c1 : Code := { maxStack := 5, maxLocals := 8, code := code, exceptionTable := #[], attributes := #[] }
def k1m1 : Method := { name := "law", desc := "(III)Z", sig := { parameters := [.int, .int, .int], returnType := some .boolean }, accessFlags := 9, code := some k1c1 }
/-- com/example/twotone/twotone/NodeSetRedPinLaw -/
def k1 : Class := { plain "com/example/twotone/twotone/NodeSetRedPinLaw" (some 0) with
  accessFlags := 49
  interfaces := #[]
  cf := some (fileOf pool1 29 #[] #[{ accessFlags := 2, nameIndex := 5, descriptorIndex := 6, attributes := #[] }, { accessFlags := 9, nameIndex := 33, descriptorIndex := 34, attributes := #[] }] 49 2 #[] #[])
  fields := #[]
  methods := #[k1m0, k1m1]
  instanceTypes := #[]
  staticTypes := #[]
  resolved := Array.replicate 42 none
  statics := none }

def pool2 : Array CpInfo := pool [(23, .class_ 25), (1, u "java/util/Map$Entry"), (6, .class_ 34), (1, u "java/util/Map"), (34, .class_ 70), (0, u "java/lang/Object")] 107

/-- java/util/Map$Entry -/
def k2 : Class := { plain "java/util/Map$Entry" (some 0) with
  accessFlags := 1537
  interfaces := #[]
  cf := some (fileOf pool2 23 #[.nestHost 32] #[] 1537 69 #[] #[])
  fields := #[]
  methods := #[]
  instanceTypes := #[]
  staticTypes := #[]
  resolved := Array.replicate 178 none
  statics := none }

def pool3 : Array CpInfo := pool [(1, .class_ 2), (0, u "com/example/twotone/twotone/RedBlackTreeMap"), (0, .methodref 4 5), (0, .class_ 6), (0, .nameAndType 7 8), (0, u "java/lang/Object"), (0, u "<init>"), (0, u "()V"), (0, .fieldref 10 11), (0, .class_ 12), (0, .nameAndType 13 14), (0, u "com/example/twotone/twotone/RedBlackTreeMap$Node"), (0, u "key"), (0, u "Ljava/lang/Object;"), (0, .fieldref 10 16), (0, .nameAndType 17 14), (0, u "value"), (0, .fieldref 10 19), (0, .nameAndType 20 21), (0, u "countAndColour"), (0, u "I"), (2, u "left"), (0, u "Lcom/example/twotone/twotone/RedBlackTreeMap$Node;"), (2, u "right"), (0, .class_ 30), (0, u "java/util/Map$Entry"), (31, u "(Ljava/lang/Object;Ljava/lang/Object;Z)V"), (4, u "red"), (0, u "()Z"), (0, u "setRed"), (0, u "(Z)V"), (0, u "count"), (0, u "()I"), (0, u "setCount"), (0, u "(I)V")] 38

def k3c0 : Code := { maxStack := 3, maxLocals := 4, code := prog_6_method_1_code, exceptionTable := #[], attributes := #[] }
def k3m0 : Method := { name := "<init>", desc := "(Ljava/lang/Object;Ljava/lang/Object;Z)V", sig := { parameters := [(.object "java/lang/Object"), (.object "java/lang/Object"), .boolean], returnType := none }, accessFlags := 0, code := some k3c0 }
def k3c1 : Code := { maxStack := 2, maxLocals := 1, code := prog_6_method_2_code, exceptionTable := #[], attributes := #[] }
def k3m1 : Method := { name := "red", desc := "()Z", sig := { parameters := [], returnType := some .boolean }, accessFlags := 0, code := some k3c1 }
def k3c2 : Code := { maxStack := 3, maxLocals := 2, code := prog_6_method_3_code, exceptionTable := #[], attributes := #[] }
def k3m2 : Method := { name := "setRed", desc := "(Z)V", sig := { parameters := [.boolean], returnType := none }, accessFlags := 0, code := some k3c2 }
def k3c3 : Code := { maxStack := 2, maxLocals := 1, code := prog_6_method_4_code, exceptionTable := #[], attributes := #[] }
def k3m3 : Method := { name := "count", desc := "()I", sig := { parameters := [], returnType := some .int }, accessFlags := 0, code := some k3c3 }
def k3c4 : Code := { maxStack := 4, maxLocals := 2, code := prog_6_method_5_code, exceptionTable := #[], attributes := #[] }
def k3m4 : Method := { name := "setCount", desc := "(I)V", sig := { parameters := [.int], returnType := none }, accessFlags := 0, code := some k3c4 }
/-- com/example/twotone/twotone/RedBlackTreeMap$Node -/
def k3 : Class := { plain "com/example/twotone/twotone/RedBlackTreeMap$Node" (some 0) with
  accessFlags := 48
  interfaces := #[2]
  cf := some (fileOf pool3 10 #[.nestHost 1] #[{ accessFlags := 0, nameIndex := 7, descriptorIndex := 62, attributes := #[] }, { accessFlags := 0, nameIndex := 67, descriptorIndex := 68, attributes := #[] }, { accessFlags := 0, nameIndex := 69, descriptorIndex := 70, attributes := #[] }, { accessFlags := 0, nameIndex := 71, descriptorIndex := 72, attributes := #[] }, { accessFlags := 0, nameIndex := 73, descriptorIndex := 74, attributes := #[] }] 48 4 #[29] #[{ accessFlags := 16, nameIndex := 13, descriptorIndex := 14, attributes := #[] }, { accessFlags := 0, nameIndex := 17, descriptorIndex := 14, attributes := #[] }, { accessFlags := 0, nameIndex := 24, descriptorIndex := 25, attributes := #[] }, { accessFlags := 0, nameIndex := 28, descriptorIndex := 25, attributes := #[] }, { accessFlags := 2, nameIndex := 20, descriptorIndex := 21, attributes := #[] }])
  fields := #[{ name := "key", type := (.object "java/lang/Object"), accessFlags := 16, slot := 0, constantValue := 0 }, { name := "value", type := (.object "java/lang/Object"), accessFlags := 0, slot := 1, constantValue := 0 }, { name := "left", type := (.object "com/example/twotone/twotone/RedBlackTreeMap$Node"), accessFlags := 0, slot := 2, constantValue := 0 }, { name := "right", type := (.object "com/example/twotone/twotone/RedBlackTreeMap$Node"), accessFlags := 0, slot := 3, constantValue := 0 }, { name := "countAndColour", type := .int, accessFlags := 2, slot := 4, constantValue := 0 }]
  methods := #[k3m0, k3m1, k3m2, k3m3, k3m4]
  instanceTypes := #[(.object "java/lang/Object"), (.object "java/lang/Object"), (.object "com/example/twotone/twotone/RedBlackTreeMap$Node"), (.object "com/example/twotone/twotone/RedBlackTreeMap$Node"), .int]
  staticTypes := #[]
  resolved := Array.replicate 113 none
  statics := none }

def pool4 : Array CpInfo := pool [(1, u "java/lang/Cloneable"), (0, .class_ 1), (0, u "java/lang/Object"), (0, .class_ 3)] 3

/-- java/lang/Cloneable -/
def k4 : Class := { plain "java/lang/Cloneable" (some 0) with
  accessFlags := 1537
  interfaces := #[]
  cf := some (fileOf pool4 2 #[] #[] 1537 4 #[] #[])
  fields := #[]
  methods := #[]
  instanceTypes := #[]
  staticTypes := #[]
  resolved := Array.replicate 8 none
  statics := none }

def pool5 : Array CpInfo := pool [(1, u "java/io/Serializable"), (0, .class_ 1), (0, u "java/lang/Object"), (0, .class_ 3)] 3

/-- java/io/Serializable -/
def k5 : Class := { plain "java/io/Serializable" (some 0) with
  accessFlags := 1537
  interfaces := #[]
  cf := some (fileOf pool5 2 #[] #[] 1537 4 #[] #[])
  fields := #[]
  methods := #[]
  instanceTypes := #[]
  staticTypes := #[]
  resolved := Array.replicate 8 none
  statics := none }

/-- the primitive byte -/
def k6 : Class := { plain "byte" none with kind := .primitive 'B', accessFlags := 0x411 }
/-- [B -/
def k7 : Class := { plain "[B" (some 0) with kind := .array 6 .byte, interfaces := #[4, 5], accessFlags := 1041 }

/-- the primitive int -/
def k8 : Class := { plain "int" none with kind := .primitive 'I', accessFlags := 0x411 }
/-- [I -/
def k9 : Class := { plain "[I" (some 0) with kind := .array 8 .int, interfaces := #[4, 5], accessFlags := 1041 }

def heap : Heap := #[]
def classes : Array Class := #[k0, k1, k2, k3, k4, k5, k6, k7, k8, k9]
def interned : List (Array UInt16 × Addr) := []
def slotsUsed : Nat := 0
def theMethod : MethodId := ⟨1, 1⟩
def args0 : Array Value := #[.int 7, .int 1, .int 0]
def aboutOver (below : List Frame) : State where
  vm := { classes := classes, interned := interned.toArray }
  heap := heap
  slotsUsed := slotsUsed
  threads := #[{ frames := .invoking theMethod args0 :: below }]
def below0 : List Frame := [.native { method := ⟨0, 0⟩, args := #[] }]
def about1 : State := aboutOver below0
def p0 : Program := .bare "" "" ""
def e0 : Env := launch0.env 0 0 0
theorem w_frames : about1.frames = Frame.invoking theMethod args0 :: below0 := rfl
set_option maxRecDepth 65536 in
theorem w_args : argsFit about1.vm theMethod args0 = true := by decide +kernel
set_option maxRecDepth 65536 in
theorem w_heap : heapFits about1 = true := by decide +kernel
set_option maxRecDepth 65536 in
theorem w_runnable : about1.curStatus? = some .runnable := by decide +kernel
set_option maxRecDepth 65536 in
theorem w_alone : about1.alone = true := by decide +kernel
set_option maxRecDepth 65536 in
theorem w_named : about1.methodNamed? x = some theMethod := by decide +kernel
set_option maxRecDepth 65536 in
theorem w_hears : about1.hears theMethod below0 = true := by decide +kernel
set_option maxRecDepth 65536 in
theorem w_ripe : about1.ripe theMethod args0 below0 = true := by decide +kernel
theorem w_running : about1.status = .running := rfl
set_option maxRecDepth 65536 in
theorem w_room : about1.hasRoom e0.platform room_1 = true :=
  launch0.hasRoom_least _ room_1 (by decide +kernel) (by decide +kernel) (by decide +kernel) (by decide +kernel) (by decide +kernel) (by decide +kernel)
theorem allAtoms_all (ts : List Jvm.Cond) (a : Array Jvm.Value) (st : Jvm.State) : (allAtoms ts).before a st = ts.all (fun c => c.before a st) := by
  induction ts with
  | nil => rfl
  | cons c t ih =>
    show (Jvm.Cond.and c (allAtoms t)).before a st = _
    rw [Jvm.Cond.before_and, ih, List.all_cons]
def words1 : List Jvm.Cond := Jvm.Cond.code x code maxLocals ret :: tables_1
/-- a 'code' word, met by the world's own term for the bytes: nothing is compared byte by byte -/
theorem code_word {y : MethodName} {bytes : ByteArray} {mx : Nat} {rt : Option FieldType} {a : Array Value} {s : State} {m : MethodId} {meth : Method} {c : Code} (h1 : s.methodNamed? y = some m) (h2 : s.vm.method? m = some meth) (h3 : meth.code = some c) (h4 : c.code = bytes)
    (h5 : (c.maxLocals == mx && c.exceptionTable.isEmpty && decide (c.maxStack ≤ mostOperands) && decide (meth.sig.returnType = rt) && !meth.locks && decide (parseMethodDescriptor y.desc = some meth.sig)) = true) : (Jvm.Cond.code y bytes mx rt).before a s = true := by
  simp only [Bool.and_eq_true, beq_iff_eq, Bool.not_eq_true', decide_eq_true_eq] at h5
  obtain ⟨⟨⟨⟨⟨g1, g2⟩, g3⟩, g4⟩, g5⟩, g6⟩ := h5
  simp [Cond.before, Cond.holds, Cond.value, h1, h2, h3, h4, g1, g2, g3, g4, g5, g6]
def isCode : Jvm.Cond → Bool
  | .code _ _ _ _ => true
  | _ => false
theorem all_split {L : List Jvm.Cond} {P : Jvm.Cond → Bool} (h1 : L.all (fun c => isCode c || P c) = true) (h2 : ∀ c ∈ L.filter isCode, P c = true) : L.all P = true := by
  refine List.all_eq_true.mpr fun c hc => ?_
  have h := List.all_eq_true.mp h1 c hc
  rcases Bool.eq_false_or_eq_true (isCode c) with hi | hi
  · exact h2 c (List.mem_filter.mpr ⟨hc, hi⟩)
  · simpa [hi] using h
set_option maxRecDepth 65536 in
theorem w_c0 : (Jvm.Cond.code x code maxLocals ret).before args0 about1 = true := code_word (m := ⟨1, 1⟩) (meth := k1m1) (c := k1c1) (by decide +kernel) rfl rfl rfl (by decide +kernel)
set_option maxRecDepth 65536 in
theorem w_c1 : (Jvm.Cond.code ({ cls := "com/example/twotone/twotone/RedBlackTreeMap$Node", name := "<init>", desc := "(Ljava/lang/Object;Ljava/lang/Object;Z)V" } : Jvm.MethodName) prog_6_method_1_code (4 : Nat) (Option.none : Option Jvm.ClassFile.FieldType)).before args0 about1 = true := code_word (m := ⟨3, 0⟩) (meth := k3m0) (c := k3c0) (by decide +kernel) rfl rfl rfl (by decide +kernel)
set_option maxRecDepth 65536 in
theorem w_c2 : (Jvm.Cond.code ({ cls := "java/lang/Object", name := "<init>", desc := "()V" } : Jvm.MethodName) object_method_1_code (1 : Nat) (Option.none : Option Jvm.ClassFile.FieldType)).before args0 about1 = true := code_word (m := ⟨0, 0⟩) (meth := k0m0) (c := k0c0) (by decide +kernel) rfl rfl rfl (by decide +kernel)
set_option maxRecDepth 65536 in
theorem w_c3 : (Jvm.Cond.code ({ cls := "com/example/twotone/twotone/RedBlackTreeMap$Node", name := "setCount", desc := "(I)V" } : Jvm.MethodName) prog_6_method_5_code (2 : Nat) (Option.none : Option Jvm.ClassFile.FieldType)).before args0 about1 = true := code_word (m := ⟨3, 4⟩) (meth := k3m4) (c := k3c4) (by decide +kernel) rfl rfl rfl (by decide +kernel)
set_option maxRecDepth 65536 in
theorem w_c4 : (Jvm.Cond.code ({ cls := "com/example/twotone/twotone/RedBlackTreeMap$Node", name := "setRed", desc := "(Z)V" } : Jvm.MethodName) prog_6_method_3_code (2 : Nat) (Option.none : Option Jvm.ClassFile.FieldType)).before args0 about1 = true := code_word (m := ⟨3, 2⟩) (meth := k3m2) (c := k3c2) (by decide +kernel) rfl rfl rfl (by decide +kernel)
set_option maxRecDepth 65536 in
theorem w_c5 : (Jvm.Cond.code ({ cls := "com/example/twotone/twotone/RedBlackTreeMap$Node", name := "red", desc := "()Z" } : Jvm.MethodName) prog_6_method_2_code (1 : Nat) (Option.some Jvm.ClassFile.FieldType.boolean)).before args0 about1 = true := code_word (m := ⟨3, 1⟩) (meth := k3m1) (c := k3c1) (by decide +kernel) rfl rfl rfl (by decide +kernel)
set_option maxRecDepth 65536 in
theorem w_c6 : (Jvm.Cond.code ({ cls := "com/example/twotone/twotone/RedBlackTreeMap$Node", name := "count", desc := "()I" } : Jvm.MethodName) prog_6_method_4_code (1 : Nat) (Option.some Jvm.ClassFile.FieldType.int)).before args0 about1 = true := code_word (m := ⟨3, 3⟩) (meth := k3m3) (c := k3c3) (by decide +kernel) rfl rfl rfl (by decide +kernel)
def codes1 : List Jvm.Cond := [Jvm.Cond.code x code maxLocals ret, Jvm.Cond.code ({ cls := "com/example/twotone/twotone/RedBlackTreeMap$Node", name := "<init>", desc := "(Ljava/lang/Object;Ljava/lang/Object;Z)V" } : Jvm.MethodName) prog_6_method_1_code (4 : Nat) (Option.none : Option Jvm.ClassFile.FieldType), Jvm.Cond.code ({ cls := "java/lang/Object", name := "<init>", desc := "()V" } : Jvm.MethodName) object_method_1_code (1 : Nat) (Option.none : Option Jvm.ClassFile.FieldType), Jvm.Cond.code ({ cls := "com/example/twotone/twotone/RedBlackTreeMap$Node", name := "setCount", desc := "(I)V" } : Jvm.MethodName) prog_6_method_5_code (2 : Nat) (Option.none : Option Jvm.ClassFile.FieldType), Jvm.Cond.code ({ cls := "com/example/twotone/twotone/RedBlackTreeMap$Node", name := "setRed", desc := "(Z)V" } : Jvm.MethodName) prog_6_method_3_code (2 : Nat) (Option.none : Option Jvm.ClassFile.FieldType), Jvm.Cond.code ({ cls := "com/example/twotone/twotone/RedBlackTreeMap$Node", name := "red", desc := "()Z" } : Jvm.MethodName) prog_6_method_2_code (1 : Nat) (Option.some Jvm.ClassFile.FieldType.boolean), Jvm.Cond.code ({ cls := "com/example/twotone/twotone/RedBlackTreeMap$Node", name := "count", desc := "()I" } : Jvm.MethodName) prog_6_method_4_code (1 : Nat) (Option.some Jvm.ClassFile.FieldType.int)]
set_option maxRecDepth 65536 in
theorem codes_eq : words1.filter isCode = codes1 := rfl
theorem w_codes : ∀ c ∈ words1.filter isCode, c.before args0 about1 = true := by
  rw [codes_eq]
  intro c hc
  simp only [codes1, List.mem_cons, List.not_mem_nil, or_false] at hc
  rcases hc with rfl | rfl | rfl | rfl | rfl | rfl | rfl
  · exact w_c0
  · exact w_c1
  · exact w_c2
  · exact w_c3
  · exact w_c4
  · exact w_c5
  · exact w_c6
set_option maxRecDepth 65536 in
theorem w_t1 : (words1.take 24).all (fun c => isCode c || c.before args0 about1) = true := by decide +kernel
set_option maxRecDepth 65536 in
theorem w_t2 : (words1.drop 24).all (fun c => isCode c || c.before args0 about1) = true := by decide +kernel
theorem w_tables : (allAtoms (Jvm.Cond.code x code maxLocals ret :: tables_1)).before args0 about1 = true := by
  rw [allAtoms_all]
  show words1.all (fun c => c.before args0 about1) = true
  refine all_split ?_ w_codes
  rw [← List.take_append_drop 24 words1, List.all_append, w_t1, w_t2]
  rfl
set_option maxRecDepth 65536 in
theorem w_case : (Jvm.Cond.and given_1 narrow_1).before args0 about1 = true := by decide +kernel
theorem w_applies : (headSpec (Jvm.Cond.code x code maxLocals ret :: tables_1) room_1).applies x e0.platform about1 = true :=
  (Spec.applies_iff w_frames).mpr ⟨w_running, w_runnable, w_alone, w_named, w_hears, w_ripe, w_room, w_tables⟩
theorem atStart : AtStart classFile x code maxLocals ret World_1 tables_1 room_1 Calls_1 rest_1 Pre_1 launch0 p0 e0 about1 theMethod args0 below0 :=
  ⟨lists_1, trivial, launch0.admits_env _ _ _, launch0.least_env, fairChoices_fair.cas, fairChoices_fair.clock, w_frames, w_args, w_heap, w_applies, trivial, trivial, w_case⟩
end start1
theorem witness_1 : WitnessClaimed_1 := ⟨start1.p0, start1.e0, start1.about1, start1.theMethod, start1.args0, start1.below0, start1.atStart⟩
end Jvm.Pilot.@@N@@
