import JvmDerived
import JvmDerived.Pilot.@@N@@Statement
import JvmDerived.Pilot.@@N@@Code
set_option linter.unusedVariables false
set_option linter.unusedSimpArgs false
namespace Jvm.RoadKit
open Sem ClassFile Op Lib Jvm.Stand Jvm.Free Jvm.LawKit
section New
variable {p : Program} {l : Launch} {e : Env} {R : Room} {s : State} {m : MethodId} {args : Array Value} {below : List Frame} {meth : Method} {c : Code} {T : State} {locs : List Loc} {cells slots : Nat}
theorem retI (X : Stand p l e R s m args below meth c T locs cells slots) (hx : p.tables.exec = Jvm.exec) {pc : Nat} {Ls : Array Slot} {z : Int32} {rest : List Value} (hret : meth.sig.returnType = some .int) (hd : decode c.code pc = .ok (.ireturn, 1)) {fs : List Frame}
    (hl : ∀ (f : JFrame) (acts : List Action), f.method = m → f.locked = none → f.entered = [] → (doReturn e (T.setTop f) acts (some (.int z))).1 = T.setFrames fs) : Steps p.tables e below (T.setTop (mkF m pc Ls (.int z :: rest))) (T.setFrames fs) := by
  have hm' : T.vm.method? m = some meth := X.method'
  have hn : narrow .int (.int z) = .int z := rfl
  show Steps p.tables e below (T.setTop { method := m, pc := pc, locals := Ls, stack := _ :: rest, locked := none }) _
  jvm_step X.here [X.here.top, hx, hd, hm', hret, hn]
  first | (intro acts; rw [hl _ acts rfl rfl rfl]) | rw [hl _ _ rfl rfl rfl]
  exact Steps.refl _
theorem own_retL (X : Stand p l e R s m args below meth c T locs cells slots) (hx : p.tables.exec = Jvm.exec) {pc : Nat} {Ls : Array Slot} {z : Int64} {rest : List Value} (hret : meth.sig.returnType = some .long) (hd : decode c.code pc = .ok (.lreturn, 1)) {fs : List Frame}
    (hl : ∀ (f : JFrame) (acts : List Action), f.method = m → f.locked = none → f.entered = [] → (doReturn e (T.setTop f) acts (some (.long z))).1 = T.setFrames fs) : Steps p.tables e below (T.setTop (mkF m pc Ls (.long z :: rest))) (T.setFrames fs) := by
  have hm' : T.vm.method? m = some meth := X.method'
  have hn : narrow .long (.long z) = .long z := rfl
  show Steps p.tables e below (T.setTop { method := m, pc := pc, locals := Ls, stack := _ :: rest, locked := none }) _
  jvm_step X.here [X.here.top, hx, hd, hm', hret, hn]
  first | (intro acts; rw [hl _ acts rfl rfl rfl]) | rw [hl _ _ rfl rfl rfl]
  exact Steps.refl _
end New
end Jvm.RoadKit
namespace Jvm.Pilot.@@N@@
open Jvm Jvm.ClassFile Sem Op Lib Jvm.Free Jvm.Stand Jvm.LawKit Jvm.RoadKit Bundle Jvm.Pilot.@@N@@.Jvm.D
theorem own_g {α : Type} {L : List α} {d : α} (i : Nat) (h : L[i]? = some d) : d ∈ L := List.mem_of_getElem? h
abbrev own_M (l : Launch) (Z : State) (y : MethodName) (bs : ByteArray) (ml : Nat) (rt : Option FieldType) (ws : List Jvm.Cond) (rm : Room) (as : Array Value) (h0 : Heap) (Q : Option Value → Heap → List Loc → Prop) : Prop :=
  MetFree l y (head1 (Jvm.Cond.code y bs ml rt :: ws) rm) (fun a U => a = as ∧ Z.Warmed39 U.vm ∧ U.heap = h0) (fun _ _ _ _ _ => True) (fun _ U o U' => ∃ v L, o = .returned v ∧ Q v U'.heap L ∧ FrameEnd U o U' L rm.cells rm.slots)
set_option maxRecDepth 65536
set_option maxHeartbeats 40000000
theorem own_go {tb : Tables} {e : Env} {below : List Frame} {U V : State} (pre : ∀ t, Steps tb e below U t → Steps tb e below V t) (U' : State) (h : ∀ t, Steps tb e below U' t → Steps tb e below U t) : ∀ t, Steps tb e below U' t → Steps tb e below V t := fun t k => pre t (h t k)
theorem own_p0 {tb : Tables} {e : Env} {below : List Frame} {s : State} {f g : JFrame} (h : f = g) : ∀ t, Steps tb e below (s.setTop g) t → Steps tb e below (s.setTop f) t := fun t k => castTop h k
theorem own_nv {rt : Option FieldType} {t : FieldType} {v : Option Value} (h : rt = some t) : rt = none → v = none := fun q => by rw [h] at q; cases q
theorem own_bd {l : Launch} {Z : State} {y : MethodName} {bs : ByteArray} {ml : Nat} {rt : Option FieldType} {ws : List Jvm.Cond} {rm : Room} {as : Array Value} {h0 : Heap} {Q : Option Value → Heap → List Loc → Prop} {n0 : Nat} (hpl : plainFor y = true)
    (H : ∀ (p : Program) (e : Env) (s : State) (m : MethodId) (below : List Frame) (meth : Method) (c : Code) (s₁ : State), BodyLoose p l y (head1 (Jvm.Cond.code y bs ml rt :: ws) rm) bs ml rt e s m as below meth c s₁ → Z.Warmed39 s.vm → p.tables.exec = Jvm.exec → c.code = bs → c.maxLocals = ml → s.vm.findClass y.cls = some m.cls → Stand p l e rm s m as below meth c s₁ [] 0 0 → s₁.heap = h0 → Fr n0 [] →
      ∃ s₂ o, Steps p.tables e below (s₁.setTop (entryFrame m as ml)) s₂ ∧ s₂.status = .running ∧ Ended s₂ below o ∧ ∃ v L, o = .returned v ∧ Q v s₂.heap L ∧ FrameEnd s o s₂ L rm.cells rm.slots) : own_M l Z y bs ml rt ws rm as h0 Q := by
  refine MetFree.of_bodySF hpl hisR ?_
  intro p e s m args below meth c s₁ Bd hml hP hK
  obtain ⟨rfl, hZ, hh⟩ := hP
  exact H p e s m below meth c s₁ Bd hZ Bd.exec Bd.bytes hml (findClass_of_methodNamed Bd.named) (Stand.of_body Bd) (by rw [← hh, Bd.state]; rfl) (Fr.nil n0)
theorem own_lv {p : Program} {l : Launch} {e : Env} {R : Room} {s : State} {m : MethodId} {args : Array Value} {below : List Frame} {meth : Method} {c : Code} {T : State} {locs : List Loc} {cells slots C N : Nat} {Q : Option Value → Heap → List Loc → Prop} (X : Stand p l e R s m args below meth c T locs cells slots) {v : Option Value} (hlk : meth.locks = false) (hv : meth.sig.returnType = none → v = none) {S0 : State} {g : JFrame} (pre : ∀ t, Steps p.tables e below (T.setTop g) t → Steps p.tables e below S0 t)
    (hret : ∀ fs, (∀ (f : JFrame) (acts : List Action), f.method = m → f.locked = none → f.entered = [] → (doReturn e (T.setTop f) acts v).1 = T.setFrames fs) → Steps p.tables e below (T.setTop g) (T.setFrames fs)) (hq : Q v T.heap locs) (hc : cells ≤ C := by decide) (hs : slots ≤ N := by decide) :
    ∃ s₂ o, Steps p.tables e below S0 s₂ ∧ s₂.status = .running ∧ Ended s₂ below o ∧ ∃ v L, o = .returned v ∧ Q v s₂.heap L ∧ FrameEnd s o s₂ L C N := by
  obtain ⟨fs, hr, hrun, hended, hW, hsame⟩ := X.leave (v := v) hv hlk
  exact ⟨_, _, pre _ (hret fs hr), hrun, hended, v, locs, rfl, hq, ⟨_, rfl⟩, hW, hsame.mono hc hs⟩
theorem own_mono {l : Launch} {Z : State} {y : MethodName} {bs : ByteArray} {ml : Nat} {rt : Option FieldType} {ws : List Jvm.Cond} {rm : Room} {as : Array Value} {h0 : Heap} {Q Q' : Option Value → Heap → List Loc → Prop} (hM : own_M l Z y bs ml rt ws rm as h0 Q) (hq : ∀ v h L, Q v h L → Q' v h L) : own_M l Z y bs ml rt ws rm as h0 Q' := by
  intro p e h1 h2 h3 s m args below h4 h5 h6 h7
  obtain ⟨n, o, g1, g2, g3, v, L, g4, g5, g6⟩ := hM p e h1 h2 h3 s m args below h4 h5 h6 h7
  exact ⟨n, o, g1, g2, g3, v, L, g4, hq _ _ _ g5, g6⟩
section OwnC
variable {p : Program} {l : Launch} {e : Env} {R : Room} {s : State} {m : MethodId} {args : Array Value} {below : List Frame} {meth : Method} {c : Code} {T : State} {locs : List Loc} {cells slots : Nat} {Z : State} {a0 : Array Value} {h : Heap}
theorem own_cS (X : Stand p l e R s m args below meth c T locs cells slots) (hx : p.tables.exec = Jvm.exec) (hZ : Z.Warmed39 s.vm) {own : String} {index : Nat} {y : MethodName} {bytes : ByteArray} {maxL ml : Nat} {ret : Option FieldType} {rm : Room} {as' : Array Value} {Q : Option Value → Heap → List Loc → Prop} (hml : c.maxLocals = ml) (hown : s.vm.findClass own = some m.cls)
    (wl : (Jvm.Cond.methodLink own index y).before a0 Z = true) (wt : (Jvm.Cond.static y).before a0 Z = true) (wi : (Jvm.Cond.initialized y.cls).before a0 Z = true) (wc : (Jvm.Cond.code y bytes maxL ret).before a0 Z = true)
    (eT : T.heap = h) (hM : own_M l Z y bytes maxL ret [] rm as' h Q) {W : Nat} {g : JFrame} {argsL rest : List Value} (hlen : ∀ sig, parseMethodDescriptor y.desc = some sig → argsL.length = sig.parameters.length) (hd : decode c.code g.pc = .ok (.invokestatic index, 3)) (hsz : g.locals.size = ml := by rfl) (hA : argsL.toArray = as' := by rfl) (hg : g.method = m := by rfl) (hst : g.stack = argsL.reverse ++ rest := by rfl) (hm : g.monitorRoom = 0 := by rfl) (hW : (rest.map fun v => v.category).sum ≤ W := by exact Nat.le_of_eq rfl) (hy : y.cls ≠ "java/lang/invoke/MethodHandle" ∧ y.cls ≠ "java/lang/invoke/VarHandle" := by decide) (hf : rm.frames + 1 ≤ R.frames := by decide) (hl : W + (maxL + 11) + rm.locals ≤ R.locals := by decide) (hc : cells + rm.cells ≤ R.cells := by decide) (hs : slots + rm.slots ≤ R.slots := by decide) :
    ∃ (v : Option Value) (U : State) (L : List Loc), Stand p l e R s m args below meth c U (locs ++ L) (cells + rm.cells) (slots + rm.slots) ∧ Q v U.heap L ∧ ∀ target, Steps p.tables e below (U.setTop { g with pc := g.pc + 3, stack := v.toList ++ rest }) target → Steps p.tables e below (T.setTop g) target := by
  obtain ⟨v, _, ⟨U', L', k', n'⟩, -, X', ⟨L, hq, e1, e2, e3⟩, st⟩ := Jvm.LawKit.callS X hx hown (mvT hZ wl) (mvT hZ wt) (mvT hZ wi) (mvT hZ wc) hy (backOf (W := W) hM hZ wc wi hf hl) hg (hsz.trans hml.symm) hlen hst (by rw [hm]; simpa using hW) hd (fun _ _ => ⟨hA, eT, hc, hs⟩)
  dsimp only [Pt.U, Pt.locs, Pt.cells, Pt.slots] at X' e1 e2 e3 st hq
  subst e1 e2 e3
  exact ⟨v, U', L, X', hq, st⟩
theorem own_pS (X : Stand p l e R s m args below meth c T locs cells slots) (hx : p.tables.exec = Jvm.exec) (hZ : Z.Warmed39 s.vm) {own : String} {index : Nat} {y : MethodName} {bytes : ByteArray} {maxL ml : Nat} {ret : Option FieldType} {rm : Room} {as' : Array Value} {Q : Option Value → Heap → List Loc → Prop} (hml : c.maxLocals = ml) (hown : s.vm.findClass own = some m.cls) {n0 : Nat} {r : Option Value} (N : Fr n0 locs)
    (wl : (Jvm.Cond.methodLink own index y).before a0 Z = true) (wt : (Jvm.Cond.static y).before a0 Z = true) (wi : (Jvm.Cond.initialized y.cls).before a0 Z = true) (wc : (Jvm.Cond.code y bytes maxL ret).before a0 Z = true)
    (eT : T.heap = h) (hM : own_M l Z y bytes maxL ret [] rm as' h Q) {W : Nat} {g : JFrame} {argsL rest : List Value} (hlen : ∀ sig, parseMethodDescriptor y.desc = some sig → argsL.length = sig.parameters.length) (hd : decode c.code g.pc = .ok (.invokestatic index, 3)) (hsz : g.locals.size = ml := by rfl) (hA : argsL.toArray = as' := by rfl) (hg : g.method = m := by rfl) (hst : g.stack = argsL.reverse ++ rest := by rfl) (hm : g.monitorRoom = 0 := by rfl) (hW : (rest.map fun v => v.category).sum ≤ W := by exact Nat.le_of_eq rfl) (hy : y.cls ≠ "java/lang/invoke/MethodHandle" ∧ y.cls ≠ "java/lang/invoke/VarHandle" := by decide) (hf : rm.frames + 1 ≤ R.frames := by decide) (hl : W + (maxL + 11) + rm.locals ≤ R.locals := by decide) (hc : cells + rm.cells ≤ R.cells := by decide) (hs : slots + rm.slots ≤ R.slots := by decide) (hp : ∀ v h' L, Q v h' L → v = r ∧ Fr n0 L ∧ h' = h := by exact fun _ _ _ q => q) :
    ∃ (U : State) (L : List Loc), Stand p l e R s m args below meth c U (locs ++ L) (cells + rm.cells) (slots + rm.slots) ∧ U.heap = h ∧ Fr n0 (locs ++ L) ∧ ∀ target, Steps p.tables e below (U.setTop { g with pc := g.pc + 3, stack := r.toList ++ rest }) target → Steps p.tables e below (T.setTop g) target := by
  obtain ⟨v, U, L, X', hq, st⟩ := own_cS X hx hZ hml hown wl wt wi wc eT hM hlen hd hsz hA hg hst hm hW hy hf hl hc hs
  obtain ⟨rfl, N', e'⟩ := hp _ _ _ hq
  exact ⟨U, L, X', e', Fr.app N N', st⟩
theorem own_cI (X : Stand p l e R s m args below meth c T locs cells slots) (hx : p.tables.exec = Jvm.exec) (hZ : Z.Warmed39 s.vm) {own : String} {index : Nat} {y : MethodName} {bytes : ByteArray} {maxL ml : Nat} {rm : Room} {as' : Array Value} {Q : Option Value → Heap → List Loc → Prop} (hml : c.maxLocals = ml) (hown : s.vm.findClass own = some m.cls)
    (hy1 : y.name = "<init>") (wl : (Jvm.Cond.methodLink own index y).before a0 Z = true) (wt : (Jvm.Cond.instanceMethod y).before a0 Z = true) (wi : (Jvm.Cond.initialized y.cls).before a0 Z = true) (wc : (Jvm.Cond.code y bytes maxL none).before a0 Z = true)
    (eT : T.heap = h) (hM : own_M l Z y bytes maxL none [] rm as' h Q) {a : Addr} {W : Nat} {g : JFrame} {argsL rest : List Value} (hlen : ∀ sig, parseMethodDescriptor y.desc = some sig → argsL.length = sig.parameters.length) (hd : decode c.code g.pc = .ok (.invokespecial index, 3)) (hsz : g.locals.size = ml := by rfl) (hA : (Value.ref a :: argsL).toArray = as' := by rfl) (hg : g.method = m := by rfl) (hst : g.stack = argsL.reverse ++ .ref a :: rest := by rfl) (hm : g.monitorRoom = 0 := by rfl) (hW : (rest.map fun v => v.category).sum ≤ W := by exact Nat.le_of_eq rfl) (hy : y.cls ≠ "java/lang/invoke/MethodHandle" ∧ y.cls ≠ "java/lang/invoke/VarHandle" := by decide) (hf : rm.frames + 1 ≤ R.frames := by decide) (hl : W + (maxL + 11) + rm.locals ≤ R.locals := by decide) (hc : cells + rm.cells ≤ R.cells := by decide) (hs : slots + rm.slots ≤ R.slots := by decide) :
    ∃ (v : Option Value) (U : State) (L : List Loc), Stand p l e R s m args below meth c U (locs ++ L) (cells + rm.cells) (slots + rm.slots) ∧ Q v U.heap L ∧ ∀ target, Steps p.tables e below (U.setTop { g with pc := g.pc + 3, stack := v.toList ++ rest }) target → Steps p.tables e below (T.setTop g) target := by
  obtain ⟨v, _, ⟨U', L', k', n'⟩, -, X', ⟨L, hq, e1, e2, e3⟩, st⟩ := X.specialBack hx hy1 hown (mvT hZ wl) (mvT hZ wt) (mvT hZ wc) hy (backOf (W := W) hM hZ wc wi hf hl) hg (hsz.trans hml.symm) (Steps.refl _) (a := a) hlen hst (by rw [hm]; simpa using hW) hd (fun _ _ => ⟨hA, eT, hc, hs⟩)
  dsimp only [Pt.U, Pt.locs, Pt.cells, Pt.slots] at X' e1 e2 e3 st hq
  subst e1 e2 e3
  exact ⟨v, U', L, X', hq, fun _ k => st.trans k⟩
theorem own_pI (X : Stand p l e R s m args below meth c T locs cells slots) (hx : p.tables.exec = Jvm.exec) (hZ : Z.Warmed39 s.vm) {own : String} {index : Nat} {y : MethodName} {bytes : ByteArray} {maxL ml : Nat} {rm : Room} {as' : Array Value} {Q : Option Value → Heap → List Loc → Prop} (hml : c.maxLocals = ml) (hown : s.vm.findClass own = some m.cls) {n0 : Nat} {r : Option Value} (N : Fr n0 locs)
    (hy1 : y.name = "<init>") (wl : (Jvm.Cond.methodLink own index y).before a0 Z = true) (wt : (Jvm.Cond.instanceMethod y).before a0 Z = true) (wi : (Jvm.Cond.initialized y.cls).before a0 Z = true) (wc : (Jvm.Cond.code y bytes maxL none).before a0 Z = true)
    (eT : T.heap = h) (hM : own_M l Z y bytes maxL none [] rm as' h Q) {a : Addr} {W : Nat} {g : JFrame} {argsL rest : List Value} (hlen : ∀ sig, parseMethodDescriptor y.desc = some sig → argsL.length = sig.parameters.length) (hd : decode c.code g.pc = .ok (.invokespecial index, 3)) (hsz : g.locals.size = ml := by rfl) (hA : (Value.ref a :: argsL).toArray = as' := by rfl) (hg : g.method = m := by rfl) (hst : g.stack = argsL.reverse ++ .ref a :: rest := by rfl) (hm : g.monitorRoom = 0 := by rfl) (hW : (rest.map fun v => v.category).sum ≤ W := by exact Nat.le_of_eq rfl) (hy : y.cls ≠ "java/lang/invoke/MethodHandle" ∧ y.cls ≠ "java/lang/invoke/VarHandle" := by decide) (hf : rm.frames + 1 ≤ R.frames := by decide) (hl : W + (maxL + 11) + rm.locals ≤ R.locals := by decide) (hc : cells + rm.cells ≤ R.cells := by decide) (hs : slots + rm.slots ≤ R.slots := by decide) (hp : ∀ v h' L, Q v h' L → v = r ∧ Fr n0 L ∧ h' = h := by exact fun _ _ _ q => q) :
    ∃ (U : State) (L : List Loc), Stand p l e R s m args below meth c U (locs ++ L) (cells + rm.cells) (slots + rm.slots) ∧ U.heap = h ∧ Fr n0 (locs ++ L) ∧ ∀ target, Steps p.tables e below (U.setTop { g with pc := g.pc + 3, stack := r.toList ++ rest }) target → Steps p.tables e below (T.setTop g) target := by
  obtain ⟨v, U, L, X', hq, st⟩ := own_cI X hx hZ hml hown hy1 wl wt wi wc eT hM hlen hd hsz hA hg hst hm hW hy hf hl hc hs
  obtain ⟨rfl, N', e'⟩ := hp _ _ _ hq
  exact ⟨U, L, X', e', Fr.app N N', st⟩
theorem own_cV (X : Stand p l e R s m args below meth c T locs cells slots) (hx : p.tables.exec = Jvm.exec) (hZ : Z.Warmed39 s.vm) {own C : String} {index : Nat} {y z : MethodName} {bytes : ByteArray} {maxL ml : Nat} {ret : Option FieldType} {rm : Room} {as' : Array Value} {Q : Option Value → Heap → List Loc → Prop} (hml : c.maxLocals = ml) (hown : s.vm.findClass own = some m.cls)
    (wl : (Jvm.Cond.methodLink own index y).before a0 Z = true) (wd : (Jvm.Cond.declares y).before a0 Z = true) (hnf : NotFace s y) (wt : (Jvm.Cond.selects C y z).before a0 Z = true) (wn : (Jvm.Cond.instanceMethod z).before a0 Z = true) (wi : (Jvm.Cond.initialized z.cls).before a0 Z = true) (wc : (Jvm.Cond.code z bytes maxL ret).before a0 Z = true)
    (eT : T.heap = h) (hM : own_M l Z z bytes maxL ret [] rm as' h Q) {a : Addr} (E : Exa Z h a C) {W : Nat} {g : JFrame} {argsL rest : List Value} (hlen : ∀ sig, parseMethodDescriptor y.desc = some sig → argsL.length = sig.parameters.length) (hd : decode c.code g.pc = .ok (.invokevirtual index, 3)) (hsz : g.locals.size = ml := by rfl) (hA : (Value.ref a :: argsL).toArray = as' := by rfl) (hg : g.method = m := by rfl) (hst : g.stack = argsL.reverse ++ .ref a :: rest := by rfl) (hm : g.monitorRoom = 0 := by rfl) (hW : (rest.map fun v => v.category).sum ≤ W := by exact Nat.le_of_eq rfl) (hy : y.cls ≠ "java/lang/invoke/MethodHandle" ∧ y.cls ≠ "java/lang/invoke/VarHandle" := by decide) (hf : rm.frames + 1 ≤ R.frames := by decide) (hl : W + (maxL + 11) + rm.locals ≤ R.locals := by decide) (hc : cells + rm.cells ≤ R.cells := by decide) (hs : slots + rm.slots ≤ R.slots := by decide) :
    ∃ (v : Option Value) (U : State) (L : List Loc), Stand p l e R s m args below meth c U (locs ++ L) (cells + rm.cells) (slots + rm.slots) ∧ Q v U.heap L ∧ ∀ target, Steps p.tables e below (U.setTop { g with pc := g.pc + 3, stack := v.toList ++ rest }) target → Steps p.tables e below (T.setTop g) target := by
  obtain ⟨cq, kq, qa, qb, qc⟩ := isOf hZ eT E
  obtain ⟨v, _, ⟨U', L', k', n'⟩, -, X', ⟨L, hq, e1, e2, e3⟩, st⟩ := X.virtualBack hx hown (mvT hZ wl) (mvT hZ wd) hnf (mvT hZ wt) (mvT hZ wn) hy (backOf (W := W) hM hZ wc wi hf hl) qa qc hg (hsz.trans hml.symm) (Steps.refl _) hlen hst (by rw [hm]; simpa using hW) hd (fun _ _ => ⟨hA, eT, hc, hs⟩)
  dsimp only [Pt.U, Pt.locs, Pt.cells, Pt.slots] at X' e1 e2 e3 st hq
  subst e1 e2 e3
  exact ⟨v, U', L, X', hq, fun _ k => st.trans k⟩
theorem own_pV (X : Stand p l e R s m args below meth c T locs cells slots) (hx : p.tables.exec = Jvm.exec) (hZ : Z.Warmed39 s.vm) {own C : String} {index : Nat} {y z : MethodName} {bytes : ByteArray} {maxL ml : Nat} {ret : Option FieldType} {rm : Room} {as' : Array Value} {Q : Option Value → Heap → List Loc → Prop} (hml : c.maxLocals = ml) (hown : s.vm.findClass own = some m.cls) {n0 : Nat} {r : Option Value} (N : Fr n0 locs)
    (wl : (Jvm.Cond.methodLink own index y).before a0 Z = true) (wd : (Jvm.Cond.declares y).before a0 Z = true) (hnf : NotFace s y) (wt : (Jvm.Cond.selects C y z).before a0 Z = true) (wn : (Jvm.Cond.instanceMethod z).before a0 Z = true) (wi : (Jvm.Cond.initialized z.cls).before a0 Z = true) (wc : (Jvm.Cond.code z bytes maxL ret).before a0 Z = true)
    (eT : T.heap = h) (hM : own_M l Z z bytes maxL ret [] rm as' h Q) {a : Addr} (E : Exa Z h a C) {W : Nat} {g : JFrame} {argsL rest : List Value} (hlen : ∀ sig, parseMethodDescriptor y.desc = some sig → argsL.length = sig.parameters.length) (hd : decode c.code g.pc = .ok (.invokevirtual index, 3)) (hsz : g.locals.size = ml := by rfl) (hA : (Value.ref a :: argsL).toArray = as' := by rfl) (hg : g.method = m := by rfl) (hst : g.stack = argsL.reverse ++ .ref a :: rest := by rfl) (hm : g.monitorRoom = 0 := by rfl) (hW : (rest.map fun v => v.category).sum ≤ W := by exact Nat.le_of_eq rfl) (hy : y.cls ≠ "java/lang/invoke/MethodHandle" ∧ y.cls ≠ "java/lang/invoke/VarHandle" := by decide) (hf : rm.frames + 1 ≤ R.frames := by decide) (hl : W + (maxL + 11) + rm.locals ≤ R.locals := by decide) (hc : cells + rm.cells ≤ R.cells := by decide) (hs : slots + rm.slots ≤ R.slots := by decide) (hp : ∀ v h' L, Q v h' L → v = r ∧ Fr n0 L ∧ h' = h := by exact fun _ _ _ q => q) :
    ∃ (U : State) (L : List Loc), Stand p l e R s m args below meth c U (locs ++ L) (cells + rm.cells) (slots + rm.slots) ∧ U.heap = h ∧ Fr n0 (locs ++ L) ∧ ∀ target, Steps p.tables e below (U.setTop { g with pc := g.pc + 3, stack := r.toList ++ rest }) target → Steps p.tables e below (T.setTop g) target := by
  obtain ⟨v, U, L, X', hq, st⟩ := own_cV X hx hZ hml hown wl wd hnf wt wn wi wc eT hM E hlen hd hsz hA hg hst hm hW hy hf hl hc hs
  obtain ⟨rfl, N', e'⟩ := hp _ _ _ hq
  exact ⟨U, L, X', e', Fr.app N N', st⟩
end OwnC
abbrev own_H (a0 : Array Value) (Z : State) : Prop := ∀ d ∈ tables_1, d.before a0 Z = true
theorem ow {a0 : Array Value} {Z : State} (hw : own_H a0 Z) {d : Jvm.Cond} (i : Nat) (h : tables_1[i]? = some d) : d.before a0 Z = true := hw _ (List.mem_of_getElem? h)
abbrev own_SC (Z : State) (h : Heap) (cs : Int32) : Prop := Sta Z h "java/lang/String" "COMPACT_STRINGS" "Z" (.int cs)
abbrev own_SL (Z : State) (h : Heap) : Prop := Sta Z h "java/lang/StringUTF16" "LO_BYTE_SHIFT" "I" (.int (8 : Int32))
abbrev own_SH (Z : State) (h : Heap) : Prop := Sta Z h "java/lang/StringUTF16" "HI_BYTE_SHIFT" "I" (.int (0 : Int32))
abbrev own_SA (Z : State) (h : Heap) : Prop := Sta Z h "java/lang/StringUTF16" "$assertionsDisabled" "Z" (.int (1 : Int32))
theorem own_fldI {Z : State} {args : Array Value} {t : Term} {a : Addr} {C n d : String} {k : Int32} (ev : t.eval args Z none [] Z = some (.ref a)) (h : (Jvm.Cond.eq (.field t C n d) (.int k)).value args Z none Z [] = some true) : Fld Z Z.heap a C n d (.int k) := by
  obtain ⟨x, y, h1, h2, h3, -⟩ := cmp_v (Or.inl h)
  have e2 : y = .int k := (Option.some.inj (h2.symm.trans (Term.int_eval k)))
  subst e2
  have e1 : x = .int k := by
    cases x with
    | int z => simpa [Cond.value, h1, h2] using h
    | _ => simp [Cond.value, h1, h2] at h
  subst e1
  rw [fld_at ev] at h1
  exact Fld.start h1
theorem own_fldR {Z : State} {args : Array Value} {t t2 : Term} {a b : Addr} {C n d : String} (ev : t.eval args Z none [] Z = some (.ref a)) (ev2 : t2.eval args Z none [] Z = some (.ref b)) (h : (Jvm.Cond.eq (.field t C n d) t2).value args Z none Z [] = some true) : Fld Z Z.heap a C n d (.ref b) := by
  obtain ⟨x, y, h1, h2, h3, -⟩ := cmp_v (Or.inl h)
  have e2 : y = .ref b := (Option.some.inj (h2.symm.trans ev2))
  subst e2
  have e1 : x = .ref b := by
    cases x with
    | ref z => simpa [Cond.value, h1, h2] using h
    | _ => simp [Cond.value, h1, h2] at h
  subst e1
  rw [fld_at ev] at h1
  exact Fld.start h1
theorem own_fldX {Z : State} {args : Array Value} {t : Term} {a b : Addr} {C n d : String} (ev : t.eval args Z none [] Z = some (.ref a)) (h : (Term.field t C n d).eval args Z none [] Z = some (.ref b)) : Fld Z Z.heap a C n d (.ref b) := by
  rw [fld_at ev] at h
  exact Fld.start h
theorem own_fref {v : Value} (n : String) (h : v.isRef = true) : fits (.object n) v = true := by
  cases v <;> first | rfl | (simp [Value.isRef] at h)
theorem own_ifr {P : Prop} [Decidable P] {x y : Value} (h1 : x.isRef = true) (h2 : y.isRef = true) : (if P then x else y).isRef = true := by
  split <;> assumption
theorem own_ke {h h' : Heap} (K : Keep h h' []) : Ext h h' := ⟨K.1, fun a c q => K.2.1 a c q nin0⟩
theorem own_nref {v : Value} (t : FieldType) (h : v.isRef = true) : narrow t v = v := by
  cases v <;> first | (simp [Value.isRef] at h; done) | (cases t <;> rfl)
theorem own_store {l l2 : Array Slot} {i : Nat} {v : Value} {o : Slot} (hold : l[i]? = some o) (ho : o = .unset ∨ ∃ w, o = .val w ∧ w.category = 1) (hv : v.category = 1) (e : l.setIfInBounds i (.val v) = l2) : storeLocals l i v = some l2 := by
  rw [XS.store1 hold ho hv, e]
theorem own_decl {args : Array Value} {s : State} {y : MethodName} {bytes : ByteArray} {maxL : Nat} {ret : Option FieldType} (wi : (Jvm.Cond.instanceMethod y).before args s = true) (wc : (Jvm.Cond.code y bytes maxL ret).before args s = true) : (Jvm.Cond.declares y).before args s = true := by
  obtain ⟨m, meth, h1, h2, h3, -⟩ := Cond.instanceMethod_spec wi
  obtain ⟨meth', c, g1, -, -, -, -, -, -, g8⟩ := Cond.code_spec h1 wc
  cases h2.symm.trans g1
  simp [Cond.before, Cond.holds, Cond.value, h1, h2, h3, g8]
theorem own_nf {args : Array Value} {s : State} {C : String} {y y2 : MethodName} (hsel : (Jvm.Cond.selects C y2 y2).before args s = true) (hc : y.cls = y2.cls) : NotFace s y := fun r0 h0 => by
  obtain ⟨c, r, m, -, -, q3, -, mk, q5, q6⟩ := Cond.selects_spec hsel
  have e1 := findClass_of_methodNamed h0
  have e2 := findClass_of_methodNamed q3
  rw [hc] at e1
  have e3 : r0.cls = m.cls := Option.some.inj (e1.symm.trans e2)
  exact ⟨mk, by rw [e3]; exact q5, q6⟩
theorem own_samem {args : Array Value} {s : State} {C : String} {y y2 : MethodName} (wi : (Jvm.Cond.instanceMethod y).before args s = true) (hsel : (Jvm.Cond.selects C y2 y2).before args s = true) (hc : y.cls = y2.cls) (hy : y.cls ≠ "java/lang/invoke/MethodHandle" ∧ y.cls ≠ "java/lang/invoke/VarHandle") : (Jvm.Cond.sameMethod y.cls y.cls y.name y.desc).before args s = true := by
  obtain ⟨m, meth, h1, -⟩ := Cond.instanceMethod_spec wi
  obtain ⟨kr, k1, k2⟩ := own_nf hsel hc m h1
  have hf := State.methodFound?_of_named h1 hy
  have hcn := findClass_of_methodNamed h1
  simp [Cond.before, Cond.holds, Cond.value, hcn, hf, h1, k1, k2]
theorem d3_0 : decode method_6_code 0 = .ok (.iload_n 0, 1) := by decide +kernel
theorem d3_1 : decode method_6_code 1 = .ok (.bipush 9, 2) := by decide +kernel
theorem d3_3 : decode method_6_code 3 = .ok (.if_icmp .eq 48, 3) := by decide +kernel
theorem d3_6 : decode method_6_code 6 = .ok (.iload_n 0, 1) := by decide +kernel
theorem d3_7 : decode method_6_code 7 = .ok (.bipush 10, 2) := by decide +kernel
theorem d3_9 : decode method_6_code 9 = .ok (.if_icmp .eq 42, 3) := by decide +kernel
theorem d3_12 : decode method_6_code 12 = .ok (.iload_n 0, 1) := by decide +kernel
theorem d3_13 : decode method_6_code 13 = .ok (.bipush 11, 2) := by decide +kernel
theorem d3_15 : decode method_6_code 15 = .ok (.if_icmp .eq 36, 3) := by decide +kernel
theorem d3_18 : decode method_6_code 18 = .ok (.iload_n 0, 1) := by decide +kernel
theorem d3_19 : decode method_6_code 19 = .ok (.bipush 12, 2) := by decide +kernel
theorem d3_21 : decode method_6_code 21 = .ok (.if_icmp .eq 30, 3) := by decide +kernel
theorem d3_24 : decode method_6_code 24 = .ok (.iload_n 0, 1) := by decide +kernel
theorem d3_25 : decode method_6_code 25 = .ok (.bipush 13, 2) := by decide +kernel
theorem d3_27 : decode method_6_code 27 = .ok (.if_icmp .eq 24, 3) := by decide +kernel
theorem d3_30 : decode method_6_code 30 = .ok (.iload_n 0, 1) := by decide +kernel
theorem d3_31 : decode method_6_code 31 = .ok (.sipush 133, 3) := by decide +kernel
theorem d3_34 : decode method_6_code 34 = .ok (.if_icmp .eq 17, 3) := by decide +kernel
theorem d3_37 : decode method_6_code 37 = .ok (.iload_n 0, 1) := by decide +kernel
theorem d3_38 : decode method_6_code 38 = .ok (.sipush 8232, 3) := by decide +kernel
theorem d3_41 : decode method_6_code 41 = .ok (.if_icmp .eq 10, 3) := by decide +kernel
theorem d3_44 : decode method_6_code 44 = .ok (.iload_n 0, 1) := by decide +kernel
theorem d3_45 : decode method_6_code 45 = .ok (.sipush 8233, 3) := by decide +kernel
theorem d3_48 : decode method_6_code 48 = .ok (.if_icmp .ne 7, 3) := by decide +kernel
theorem d3_51 : decode method_6_code 51 = .ok (.iconst 1, 1) := by decide +kernel
theorem d3_52 : decode method_6_code 52 = .ok (.goto 4, 3) := by decide +kernel
theorem d3_55 : decode method_6_code 55 = .ok (.iconst 0, 1) := by decide +kernel
theorem d3_56 : decode method_6_code 56 = .ok (.ireturn, 1) := by decide +kernel
theorem pn_3 : plainName "com/example/lexiflow/lexiflow/model/IdsCheckPinLaw" = true := by first | (simp [plainName, overriddenIn]; done) | decide +kernel
theorem ef_3 (m : MethodId) (x0 : Int32) : entryFrame m #[(.int x0)] 1 = mkF m 0 #[.val (.int x0)] [] := by first | (simp [entryFrame, mkF, argsToLocals, Value.category]; done) | rfl
def own_F3 (p1 : Int32) : Int32 := if p1 = (9 : Int32) then (1 : Int32) else if p1 = (10 : Int32) then (1 : Int32) else if p1 = (11 : Int32) then (1 : Int32) else if p1 = (12 : Int32) then (1 : Int32) else if p1 = (13 : Int32) then (1 : Int32) else if p1 = (133 : Int32) then (1 : Int32) else if p1 = (8232 : Int32) then (1 : Int32) else if p1 = (8233 : Int32) then (1 : Int32) else (0 : Int32)
def Q3 (Z : State) (p1 : Int32) (h0 : Heap) (n0 : Nat) (v : Option Value) (h : Heap) (L : List Loc) : Prop := v = some (.int (own_F3 p1)) ∧ Fr n0 L ∧ h = h0
theorem rm3 (l : Launch) (Z : State) (a0 : Array Value) (hw : own_H a0 Z) (ws : List Jvm.Cond) (p1 : Int32) (h0 : Heap) (n0 : Nat) (Z0 : n0 ≤ h0.size) :
    own_M l Z (⟨"com/example/lexiflow/lexiflow/model/IdsCheckPinLaw", "forbidden", "(C)Z"⟩ : MethodName) method_6_code 1 (some .boolean) ws ({ frames := 0, cells := 0, slots := 0, locals := 0 } : Room) #[(.int p1)] h0 (Q3 Z p1 h0 n0) := by
  refine own_bd (n0 := n0) (plainFor_of_name pn_3) fun p e s m below meth c s₁ Bd hZ hx hby hml hown X0 e0 N0 => ?_
  have pre0 := own_p0 (tb := p.tables) (e := e) (below := below) (s := s₁) (ef_3 m p1)
  have pre1 := own_go pre0 (s₁.setTop (mkF m 3 #[iv p1] [(.int 9), (.int p1)])) fun t kt => by
    refine XS.iloadN X0.here hx rfl (hb hby d3_0) rfl ?_
    refine XS.bipush X0.here hx rfl (hb hby d3_1) ?_
    exact kt
  by_cases hc3_2 : p1 = (9 : Int32)
  · have pre3 := own_go pre1 (s₁.setTop (mkF m 56 #[iv p1] [(.int 1)])) fun t kt => by
      refine XS.icmpYes X0.here hx rfl (pc0 := 3) (pc' := 51) rfl (hb hby d3_3) rfl (teq hc3_2).1 (by decide) (by decide) ?_
      refine XS.iconst X0.here hx rfl (hb hby d3_51) ?_
      refine XS.goto X0.here hx rfl (pc0 := 52) (pc' := 56) rfl (hb hby d3_52) (by decide) (by decide) ?_
      exact kt
    refine own_lv X0 Bd.notSynchronized (v := some (.int 1)) (own_nv Bd.returns) pre3 (fun fs hr => retN X0 hx (t := .boolean) Bd.returns (by simp) (hb hby d3_56) hr) ?_
    show Q3 Z p1 h0 n0 _ s₁.heap _
    rw [e0]
    exact ⟨(by rw [own_F3, if_pos hc3_2]), N0, rfl⟩
  · have pre4 := own_go pre1 (s₁.setTop (mkF m 9 #[iv p1] [(.int 10), (.int p1)])) fun t kt => by
      refine XS.icmpNo X0.here hx rfl (hb hby d3_3) rfl (feq hc3_2).1 ?_
      refine XS.iloadN X0.here hx rfl (hb hby d3_6) rfl ?_
      refine XS.bipush X0.here hx rfl (hb hby d3_7) ?_
      exact kt
    by_cases hc9_5 : p1 = (10 : Int32)
    · have pre6 := own_go pre4 (s₁.setTop (mkF m 56 #[iv p1] [(.int 1)])) fun t kt => by
        refine XS.icmpYes X0.here hx rfl (pc0 := 9) (pc' := 51) rfl (hb hby d3_9) rfl (teq hc9_5).1 (by decide) (by decide) ?_
        refine XS.iconst X0.here hx rfl (hb hby d3_51) ?_
        refine XS.goto X0.here hx rfl (pc0 := 52) (pc' := 56) rfl (hb hby d3_52) (by decide) (by decide) ?_
        exact kt
      refine own_lv X0 Bd.notSynchronized (v := some (.int 1)) (own_nv Bd.returns) pre6 (fun fs hr => retN X0 hx (t := .boolean) Bd.returns (by simp) (hb hby d3_56) hr) ?_
      show Q3 Z p1 h0 n0 _ s₁.heap _
      rw [e0]
      exact ⟨(by rw [own_F3, if_neg hc3_2, if_pos hc9_5]), N0, rfl⟩
    · have pre7 := own_go pre4 (s₁.setTop (mkF m 15 #[iv p1] [(.int 11), (.int p1)])) fun t kt => by
        refine XS.icmpNo X0.here hx rfl (hb hby d3_9) rfl (feq hc9_5).1 ?_
        refine XS.iloadN X0.here hx rfl (hb hby d3_12) rfl ?_
        refine XS.bipush X0.here hx rfl (hb hby d3_13) ?_
        exact kt
      by_cases hc15_8 : p1 = (11 : Int32)
      · have pre9 := own_go pre7 (s₁.setTop (mkF m 56 #[iv p1] [(.int 1)])) fun t kt => by
          refine XS.icmpYes X0.here hx rfl (pc0 := 15) (pc' := 51) rfl (hb hby d3_15) rfl (teq hc15_8).1 (by decide) (by decide) ?_
          refine XS.iconst X0.here hx rfl (hb hby d3_51) ?_
          refine XS.goto X0.here hx rfl (pc0 := 52) (pc' := 56) rfl (hb hby d3_52) (by decide) (by decide) ?_
          exact kt
        refine own_lv X0 Bd.notSynchronized (v := some (.int 1)) (own_nv Bd.returns) pre9 (fun fs hr => retN X0 hx (t := .boolean) Bd.returns (by simp) (hb hby d3_56) hr) ?_
        show Q3 Z p1 h0 n0 _ s₁.heap _
        rw [e0]
        exact ⟨(by rw [own_F3, if_neg hc3_2, if_neg hc9_5, if_pos hc15_8]), N0, rfl⟩
      · have pre10 := own_go pre7 (s₁.setTop (mkF m 21 #[iv p1] [(.int 12), (.int p1)])) fun t kt => by
          refine XS.icmpNo X0.here hx rfl (hb hby d3_15) rfl (feq hc15_8).1 ?_
          refine XS.iloadN X0.here hx rfl (hb hby d3_18) rfl ?_
          refine XS.bipush X0.here hx rfl (hb hby d3_19) ?_
          exact kt
        by_cases hc21_11 : p1 = (12 : Int32)
        · have pre12 := own_go pre10 (s₁.setTop (mkF m 56 #[iv p1] [(.int 1)])) fun t kt => by
            refine XS.icmpYes X0.here hx rfl (pc0 := 21) (pc' := 51) rfl (hb hby d3_21) rfl (teq hc21_11).1 (by decide) (by decide) ?_
            refine XS.iconst X0.here hx rfl (hb hby d3_51) ?_
            refine XS.goto X0.here hx rfl (pc0 := 52) (pc' := 56) rfl (hb hby d3_52) (by decide) (by decide) ?_
            exact kt
          refine own_lv X0 Bd.notSynchronized (v := some (.int 1)) (own_nv Bd.returns) pre12 (fun fs hr => retN X0 hx (t := .boolean) Bd.returns (by simp) (hb hby d3_56) hr) ?_
          show Q3 Z p1 h0 n0 _ s₁.heap _
          rw [e0]
          exact ⟨(by rw [own_F3, if_neg hc3_2, if_neg hc9_5, if_neg hc15_8, if_pos hc21_11]), N0, rfl⟩
        · have pre13 := own_go pre10 (s₁.setTop (mkF m 27 #[iv p1] [(.int 13), (.int p1)])) fun t kt => by
            refine XS.icmpNo X0.here hx rfl (hb hby d3_21) rfl (feq hc21_11).1 ?_
            refine XS.iloadN X0.here hx rfl (hb hby d3_24) rfl ?_
            refine XS.bipush X0.here hx rfl (hb hby d3_25) ?_
            exact kt
          by_cases hc27_14 : p1 = (13 : Int32)
          · have pre15 := own_go pre13 (s₁.setTop (mkF m 56 #[iv p1] [(.int 1)])) fun t kt => by
              refine XS.icmpYes X0.here hx rfl (pc0 := 27) (pc' := 51) rfl (hb hby d3_27) rfl (teq hc27_14).1 (by decide) (by decide) ?_
              refine XS.iconst X0.here hx rfl (hb hby d3_51) ?_
              refine XS.goto X0.here hx rfl (pc0 := 52) (pc' := 56) rfl (hb hby d3_52) (by decide) (by decide) ?_
              exact kt
            refine own_lv X0 Bd.notSynchronized (v := some (.int 1)) (own_nv Bd.returns) pre15 (fun fs hr => retN X0 hx (t := .boolean) Bd.returns (by simp) (hb hby d3_56) hr) ?_
            show Q3 Z p1 h0 n0 _ s₁.heap _
            rw [e0]
            exact ⟨(by rw [own_F3, if_neg hc3_2, if_neg hc9_5, if_neg hc15_8, if_neg hc21_11, if_pos hc27_14]), N0, rfl⟩
          · have pre16 := own_go pre13 (s₁.setTop (mkF m 34 #[iv p1] [(.int 133), (.int p1)])) fun t kt => by
              refine XS.icmpNo X0.here hx rfl (hb hby d3_27) rfl (feq hc27_14).1 ?_
              refine XS.iloadN X0.here hx rfl (hb hby d3_30) rfl ?_
              refine XS.sipush X0.here hx rfl (hb hby d3_31) ?_
              exact kt
            by_cases hc34_17 : p1 = (133 : Int32)
            · have pre18 := own_go pre16 (s₁.setTop (mkF m 56 #[iv p1] [(.int 1)])) fun t kt => by
                refine XS.icmpYes X0.here hx rfl (pc0 := 34) (pc' := 51) rfl (hb hby d3_34) rfl (teq hc34_17).1 (by decide) (by decide) ?_
                refine XS.iconst X0.here hx rfl (hb hby d3_51) ?_
                refine XS.goto X0.here hx rfl (pc0 := 52) (pc' := 56) rfl (hb hby d3_52) (by decide) (by decide) ?_
                exact kt
              refine own_lv X0 Bd.notSynchronized (v := some (.int 1)) (own_nv Bd.returns) pre18 (fun fs hr => retN X0 hx (t := .boolean) Bd.returns (by simp) (hb hby d3_56) hr) ?_
              show Q3 Z p1 h0 n0 _ s₁.heap _
              rw [e0]
              exact ⟨(by rw [own_F3, if_neg hc3_2, if_neg hc9_5, if_neg hc15_8, if_neg hc21_11, if_neg hc27_14, if_pos hc34_17]), N0, rfl⟩
            · have pre19 := own_go pre16 (s₁.setTop (mkF m 41 #[iv p1] [(.int 8232), (.int p1)])) fun t kt => by
                refine XS.icmpNo X0.here hx rfl (hb hby d3_34) rfl (feq hc34_17).1 ?_
                refine XS.iloadN X0.here hx rfl (hb hby d3_37) rfl ?_
                refine XS.sipush X0.here hx rfl (hb hby d3_38) ?_
                exact kt
              by_cases hc41_20 : p1 = (8232 : Int32)
              · have pre21 := own_go pre19 (s₁.setTop (mkF m 56 #[iv p1] [(.int 1)])) fun t kt => by
                  refine XS.icmpYes X0.here hx rfl (pc0 := 41) (pc' := 51) rfl (hb hby d3_41) rfl (teq hc41_20).1 (by decide) (by decide) ?_
                  refine XS.iconst X0.here hx rfl (hb hby d3_51) ?_
                  refine XS.goto X0.here hx rfl (pc0 := 52) (pc' := 56) rfl (hb hby d3_52) (by decide) (by decide) ?_
                  exact kt
                refine own_lv X0 Bd.notSynchronized (v := some (.int 1)) (own_nv Bd.returns) pre21 (fun fs hr => retN X0 hx (t := .boolean) Bd.returns (by simp) (hb hby d3_56) hr) ?_
                show Q3 Z p1 h0 n0 _ s₁.heap _
                rw [e0]
                exact ⟨(by rw [own_F3, if_neg hc3_2, if_neg hc9_5, if_neg hc15_8, if_neg hc21_11, if_neg hc27_14, if_neg hc34_17, if_pos hc41_20]), N0, rfl⟩
              · have pre22 := own_go pre19 (s₁.setTop (mkF m 48 #[iv p1] [(.int 8233), (.int p1)])) fun t kt => by
                  refine XS.icmpNo X0.here hx rfl (hb hby d3_41) rfl (feq hc41_20).1 ?_
                  refine XS.iloadN X0.here hx rfl (hb hby d3_44) rfl ?_
                  refine XS.sipush X0.here hx rfl (hb hby d3_45) ?_
                  exact kt
                by_cases hc48_23 : p1 = (8233 : Int32)
                · have pre24 := own_go pre22 (s₁.setTop (mkF m 56 #[iv p1] [(.int 1)])) fun t kt => by
                    refine XS.icmpNo X0.here hx rfl (hb hby d3_48) rfl (teq hc48_23).2 ?_
                    refine XS.iconst X0.here hx rfl (hb hby d3_51) ?_
                    refine XS.goto X0.here hx rfl (pc0 := 52) (pc' := 56) rfl (hb hby d3_52) (by decide) (by decide) ?_
                    exact kt
                  refine own_lv X0 Bd.notSynchronized (v := some (.int 1)) (own_nv Bd.returns) pre24 (fun fs hr => retN X0 hx (t := .boolean) Bd.returns (by simp) (hb hby d3_56) hr) ?_
                  show Q3 Z p1 h0 n0 _ s₁.heap _
                  rw [e0]
                  exact ⟨(by rw [own_F3, if_neg hc3_2, if_neg hc9_5, if_neg hc15_8, if_neg hc21_11, if_neg hc27_14, if_neg hc34_17, if_neg hc41_20, if_pos hc48_23]), N0, rfl⟩
                · have pre25 := own_go pre22 (s₁.setTop (mkF m 56 #[iv p1] [(.int 0)])) fun t kt => by
                    refine XS.icmpYes X0.here hx rfl (pc0 := 48) (pc' := 55) rfl (hb hby d3_48) rfl (feq hc48_23).2 (by decide) (by decide) ?_
                    refine XS.iconst X0.here hx rfl (hb hby d3_55) ?_
                    exact kt
                  refine own_lv X0 Bd.notSynchronized (v := some (.int 0)) (own_nv Bd.returns) pre25 (fun fs hr => retN X0 hx (t := .boolean) Bd.returns (by simp) (hb hby d3_56) hr) ?_
                  show Q3 Z p1 h0 n0 _ s₁.heap _
                  rw [e0]
                  exact ⟨(by rw [own_F3, if_neg hc3_2, if_neg hc9_5, if_neg hc15_8, if_neg hc21_11, if_neg hc27_14, if_neg hc34_17, if_neg hc41_20, if_neg hc48_23]), N0, rfl⟩
theorem d4_0 : decode method_4_code 0 = .ok (.iload_n 0, 1) := by decide +kernel
theorem d4_1 : decode method_4_code 1 = .ok (.ldc 33, 2) := by decide +kernel
theorem d4_3 : decode method_4_code 3 = .ok (.if_icmp .lt 13, 3) := by decide +kernel
theorem d4_6 : decode method_4_code 6 = .ok (.iload_n 0, 1) := by decide +kernel
theorem d4_7 : decode method_4_code 7 = .ok (.ldc 38, 2) := by decide +kernel
theorem d4_9 : decode method_4_code 9 = .ok (.if_icmp .gt 7, 3) := by decide +kernel
theorem d4_12 : decode method_4_code 12 = .ok (.iconst 1, 1) := by decide +kernel
theorem d4_13 : decode method_4_code 13 = .ok (.goto 4, 3) := by decide +kernel
theorem d4_16 : decode method_4_code 16 = .ok (.iconst 0, 1) := by decide +kernel
theorem d4_17 : decode method_4_code 17 = .ok (.ireturn, 1) := by decide +kernel
theorem pn_4 : plainName "com/example/lexiflow/lexiflow/model/IdsCheckPinLaw" = true := by first | (simp [plainName, overriddenIn]; done) | decide +kernel
theorem ef_4 (m : MethodId) (x0 : Int32) : entryFrame m #[(.int x0)] 1 = mkF m 0 #[.val (.int x0)] [] := by first | (simp [entryFrame, mkF, argsToLocals, Value.category]; done) | rfl
def own_F4 (p1 : Int32) : Int32 := if p1 < (55296 : Int32) then (0 : Int32) else if (56319 : Int32) < p1 then (0 : Int32) else (1 : Int32)
def Q4 (Z : State) (p1 : Int32) (h0 : Heap) (n0 : Nat) (v : Option Value) (h : Heap) (L : List Loc) : Prop := v = some (.int (own_F4 p1)) ∧ Fr n0 L ∧ h = h0
theorem rm4 (l : Launch) (Z : State) (a0 : Array Value) (hw : own_H a0 Z) (ws : List Jvm.Cond) (p1 : Int32) (h0 : Heap) (n0 : Nat) (Z0 : n0 ≤ h0.size) :
    own_M l Z (⟨"com/example/lexiflow/lexiflow/model/IdsCheckPinLaw", "isHigh", "(C)Z"⟩ : MethodName) method_4_code 1 (some .boolean) ws ({ frames := 0, cells := 0, slots := 0, locals := 0 } : Room) #[(.int p1)] h0 (Q4 Z p1 h0 n0) := by
  refine own_bd (n0 := n0) (plainFor_of_name pn_4) fun p e s m below meth c s₁ Bd hZ hx hby hml hown X0 e0 N0 => ?_
  have pre0 := own_p0 (tb := p.tables) (e := e) (below := below) (s := s₁) (ef_4 m p1)
  have pre26 := own_go pre0 (s₁.setTop (mkF m 3 #[iv p1] [(.int 55296), (.int p1)])) fun t kt => by
    refine XS.iloadN X0.here hx rfl (hb hby d4_0) rfl ?_
    refine X0.ldcInt hx hown (mvT hZ (ow hw 15 rfl)) (g := (mkF m 1 #[iv p1] [(.int p1)])) rfl (hb hby d4_1) _ ?_
    exact kt
  by_cases hc3_27 : p1 < (55296 : Int32)
  · have pre28 := own_go pre26 (s₁.setTop (mkF m 17 #[iv p1] [(.int 0)])) fun t kt => by
      refine XS.icmpYes X0.here hx rfl (pc0 := 3) (pc' := 16) rfl (hb hby d4_3) rfl (tlt hc3_27).1 (by decide) (by decide) ?_
      refine XS.iconst X0.here hx rfl (hb hby d4_16) ?_
      exact kt
    refine own_lv X0 Bd.notSynchronized (v := some (.int 0)) (own_nv Bd.returns) pre28 (fun fs hr => retN X0 hx (t := .boolean) Bd.returns (by simp) (hb hby d4_17) hr) ?_
    show Q4 Z p1 h0 n0 _ s₁.heap _
    rw [e0]
    exact ⟨(by rw [own_F4, if_pos hc3_27]), N0, rfl⟩
  · have pre29 := own_go pre26 (s₁.setTop (mkF m 9 #[iv p1] [(.int 56319), (.int p1)])) fun t kt => by
      refine XS.icmpNo X0.here hx rfl (hb hby d4_3) rfl (flt hc3_27).1 ?_
      refine XS.iloadN X0.here hx rfl (hb hby d4_6) rfl ?_
      refine X0.ldcInt hx hown (mvT hZ (ow hw 105 rfl)) (g := (mkF m 7 #[iv p1] [(.int p1)])) rfl (hb hby d4_7) _ ?_
      exact kt
    by_cases hc9_30 : (56319 : Int32) < p1
    · have pre31 := own_go pre29 (s₁.setTop (mkF m 17 #[iv p1] [(.int 0)])) fun t kt => by
        refine XS.icmpYes X0.here hx rfl (pc0 := 9) (pc' := 16) rfl (hb hby d4_9) rfl (tlt hc9_30).2.2.1 (by decide) (by decide) ?_
        refine XS.iconst X0.here hx rfl (hb hby d4_16) ?_
        exact kt
      refine own_lv X0 Bd.notSynchronized (v := some (.int 0)) (own_nv Bd.returns) pre31 (fun fs hr => retN X0 hx (t := .boolean) Bd.returns (by simp) (hb hby d4_17) hr) ?_
      show Q4 Z p1 h0 n0 _ s₁.heap _
      rw [e0]
      exact ⟨(by rw [own_F4, if_neg hc3_27, if_pos hc9_30]), N0, rfl⟩
    · have pre32 := own_go pre29 (s₁.setTop (mkF m 17 #[iv p1] [(.int 1)])) fun t kt => by
        refine XS.icmpNo X0.here hx rfl (hb hby d4_9) rfl (flt hc9_30).2.2.1 ?_
        refine XS.iconst X0.here hx rfl (hb hby d4_12) ?_
        refine XS.goto X0.here hx rfl (pc0 := 13) (pc' := 17) rfl (hb hby d4_13) (by decide) (by decide) ?_
        exact kt
      refine own_lv X0 Bd.notSynchronized (v := some (.int 1)) (own_nv Bd.returns) pre32 (fun fs hr => retN X0 hx (t := .boolean) Bd.returns (by simp) (hb hby d4_17) hr) ?_
      show Q4 Z p1 h0 n0 _ s₁.heap _
      rw [e0]
      exact ⟨(by rw [own_F4, if_neg hc3_27, if_neg hc9_30]), N0, rfl⟩
theorem d5_0 : decode method_5_code 0 = .ok (.iload_n 0, 1) := by decide +kernel
theorem d5_1 : decode method_5_code 1 = .ok (.ldc 34, 2) := by decide +kernel
theorem d5_3 : decode method_5_code 3 = .ok (.if_icmp .lt 13, 3) := by decide +kernel
theorem d5_6 : decode method_5_code 6 = .ok (.iload_n 0, 1) := by decide +kernel
theorem d5_7 : decode method_5_code 7 = .ok (.ldc 39, 2) := by decide +kernel
theorem d5_9 : decode method_5_code 9 = .ok (.if_icmp .gt 7, 3) := by decide +kernel
theorem d5_12 : decode method_5_code 12 = .ok (.iconst 1, 1) := by decide +kernel
theorem d5_13 : decode method_5_code 13 = .ok (.goto 4, 3) := by decide +kernel
theorem d5_16 : decode method_5_code 16 = .ok (.iconst 0, 1) := by decide +kernel
theorem d5_17 : decode method_5_code 17 = .ok (.ireturn, 1) := by decide +kernel
theorem pn_5 : plainName "com/example/lexiflow/lexiflow/model/IdsCheckPinLaw" = true := by first | (simp [plainName, overriddenIn]; done) | decide +kernel
theorem ef_5 (m : MethodId) (x0 : Int32) : entryFrame m #[(.int x0)] 1 = mkF m 0 #[.val (.int x0)] [] := by first | (simp [entryFrame, mkF, argsToLocals, Value.category]; done) | rfl
def own_F5 (p1 : Int32) : Int32 := if p1 < (56320 : Int32) then (0 : Int32) else if (57343 : Int32) < p1 then (0 : Int32) else (1 : Int32)
def Q5 (Z : State) (p1 : Int32) (h0 : Heap) (n0 : Nat) (v : Option Value) (h : Heap) (L : List Loc) : Prop := v = some (.int (own_F5 p1)) ∧ Fr n0 L ∧ h = h0
theorem rm5 (l : Launch) (Z : State) (a0 : Array Value) (hw : own_H a0 Z) (ws : List Jvm.Cond) (p1 : Int32) (h0 : Heap) (n0 : Nat) (Z0 : n0 ≤ h0.size) :
    own_M l Z (⟨"com/example/lexiflow/lexiflow/model/IdsCheckPinLaw", "isLow", "(C)Z"⟩ : MethodName) method_5_code 1 (some .boolean) ws ({ frames := 0, cells := 0, slots := 0, locals := 0 } : Room) #[(.int p1)] h0 (Q5 Z p1 h0 n0) := by
  refine own_bd (n0 := n0) (plainFor_of_name pn_5) fun p e s m below meth c s₁ Bd hZ hx hby hml hown X0 e0 N0 => ?_
  have pre0 := own_p0 (tb := p.tables) (e := e) (below := below) (s := s₁) (ef_5 m p1)
  have pre33 := own_go pre0 (s₁.setTop (mkF m 3 #[iv p1] [(.int 56320), (.int p1)])) fun t kt => by
    refine XS.iloadN X0.here hx rfl (hb hby d5_0) rfl ?_
    refine X0.ldcInt hx hown (mvT hZ (ow hw 19 rfl)) (g := (mkF m 1 #[iv p1] [(.int p1)])) rfl (hb hby d5_1) _ ?_
    exact kt
  by_cases hc3_34 : p1 < (56320 : Int32)
  · have pre35 := own_go pre33 (s₁.setTop (mkF m 17 #[iv p1] [(.int 0)])) fun t kt => by
      refine XS.icmpYes X0.here hx rfl (pc0 := 3) (pc' := 16) rfl (hb hby d5_3) rfl (tlt hc3_34).1 (by decide) (by decide) ?_
      refine XS.iconst X0.here hx rfl (hb hby d5_16) ?_
      exact kt
    refine own_lv X0 Bd.notSynchronized (v := some (.int 0)) (own_nv Bd.returns) pre35 (fun fs hr => retN X0 hx (t := .boolean) Bd.returns (by simp) (hb hby d5_17) hr) ?_
    show Q5 Z p1 h0 n0 _ s₁.heap _
    rw [e0]
    exact ⟨(by rw [own_F5, if_pos hc3_34]), N0, rfl⟩
  · have pre36 := own_go pre33 (s₁.setTop (mkF m 9 #[iv p1] [(.int 57343), (.int p1)])) fun t kt => by
      refine XS.icmpNo X0.here hx rfl (hb hby d5_3) rfl (flt hc3_34).1 ?_
      refine XS.iloadN X0.here hx rfl (hb hby d5_6) rfl ?_
      refine X0.ldcInt hx hown (mvT hZ (ow hw 135 rfl)) (g := (mkF m 7 #[iv p1] [(.int p1)])) rfl (hb hby d5_7) _ ?_
      exact kt
    by_cases hc9_37 : (57343 : Int32) < p1
    · have pre38 := own_go pre36 (s₁.setTop (mkF m 17 #[iv p1] [(.int 0)])) fun t kt => by
        refine XS.icmpYes X0.here hx rfl (pc0 := 9) (pc' := 16) rfl (hb hby d5_9) rfl (tlt hc9_37).2.2.1 (by decide) (by decide) ?_
        refine XS.iconst X0.here hx rfl (hb hby d5_16) ?_
        exact kt
      refine own_lv X0 Bd.notSynchronized (v := some (.int 0)) (own_nv Bd.returns) pre38 (fun fs hr => retN X0 hx (t := .boolean) Bd.returns (by simp) (hb hby d5_17) hr) ?_
      show Q5 Z p1 h0 n0 _ s₁.heap _
      rw [e0]
      exact ⟨(by rw [own_F5, if_neg hc3_34, if_pos hc9_37]), N0, rfl⟩
    · have pre39 := own_go pre36 (s₁.setTop (mkF m 17 #[iv p1] [(.int 1)])) fun t kt => by
        refine XS.icmpNo X0.here hx rfl (hb hby d5_9) rfl (flt hc9_37).2.2.1 ?_
        refine XS.iconst X0.here hx rfl (hb hby d5_12) ?_
        refine XS.goto X0.here hx rfl (pc0 := 13) (pc' := 17) rfl (hb hby d5_13) (by decide) (by decide) ?_
        exact kt
      refine own_lv X0 Bd.notSynchronized (v := some (.int 1)) (own_nv Bd.returns) pre39 (fun fs hr => retN X0 hx (t := .boolean) Bd.returns (by simp) (hb hby d5_17) hr) ?_
      show Q5 Z p1 h0 n0 _ s₁.heap _
      rw [e0]
      exact ⟨(by rw [own_F5, if_neg hc3_34, if_neg hc9_37]), N0, rfl⟩
theorem d21_0 : decode prog_23_method_4_code 0 = .ok (.iload_n 0, 1) := by decide +kernel
theorem d21_1 : decode prog_23_method_4_code 1 = .ok (.bipush 10, 2) := by decide +kernel
theorem d21_3 : decode prog_23_method_4_code 3 = .ok (.if_icmp .eq 42, 3) := by decide +kernel
theorem d21_6 : decode prog_23_method_4_code 6 = .ok (.iload_n 0, 1) := by decide +kernel
theorem d21_7 : decode prog_23_method_4_code 7 = .ok (.bipush 13, 2) := by decide +kernel
theorem d21_9 : decode prog_23_method_4_code 9 = .ok (.if_icmp .eq 36, 3) := by decide +kernel
theorem d21_12 : decode prog_23_method_4_code 12 = .ok (.iload_n 0, 1) := by decide +kernel
theorem d21_13 : decode prog_23_method_4_code 13 = .ok (.bipush 11, 2) := by decide +kernel
theorem d21_15 : decode prog_23_method_4_code 15 = .ok (.if_icmp .eq 30, 3) := by decide +kernel
theorem d21_18 : decode prog_23_method_4_code 18 = .ok (.iload_n 0, 1) := by decide +kernel
theorem d21_19 : decode prog_23_method_4_code 19 = .ok (.bipush 12, 2) := by decide +kernel
theorem d21_21 : decode prog_23_method_4_code 21 = .ok (.if_icmp .eq 24, 3) := by decide +kernel
theorem d21_24 : decode prog_23_method_4_code 24 = .ok (.iload_n 0, 1) := by decide +kernel
theorem d21_25 : decode prog_23_method_4_code 25 = .ok (.sipush 133, 3) := by decide +kernel
theorem d21_28 : decode prog_23_method_4_code 28 = .ok (.if_icmp .eq 17, 3) := by decide +kernel
theorem d21_31 : decode prog_23_method_4_code 31 = .ok (.iload_n 0, 1) := by decide +kernel
theorem d21_32 : decode prog_23_method_4_code 32 = .ok (.sipush 8232, 3) := by decide +kernel
theorem d21_35 : decode prog_23_method_4_code 35 = .ok (.if_icmp .eq 10, 3) := by decide +kernel
theorem d21_38 : decode prog_23_method_4_code 38 = .ok (.iload_n 0, 1) := by decide +kernel
theorem d21_39 : decode prog_23_method_4_code 39 = .ok (.sipush 8233, 3) := by decide +kernel
theorem d21_42 : decode prog_23_method_4_code 42 = .ok (.if_icmp .ne 7, 3) := by decide +kernel
theorem d21_45 : decode prog_23_method_4_code 45 = .ok (.iconst 1, 1) := by decide +kernel
theorem d21_46 : decode prog_23_method_4_code 46 = .ok (.goto 4, 3) := by decide +kernel
theorem d21_49 : decode prog_23_method_4_code 49 = .ok (.iconst 0, 1) := by decide +kernel
theorem d21_50 : decode prog_23_method_4_code 50 = .ok (.ireturn, 1) := by decide +kernel
theorem pn_21 : plainName "com/example/lexiflow/lexiflow/model/Ids" = true := by first | (simp [plainName, overriddenIn]; done) | decide +kernel
theorem ef_21 (m : MethodId) (x0 : Int32) : entryFrame m #[(.int x0)] 1 = mkF m 0 #[.val (.int x0)] [] := by first | (simp [entryFrame, mkF, argsToLocals, Value.category]; done) | rfl
def own_F21 (p1 : Int32) : Int32 := if p1 = (10 : Int32) then (1 : Int32) else if p1 = (13 : Int32) then (1 : Int32) else if p1 = (11 : Int32) then (1 : Int32) else if p1 = (12 : Int32) then (1 : Int32) else if p1 = (133 : Int32) then (1 : Int32) else if p1 = (8232 : Int32) then (1 : Int32) else if p1 = (8233 : Int32) then (1 : Int32) else (0 : Int32)
def Q21 (Z : State) (p1 : Int32) (h0 : Heap) (n0 : Nat) (v : Option Value) (h : Heap) (L : List Loc) : Prop := v = some (.int (own_F21 p1)) ∧ Fr n0 L ∧ h = h0
theorem rm21 (l : Launch) (Z : State) (a0 : Array Value) (hw : own_H a0 Z) (ws : List Jvm.Cond) (p1 : Int32) (h0 : Heap) (n0 : Nat) (Z0 : n0 ≤ h0.size) :
    own_M l Z (⟨"com/example/lexiflow/lexiflow/model/Ids", "isLineBreak", "(C)Z"⟩ : MethodName) prog_23_method_4_code 1 (some .boolean) ws ({ frames := 0, cells := 0, slots := 0, locals := 0 } : Room) #[(.int p1)] h0 (Q21 Z p1 h0 n0) := by
  refine own_bd (n0 := n0) (plainFor_of_name pn_21) fun p e s m below meth c s₁ Bd hZ hx hby hml hown X0 e0 N0 => ?_
  have pre0 := own_p0 (tb := p.tables) (e := e) (below := below) (s := s₁) (ef_21 m p1)
  have pre40 := own_go pre0 (s₁.setTop (mkF m 3 #[iv p1] [(.int 10), (.int p1)])) fun t kt => by
    refine XS.iloadN X0.here hx rfl (hb hby d21_0) rfl ?_
    refine XS.bipush X0.here hx rfl (hb hby d21_1) ?_
    exact kt
  by_cases hc3_41 : p1 = (10 : Int32)
  · have pre42 := own_go pre40 (s₁.setTop (mkF m 50 #[iv p1] [(.int 1)])) fun t kt => by
      refine XS.icmpYes X0.here hx rfl (pc0 := 3) (pc' := 45) rfl (hb hby d21_3) rfl (teq hc3_41).1 (by decide) (by decide) ?_
      refine XS.iconst X0.here hx rfl (hb hby d21_45) ?_
      refine XS.goto X0.here hx rfl (pc0 := 46) (pc' := 50) rfl (hb hby d21_46) (by decide) (by decide) ?_
      exact kt
    refine own_lv X0 Bd.notSynchronized (v := some (.int 1)) (own_nv Bd.returns) pre42 (fun fs hr => retN X0 hx (t := .boolean) Bd.returns (by simp) (hb hby d21_50) hr) ?_
    show Q21 Z p1 h0 n0 _ s₁.heap _
    rw [e0]
    exact ⟨(by rw [own_F21, if_pos hc3_41]), N0, rfl⟩
  · have pre43 := own_go pre40 (s₁.setTop (mkF m 9 #[iv p1] [(.int 13), (.int p1)])) fun t kt => by
      refine XS.icmpNo X0.here hx rfl (hb hby d21_3) rfl (feq hc3_41).1 ?_
      refine XS.iloadN X0.here hx rfl (hb hby d21_6) rfl ?_
      refine XS.bipush X0.here hx rfl (hb hby d21_7) ?_
      exact kt
    by_cases hc9_44 : p1 = (13 : Int32)
    · have pre45 := own_go pre43 (s₁.setTop (mkF m 50 #[iv p1] [(.int 1)])) fun t kt => by
        refine XS.icmpYes X0.here hx rfl (pc0 := 9) (pc' := 45) rfl (hb hby d21_9) rfl (teq hc9_44).1 (by decide) (by decide) ?_
        refine XS.iconst X0.here hx rfl (hb hby d21_45) ?_
        refine XS.goto X0.here hx rfl (pc0 := 46) (pc' := 50) rfl (hb hby d21_46) (by decide) (by decide) ?_
        exact kt
      refine own_lv X0 Bd.notSynchronized (v := some (.int 1)) (own_nv Bd.returns) pre45 (fun fs hr => retN X0 hx (t := .boolean) Bd.returns (by simp) (hb hby d21_50) hr) ?_
      show Q21 Z p1 h0 n0 _ s₁.heap _
      rw [e0]
      exact ⟨(by rw [own_F21, if_neg hc3_41, if_pos hc9_44]), N0, rfl⟩
    · have pre46 := own_go pre43 (s₁.setTop (mkF m 15 #[iv p1] [(.int 11), (.int p1)])) fun t kt => by
        refine XS.icmpNo X0.here hx rfl (hb hby d21_9) rfl (feq hc9_44).1 ?_
        refine XS.iloadN X0.here hx rfl (hb hby d21_12) rfl ?_
        refine XS.bipush X0.here hx rfl (hb hby d21_13) ?_
        exact kt
      by_cases hc15_47 : p1 = (11 : Int32)
      · have pre48 := own_go pre46 (s₁.setTop (mkF m 50 #[iv p1] [(.int 1)])) fun t kt => by
          refine XS.icmpYes X0.here hx rfl (pc0 := 15) (pc' := 45) rfl (hb hby d21_15) rfl (teq hc15_47).1 (by decide) (by decide) ?_
          refine XS.iconst X0.here hx rfl (hb hby d21_45) ?_
          refine XS.goto X0.here hx rfl (pc0 := 46) (pc' := 50) rfl (hb hby d21_46) (by decide) (by decide) ?_
          exact kt
        refine own_lv X0 Bd.notSynchronized (v := some (.int 1)) (own_nv Bd.returns) pre48 (fun fs hr => retN X0 hx (t := .boolean) Bd.returns (by simp) (hb hby d21_50) hr) ?_
        show Q21 Z p1 h0 n0 _ s₁.heap _
        rw [e0]
        exact ⟨(by rw [own_F21, if_neg hc3_41, if_neg hc9_44, if_pos hc15_47]), N0, rfl⟩
      · have pre49 := own_go pre46 (s₁.setTop (mkF m 21 #[iv p1] [(.int 12), (.int p1)])) fun t kt => by
          refine XS.icmpNo X0.here hx rfl (hb hby d21_15) rfl (feq hc15_47).1 ?_
          refine XS.iloadN X0.here hx rfl (hb hby d21_18) rfl ?_
          refine XS.bipush X0.here hx rfl (hb hby d21_19) ?_
          exact kt
        by_cases hc21_50 : p1 = (12 : Int32)
        · have pre51 := own_go pre49 (s₁.setTop (mkF m 50 #[iv p1] [(.int 1)])) fun t kt => by
            refine XS.icmpYes X0.here hx rfl (pc0 := 21) (pc' := 45) rfl (hb hby d21_21) rfl (teq hc21_50).1 (by decide) (by decide) ?_
            refine XS.iconst X0.here hx rfl (hb hby d21_45) ?_
            refine XS.goto X0.here hx rfl (pc0 := 46) (pc' := 50) rfl (hb hby d21_46) (by decide) (by decide) ?_
            exact kt
          refine own_lv X0 Bd.notSynchronized (v := some (.int 1)) (own_nv Bd.returns) pre51 (fun fs hr => retN X0 hx (t := .boolean) Bd.returns (by simp) (hb hby d21_50) hr) ?_
          show Q21 Z p1 h0 n0 _ s₁.heap _
          rw [e0]
          exact ⟨(by rw [own_F21, if_neg hc3_41, if_neg hc9_44, if_neg hc15_47, if_pos hc21_50]), N0, rfl⟩
        · have pre52 := own_go pre49 (s₁.setTop (mkF m 28 #[iv p1] [(.int 133), (.int p1)])) fun t kt => by
            refine XS.icmpNo X0.here hx rfl (hb hby d21_21) rfl (feq hc21_50).1 ?_
            refine XS.iloadN X0.here hx rfl (hb hby d21_24) rfl ?_
            refine XS.sipush X0.here hx rfl (hb hby d21_25) ?_
            exact kt
          by_cases hc28_53 : p1 = (133 : Int32)
          · have pre54 := own_go pre52 (s₁.setTop (mkF m 50 #[iv p1] [(.int 1)])) fun t kt => by
              refine XS.icmpYes X0.here hx rfl (pc0 := 28) (pc' := 45) rfl (hb hby d21_28) rfl (teq hc28_53).1 (by decide) (by decide) ?_
              refine XS.iconst X0.here hx rfl (hb hby d21_45) ?_
              refine XS.goto X0.here hx rfl (pc0 := 46) (pc' := 50) rfl (hb hby d21_46) (by decide) (by decide) ?_
              exact kt
            refine own_lv X0 Bd.notSynchronized (v := some (.int 1)) (own_nv Bd.returns) pre54 (fun fs hr => retN X0 hx (t := .boolean) Bd.returns (by simp) (hb hby d21_50) hr) ?_
            show Q21 Z p1 h0 n0 _ s₁.heap _
            rw [e0]
            exact ⟨(by rw [own_F21, if_neg hc3_41, if_neg hc9_44, if_neg hc15_47, if_neg hc21_50, if_pos hc28_53]), N0, rfl⟩
          · have pre55 := own_go pre52 (s₁.setTop (mkF m 35 #[iv p1] [(.int 8232), (.int p1)])) fun t kt => by
              refine XS.icmpNo X0.here hx rfl (hb hby d21_28) rfl (feq hc28_53).1 ?_
              refine XS.iloadN X0.here hx rfl (hb hby d21_31) rfl ?_
              refine XS.sipush X0.here hx rfl (hb hby d21_32) ?_
              exact kt
            by_cases hc35_56 : p1 = (8232 : Int32)
            · have pre57 := own_go pre55 (s₁.setTop (mkF m 50 #[iv p1] [(.int 1)])) fun t kt => by
                refine XS.icmpYes X0.here hx rfl (pc0 := 35) (pc' := 45) rfl (hb hby d21_35) rfl (teq hc35_56).1 (by decide) (by decide) ?_
                refine XS.iconst X0.here hx rfl (hb hby d21_45) ?_
                refine XS.goto X0.here hx rfl (pc0 := 46) (pc' := 50) rfl (hb hby d21_46) (by decide) (by decide) ?_
                exact kt
              refine own_lv X0 Bd.notSynchronized (v := some (.int 1)) (own_nv Bd.returns) pre57 (fun fs hr => retN X0 hx (t := .boolean) Bd.returns (by simp) (hb hby d21_50) hr) ?_
              show Q21 Z p1 h0 n0 _ s₁.heap _
              rw [e0]
              exact ⟨(by rw [own_F21, if_neg hc3_41, if_neg hc9_44, if_neg hc15_47, if_neg hc21_50, if_neg hc28_53, if_pos hc35_56]), N0, rfl⟩
            · have pre58 := own_go pre55 (s₁.setTop (mkF m 42 #[iv p1] [(.int 8233), (.int p1)])) fun t kt => by
                refine XS.icmpNo X0.here hx rfl (hb hby d21_35) rfl (feq hc35_56).1 ?_
                refine XS.iloadN X0.here hx rfl (hb hby d21_38) rfl ?_
                refine XS.sipush X0.here hx rfl (hb hby d21_39) ?_
                exact kt
              by_cases hc42_59 : p1 = (8233 : Int32)
              · have pre60 := own_go pre58 (s₁.setTop (mkF m 50 #[iv p1] [(.int 1)])) fun t kt => by
                  refine XS.icmpNo X0.here hx rfl (hb hby d21_42) rfl (teq hc42_59).2 ?_
                  refine XS.iconst X0.here hx rfl (hb hby d21_45) ?_
                  refine XS.goto X0.here hx rfl (pc0 := 46) (pc' := 50) rfl (hb hby d21_46) (by decide) (by decide) ?_
                  exact kt
                refine own_lv X0 Bd.notSynchronized (v := some (.int 1)) (own_nv Bd.returns) pre60 (fun fs hr => retN X0 hx (t := .boolean) Bd.returns (by simp) (hb hby d21_50) hr) ?_
                show Q21 Z p1 h0 n0 _ s₁.heap _
                rw [e0]
                exact ⟨(by rw [own_F21, if_neg hc3_41, if_neg hc9_44, if_neg hc15_47, if_neg hc21_50, if_neg hc28_53, if_neg hc35_56, if_pos hc42_59]), N0, rfl⟩
              · have pre61 := own_go pre58 (s₁.setTop (mkF m 50 #[iv p1] [(.int 0)])) fun t kt => by
                  refine XS.icmpYes X0.here hx rfl (pc0 := 42) (pc' := 49) rfl (hb hby d21_42) rfl (feq hc42_59).2 (by decide) (by decide) ?_
                  refine XS.iconst X0.here hx rfl (hb hby d21_49) ?_
                  exact kt
                refine own_lv X0 Bd.notSynchronized (v := some (.int 0)) (own_nv Bd.returns) pre61 (fun fs hr => retN X0 hx (t := .boolean) Bd.returns (by simp) (hb hby d21_50) hr) ?_
                show Q21 Z p1 h0 n0 _ s₁.heap _
                rw [e0]
                exact ⟨(by rw [own_F21, if_neg hc3_41, if_neg hc9_44, if_neg hc15_47, if_neg hc21_50, if_neg hc28_53, if_neg hc35_56, if_neg hc42_59]), N0, rfl⟩
theorem d22_0 : decode jdk_89_method_14_code 0 = .ok (.iload_n 0, 1) := by decide +kernel
theorem d22_1 : decode jdk_89_method_14_code 1 = .ok (.ldc 75, 2) := by decide +kernel
theorem d22_3 : decode jdk_89_method_14_code 3 = .ok (.if_icmp .lt 13, 3) := by decide +kernel
theorem d22_6 : decode jdk_89_method_14_code 6 = .ok (.iload_n 0, 1) := by decide +kernel
theorem d22_7 : decode jdk_89_method_14_code 7 = .ok (.ldc 76, 2) := by decide +kernel
theorem d22_9 : decode jdk_89_method_14_code 9 = .ok (.if_icmp .ge 7, 3) := by decide +kernel
theorem d22_12 : decode jdk_89_method_14_code 12 = .ok (.iconst 1, 1) := by decide +kernel
theorem d22_13 : decode jdk_89_method_14_code 13 = .ok (.goto 4, 3) := by decide +kernel
theorem d22_16 : decode jdk_89_method_14_code 16 = .ok (.iconst 0, 1) := by decide +kernel
theorem d22_17 : decode jdk_89_method_14_code 17 = .ok (.ireturn, 1) := by decide +kernel
theorem pn_22 : plainName "java/lang/Character" = true := by first | (simp [plainName, overriddenIn]; done) | decide +kernel
theorem ef_22 (m : MethodId) (x0 : Int32) : entryFrame m #[(.int x0)] 1 = mkF m 0 #[.val (.int x0)] [] := by first | (simp [entryFrame, mkF, argsToLocals, Value.category]; done) | rfl
def own_F22 (p1 : Int32) : Int32 := if p1 < (55296 : Int32) then (0 : Int32) else if p1 < (56320 : Int32) then (1 : Int32) else (0 : Int32)
def Q22 (Z : State) (p1 : Int32) (h0 : Heap) (n0 : Nat) (v : Option Value) (h : Heap) (L : List Loc) : Prop := v = some (.int (own_F22 p1)) ∧ Fr n0 L ∧ h = h0
theorem rm22 (l : Launch) (Z : State) (a0 : Array Value) (hw : own_H a0 Z) (ws : List Jvm.Cond) (p1 : Int32) (h0 : Heap) (n0 : Nat) (Z0 : n0 ≤ h0.size) :
    own_M l Z (⟨"java/lang/Character", "isHighSurrogate", "(C)Z"⟩ : MethodName) jdk_89_method_14_code 1 (some .boolean) ws ({ frames := 0, cells := 0, slots := 0, locals := 0 } : Room) #[(.int p1)] h0 (Q22 Z p1 h0 n0) := by
  refine own_bd (n0 := n0) (plainFor_of_name pn_22) fun p e s m below meth c s₁ Bd hZ hx hby hml hown X0 e0 N0 => ?_
  have pre0 := own_p0 (tb := p.tables) (e := e) (below := below) (s := s₁) (ef_22 m p1)
  have pre62 := own_go pre0 (s₁.setTop (mkF m 3 #[iv p1] [(.int 55296), (.int p1)])) fun t kt => by
    refine XS.iloadN X0.here hx rfl (hb hby d22_0) rfl ?_
    refine X0.ldcInt hx hown (mvT hZ (ow hw 97 rfl)) (g := (mkF m 1 #[iv p1] [(.int p1)])) rfl (hb hby d22_1) _ ?_
    exact kt
  by_cases hc3_63 : p1 < (55296 : Int32)
  · have pre64 := own_go pre62 (s₁.setTop (mkF m 17 #[iv p1] [(.int 0)])) fun t kt => by
      refine XS.icmpYes X0.here hx rfl (pc0 := 3) (pc' := 16) rfl (hb hby d22_3) rfl (tlt hc3_63).1 (by decide) (by decide) ?_
      refine XS.iconst X0.here hx rfl (hb hby d22_16) ?_
      exact kt
    refine own_lv X0 Bd.notSynchronized (v := some (.int 0)) (own_nv Bd.returns) pre64 (fun fs hr => retN X0 hx (t := .boolean) Bd.returns (by simp) (hb hby d22_17) hr) ?_
    show Q22 Z p1 h0 n0 _ s₁.heap _
    rw [e0]
    exact ⟨(by rw [own_F22, if_pos hc3_63]), N0, rfl⟩
  · have pre65 := own_go pre62 (s₁.setTop (mkF m 9 #[iv p1] [(.int 56320), (.int p1)])) fun t kt => by
      refine XS.icmpNo X0.here hx rfl (hb hby d22_3) rfl (flt hc3_63).1 ?_
      refine XS.iloadN X0.here hx rfl (hb hby d22_6) rfl ?_
      refine X0.ldcInt hx hown (mvT hZ (ow hw 136 rfl)) (g := (mkF m 7 #[iv p1] [(.int p1)])) rfl (hb hby d22_7) _ ?_
      exact kt
    by_cases hc9_66 : p1 < (56320 : Int32)
    · have pre67 := own_go pre65 (s₁.setTop (mkF m 17 #[iv p1] [(.int 1)])) fun t kt => by
        refine XS.icmpNo X0.here hx rfl (hb hby d22_9) rfl (tlt hc9_66).2.1 ?_
        refine XS.iconst X0.here hx rfl (hb hby d22_12) ?_
        refine XS.goto X0.here hx rfl (pc0 := 13) (pc' := 17) rfl (hb hby d22_13) (by decide) (by decide) ?_
        exact kt
      refine own_lv X0 Bd.notSynchronized (v := some (.int 1)) (own_nv Bd.returns) pre67 (fun fs hr => retN X0 hx (t := .boolean) Bd.returns (by simp) (hb hby d22_17) hr) ?_
      show Q22 Z p1 h0 n0 _ s₁.heap _
      rw [e0]
      exact ⟨(by rw [own_F22, if_neg hc3_63, if_pos hc9_66]), N0, rfl⟩
    · have pre68 := own_go pre65 (s₁.setTop (mkF m 17 #[iv p1] [(.int 0)])) fun t kt => by
        refine XS.icmpYes X0.here hx rfl (pc0 := 9) (pc' := 16) rfl (hb hby d22_9) rfl (flt hc9_66).2.1 (by decide) (by decide) ?_
        refine XS.iconst X0.here hx rfl (hb hby d22_16) ?_
        exact kt
      refine own_lv X0 Bd.notSynchronized (v := some (.int 0)) (own_nv Bd.returns) pre68 (fun fs hr => retN X0 hx (t := .boolean) Bd.returns (by simp) (hb hby d22_17) hr) ?_
      show Q22 Z p1 h0 n0 _ s₁.heap _
      rw [e0]
      exact ⟨(by rw [own_F22, if_neg hc3_63, if_neg hc9_66]), N0, rfl⟩
theorem d32_0 : decode jdk_89_method_15_code 0 = .ok (.iload_n 0, 1) := by decide +kernel
theorem d32_1 : decode jdk_89_method_15_code 1 = .ok (.ldc 76, 2) := by decide +kernel
theorem d32_3 : decode jdk_89_method_15_code 3 = .ok (.if_icmp .lt 13, 3) := by decide +kernel
theorem d32_6 : decode jdk_89_method_15_code 6 = .ok (.iload_n 0, 1) := by decide +kernel
theorem d32_7 : decode jdk_89_method_15_code 7 = .ok (.ldc 77, 2) := by decide +kernel
theorem d32_9 : decode jdk_89_method_15_code 9 = .ok (.if_icmp .ge 7, 3) := by decide +kernel
theorem d32_12 : decode jdk_89_method_15_code 12 = .ok (.iconst 1, 1) := by decide +kernel
theorem d32_13 : decode jdk_89_method_15_code 13 = .ok (.goto 4, 3) := by decide +kernel
theorem d32_16 : decode jdk_89_method_15_code 16 = .ok (.iconst 0, 1) := by decide +kernel
theorem d32_17 : decode jdk_89_method_15_code 17 = .ok (.ireturn, 1) := by decide +kernel
theorem pn_32 : plainName "java/lang/Character" = true := by first | (simp [plainName, overriddenIn]; done) | decide +kernel
theorem ef_32 (m : MethodId) (x0 : Int32) : entryFrame m #[(.int x0)] 1 = mkF m 0 #[.val (.int x0)] [] := by first | (simp [entryFrame, mkF, argsToLocals, Value.category]; done) | rfl
def own_F32 (p1 : Int32) : Int32 := if p1 < (56320 : Int32) then (0 : Int32) else if p1 < (57344 : Int32) then (1 : Int32) else (0 : Int32)
def Q32 (Z : State) (p1 : Int32) (h0 : Heap) (n0 : Nat) (v : Option Value) (h : Heap) (L : List Loc) : Prop := v = some (.int (own_F32 p1)) ∧ Fr n0 L ∧ h = h0
theorem rm32 (l : Launch) (Z : State) (a0 : Array Value) (hw : own_H a0 Z) (ws : List Jvm.Cond) (p1 : Int32) (h0 : Heap) (n0 : Nat) (Z0 : n0 ≤ h0.size) :
    own_M l Z (⟨"java/lang/Character", "isLowSurrogate", "(C)Z"⟩ : MethodName) jdk_89_method_15_code 1 (some .boolean) ws ({ frames := 0, cells := 0, slots := 0, locals := 0 } : Room) #[(.int p1)] h0 (Q32 Z p1 h0 n0) := by
  refine own_bd (n0 := n0) (plainFor_of_name pn_32) fun p e s m below meth c s₁ Bd hZ hx hby hml hown X0 e0 N0 => ?_
  have pre0 := own_p0 (tb := p.tables) (e := e) (below := below) (s := s₁) (ef_32 m p1)
  have pre69 := own_go pre0 (s₁.setTop (mkF m 3 #[iv p1] [(.int 56320), (.int p1)])) fun t kt => by
    refine XS.iloadN X0.here hx rfl (hb hby d32_0) rfl ?_
    refine X0.ldcInt hx hown (mvT hZ (ow hw 136 rfl)) (g := (mkF m 1 #[iv p1] [(.int p1)])) rfl (hb hby d32_1) _ ?_
    exact kt
  by_cases hc3_70 : p1 < (56320 : Int32)
  · have pre71 := own_go pre69 (s₁.setTop (mkF m 17 #[iv p1] [(.int 0)])) fun t kt => by
      refine XS.icmpYes X0.here hx rfl (pc0 := 3) (pc' := 16) rfl (hb hby d32_3) rfl (tlt hc3_70).1 (by decide) (by decide) ?_
      refine XS.iconst X0.here hx rfl (hb hby d32_16) ?_
      exact kt
    refine own_lv X0 Bd.notSynchronized (v := some (.int 0)) (own_nv Bd.returns) pre71 (fun fs hr => retN X0 hx (t := .boolean) Bd.returns (by simp) (hb hby d32_17) hr) ?_
    show Q32 Z p1 h0 n0 _ s₁.heap _
    rw [e0]
    exact ⟨(by rw [own_F32, if_pos hc3_70]), N0, rfl⟩
  · have pre72 := own_go pre69 (s₁.setTop (mkF m 9 #[iv p1] [(.int 57344), (.int p1)])) fun t kt => by
      refine XS.icmpNo X0.here hx rfl (hb hby d32_3) rfl (flt hc3_70).1 ?_
      refine XS.iloadN X0.here hx rfl (hb hby d32_6) rfl ?_
      refine X0.ldcInt hx hown (mvT hZ (ow hw 137 rfl)) (g := (mkF m 7 #[iv p1] [(.int p1)])) rfl (hb hby d32_7) _ ?_
      exact kt
    by_cases hc9_73 : p1 < (57344 : Int32)
    · have pre74 := own_go pre72 (s₁.setTop (mkF m 17 #[iv p1] [(.int 1)])) fun t kt => by
        refine XS.icmpNo X0.here hx rfl (hb hby d32_9) rfl (tlt hc9_73).2.1 ?_
        refine XS.iconst X0.here hx rfl (hb hby d32_12) ?_
        refine XS.goto X0.here hx rfl (pc0 := 13) (pc' := 17) rfl (hb hby d32_13) (by decide) (by decide) ?_
        exact kt
      refine own_lv X0 Bd.notSynchronized (v := some (.int 1)) (own_nv Bd.returns) pre74 (fun fs hr => retN X0 hx (t := .boolean) Bd.returns (by simp) (hb hby d32_17) hr) ?_
      show Q32 Z p1 h0 n0 _ s₁.heap _
      rw [e0]
      exact ⟨(by rw [own_F32, if_neg hc3_70, if_pos hc9_73]), N0, rfl⟩
    · have pre75 := own_go pre72 (s₁.setTop (mkF m 17 #[iv p1] [(.int 0)])) fun t kt => by
        refine XS.icmpYes X0.here hx rfl (pc0 := 9) (pc' := 16) rfl (hb hby d32_9) rfl (flt hc9_73).2.1 (by decide) (by decide) ?_
        refine XS.iconst X0.here hx rfl (hb hby d32_16) ?_
        exact kt
      refine own_lv X0 Bd.notSynchronized (v := some (.int 0)) (own_nv Bd.returns) pre75 (fun fs hr => retN X0 hx (t := .boolean) Bd.returns (by simp) (hb hby d32_17) hr) ?_
      show Q32 Z p1 h0 n0 _ s₁.heap _
      rw [e0]
      exact ⟨(by rw [own_F32, if_neg hc3_70, if_neg hc9_73]), N0, rfl⟩
theorem d23_0 : decode jdk_89_method_16_code 0 = .ok (.iload_n 0, 1) := by decide +kernel
theorem d23_1 : decode jdk_89_method_16_code 1 = .ok (.ldc 75, 2) := by decide +kernel
theorem d23_3 : decode jdk_89_method_16_code 3 = .ok (.if_icmp .lt 13, 3) := by decide +kernel
theorem d23_6 : decode jdk_89_method_16_code 6 = .ok (.iload_n 0, 1) := by decide +kernel
theorem d23_7 : decode jdk_89_method_16_code 7 = .ok (.ldc 77, 2) := by decide +kernel
theorem d23_9 : decode jdk_89_method_16_code 9 = .ok (.if_icmp .ge 7, 3) := by decide +kernel
theorem d23_12 : decode jdk_89_method_16_code 12 = .ok (.iconst 1, 1) := by decide +kernel
theorem d23_13 : decode jdk_89_method_16_code 13 = .ok (.goto 4, 3) := by decide +kernel
theorem d23_16 : decode jdk_89_method_16_code 16 = .ok (.iconst 0, 1) := by decide +kernel
theorem d23_17 : decode jdk_89_method_16_code 17 = .ok (.ireturn, 1) := by decide +kernel
theorem pn_23 : plainName "java/lang/Character" = true := by first | (simp [plainName, overriddenIn]; done) | decide +kernel
theorem ef_23 (m : MethodId) (x0 : Int32) : entryFrame m #[(.int x0)] 1 = mkF m 0 #[.val (.int x0)] [] := by first | (simp [entryFrame, mkF, argsToLocals, Value.category]; done) | rfl
def own_F23 (p1 : Int32) : Int32 := if p1 < (55296 : Int32) then (0 : Int32) else if p1 < (57344 : Int32) then (1 : Int32) else (0 : Int32)
def Q23 (Z : State) (p1 : Int32) (h0 : Heap) (n0 : Nat) (v : Option Value) (h : Heap) (L : List Loc) : Prop := v = some (.int (own_F23 p1)) ∧ Fr n0 L ∧ h = h0
theorem rm23 (l : Launch) (Z : State) (a0 : Array Value) (hw : own_H a0 Z) (ws : List Jvm.Cond) (p1 : Int32) (h0 : Heap) (n0 : Nat) (Z0 : n0 ≤ h0.size) :
    own_M l Z (⟨"java/lang/Character", "isSurrogate", "(C)Z"⟩ : MethodName) jdk_89_method_16_code 1 (some .boolean) ws ({ frames := 0, cells := 0, slots := 0, locals := 0 } : Room) #[(.int p1)] h0 (Q23 Z p1 h0 n0) := by
  refine own_bd (n0 := n0) (plainFor_of_name pn_23) fun p e s m below meth c s₁ Bd hZ hx hby hml hown X0 e0 N0 => ?_
  have pre0 := own_p0 (tb := p.tables) (e := e) (below := below) (s := s₁) (ef_23 m p1)
  have pre76 := own_go pre0 (s₁.setTop (mkF m 3 #[iv p1] [(.int 55296), (.int p1)])) fun t kt => by
    refine XS.iloadN X0.here hx rfl (hb hby d23_0) rfl ?_
    refine X0.ldcInt hx hown (mvT hZ (ow hw 97 rfl)) (g := (mkF m 1 #[iv p1] [(.int p1)])) rfl (hb hby d23_1) _ ?_
    exact kt
  by_cases hc3_77 : p1 < (55296 : Int32)
  · have pre78 := own_go pre76 (s₁.setTop (mkF m 17 #[iv p1] [(.int 0)])) fun t kt => by
      refine XS.icmpYes X0.here hx rfl (pc0 := 3) (pc' := 16) rfl (hb hby d23_3) rfl (tlt hc3_77).1 (by decide) (by decide) ?_
      refine XS.iconst X0.here hx rfl (hb hby d23_16) ?_
      exact kt
    refine own_lv X0 Bd.notSynchronized (v := some (.int 0)) (own_nv Bd.returns) pre78 (fun fs hr => retN X0 hx (t := .boolean) Bd.returns (by simp) (hb hby d23_17) hr) ?_
    show Q23 Z p1 h0 n0 _ s₁.heap _
    rw [e0]
    exact ⟨(by rw [own_F23, if_pos hc3_77]), N0, rfl⟩
  · have pre79 := own_go pre76 (s₁.setTop (mkF m 9 #[iv p1] [(.int 57344), (.int p1)])) fun t kt => by
      refine XS.icmpNo X0.here hx rfl (hb hby d23_3) rfl (flt hc3_77).1 ?_
      refine XS.iloadN X0.here hx rfl (hb hby d23_6) rfl ?_
      refine X0.ldcInt hx hown (mvT hZ (ow hw 137 rfl)) (g := (mkF m 7 #[iv p1] [(.int p1)])) rfl (hb hby d23_7) _ ?_
      exact kt
    by_cases hc9_80 : p1 < (57344 : Int32)
    · have pre81 := own_go pre79 (s₁.setTop (mkF m 17 #[iv p1] [(.int 1)])) fun t kt => by
        refine XS.icmpNo X0.here hx rfl (hb hby d23_9) rfl (tlt hc9_80).2.1 ?_
        refine XS.iconst X0.here hx rfl (hb hby d23_12) ?_
        refine XS.goto X0.here hx rfl (pc0 := 13) (pc' := 17) rfl (hb hby d23_13) (by decide) (by decide) ?_
        exact kt
      refine own_lv X0 Bd.notSynchronized (v := some (.int 1)) (own_nv Bd.returns) pre81 (fun fs hr => retN X0 hx (t := .boolean) Bd.returns (by simp) (hb hby d23_17) hr) ?_
      show Q23 Z p1 h0 n0 _ s₁.heap _
      rw [e0]
      exact ⟨(by rw [own_F23, if_neg hc3_77, if_pos hc9_80]), N0, rfl⟩
    · have pre82 := own_go pre79 (s₁.setTop (mkF m 17 #[iv p1] [(.int 0)])) fun t kt => by
        refine XS.icmpYes X0.here hx rfl (pc0 := 9) (pc' := 16) rfl (hb hby d23_9) rfl (flt hc9_80).2.1 (by decide) (by decide) ?_
        refine XS.iconst X0.here hx rfl (hb hby d23_16) ?_
        exact kt
      refine own_lv X0 Bd.notSynchronized (v := some (.int 0)) (own_nv Bd.returns) pre82 (fun fs hr => retN X0 hx (t := .boolean) Bd.returns (by simp) (hb hby d23_17) hr) ?_
      show Q23 Z p1 h0 n0 _ s₁.heap _
      rw [e0]
      exact ⟨(by rw [own_F23, if_neg hc3_77, if_neg hc9_80]), N0, rfl⟩
theorem own_small {P : Int32 → Prop} (k : Nat) (hk : k < 2147483648) (h : ∀ n : Nat, n < k → P n.toInt32) (j : Int32) (h1 : ¬ j < (0 : Int32)) (h2 : j.toInt < k) : P j := by
  have q := nat_of h1
  have k2 : j.toNatClampNeg.toInt32 = j := by
    apply Int32.toInt_inj.mp
    rw [len_toInt (by omega)]
    exact q.symm
  have := h j.toNatClampNeg (by omega)
  rwa [k2] at this
theorem own_nc (x : Int32) : ¬ nar .char x < (0 : Int32) ∧ ¬ (65535 : Int32) < nar .char x := by
  have h := c_i2c x
  have e0 : (0 : Int32).toInt = 0 := rfl
  have e1 : (65535 : Int32).toInt = 65535 := rfl
  show ¬ (x.toUInt32.toUInt16.toUInt32.toInt32) < (0 : Int32) ∧ ¬ (65535 : Int32) < (x.toUInt32.toUInt16.toUInt32.toInt32)
  rw [Int32.lt_iff_toInt_lt, Int32.lt_iff_toInt_lt, e0, e1]
  omega
theorem own_ncz {x : Int32} (h : ¬ x < (0 : Int32) ∧ ¬ (65535 : Int32) < x) : nar .char x = x := by
  have q := c_i2c x
  have e0 : (0 : Int32).toInt = 0 := rfl
  have e1 : (65535 : Int32).toInt = 65535 := rfl
  rw [Int32.lt_iff_toInt_lt, Int32.lt_iff_toInt_lt, e0, e1] at h
  apply Int32.toInt_inj.mp
  show (x.toUInt32.toUInt16.toUInt32.toInt32).toInt = x.toInt
  omega
def own_lo (c : Int32) : Int32 := nar .byte ((c >>> ((0 : Int32) &&& 31)).toInt8.toInt32)
def own_hi (c : Int32) : Int32 := nar .byte ((c >>> ((8 : Int32) &&& 31)).toInt8.toInt32)
def own_by (c : Int32) : Int32 := nar .byte (c.toInt8.toInt32)
def own_gc (l h : Int32) : Int32 := nar .char ((((l &&& (255 : Int32)) <<< ((0 : Int32) &&& 31)) ||| ((h &&& (255 : Int32)) <<< ((8 : Int32) &&& 31))).toUInt32.toUInt16.toUInt32.toInt32)
def own_chr (w : Int32) : Int32 := nar .char ((w &&& (255 : Int32)).toUInt32.toUInt16.toUInt32.toInt32)
theorem own_bm (x : Int32) : ((nar .byte (x.toInt8.toInt32)) &&& (255 : Int32)).toInt = x.toInt % 256 := by
  have h1 := c_mask (nar .byte (x.toInt8.toInt32)) 255 8 (by decide) (by decide)
  have h2 : (nar .byte (x.toInt8.toInt32)).toInt = x.toInt8.toInt32.toInt8.toInt32.toInt := rfl
  have h3 := c_i2b x
  have h4 := c_i2b (x.toInt8.toInt32)
  have e : ((2 ^ 8 : Nat) : Int) = 256 := rfl
  rw [e] at h1
  omega
theorem own_rtL {c : Int32} (h : ¬ c < (0 : Int32) ∧ ¬ (255 : Int32) < c) : nar .char (own_chr (own_by c)) = c := by
  have b := own_bm c
  have q := c_i2c ((own_by c) &&& 255)
  have e0 : (0 : Int32).toInt = 0 := rfl
  have e1 : (255 : Int32).toInt = 255 := rfl
  rw [Int32.lt_iff_toInt_lt, Int32.lt_iff_toInt_lt, e0, e1] at h
  have z : own_chr (own_by c) = c := by
    apply Int32.toInt_inj.mp
    show (((own_by c) &&& (255 : Int32)).toUInt32.toUInt16.toUInt32.toInt32).toUInt32.toUInt16.toUInt32.toInt32.toInt = c.toInt
    have q2 := c_i2c (((own_by c) &&& (255 : Int32)).toUInt32.toUInt16.toUInt32.toInt32)
    have b' : ((own_by c) &&& (255 : Int32)).toInt = c.toInt % 256 := b
    omega
  rw [z]
  refine own_ncz ?_
  have e2 : (65535 : Int32).toInt = 65535 := rfl
  rw [Int32.lt_iff_toInt_lt, Int32.lt_iff_toInt_lt, e0, e2]
  omega
theorem own_rtU {c : Int32} (h : ¬ c < (0 : Int32) ∧ ¬ (65535 : Int32) < c) : own_gc (own_lo c) (own_hi c) = c := by
  have e0 : (0 : Int32).toInt = 0 := rfl
  have e1 : (65535 : Int32).toInt = 65535 := rfl
  rw [Int32.lt_iff_toInt_lt, Int32.lt_iff_toInt_lt, e0, e1] at h
  have s0 := c_ishr c 0 0 (by decide)
  have s8 := c_ishr c 8 8 (by decide)
  have b0 := own_bm (c >>> ((0 : Int32) &&& 31))
  have b8 := own_bm (c >>> ((8 : Int32) &&& 31))
  have l0 := c_ishl ((own_lo c) &&& 255) 0 0 (by decide)
  have l8 := c_ishl ((own_hi c) &&& 255) 8 8 (by decide)
  have r0 := rng32 (((own_lo c) &&& 255) <<< ((0 : Int32) &&& 31))
  have r8 := rng32 (((own_hi c) &&& 255) <<< ((8 : Int32) &&& 31))
  have b0' : ((own_lo c) &&& (255 : Int32)).toInt = (c >>> ((0 : Int32) &&& 31)).toInt % 256 := b0
  have b8' : ((own_hi c) &&& (255 : Int32)).toInt = (c >>> ((8 : Int32) &&& 31)).toInt % 256 := b8
  have p0 : ((2 ^ 0 : Nat) : Int) = 1 := rfl
  have p8 : ((2 ^ 8 : Nat) : Int) = 256 := rfl
  rw [p0] at s0 l0
  rw [p8] at s8 l8
  have o := c_or (((own_hi c) &&& 255) <<< ((8 : Int32) &&& 31)) (((own_lo c) &&& 255) <<< ((0 : Int32) &&& 31)) 8 (by decide) 256 rfl (by omega) (by omega) (by omega)
  have ro := rng32 ((((own_hi c) &&& 255) <<< ((8 : Int32) &&& 31)) ||| (((own_lo c) &&& 255) <<< ((0 : Int32) &&& 31)))
  unfold own_gc
  rw [Int32.or_comm]
  have q := c_i2c ((((own_hi c) &&& (255 : Int32)) <<< ((8 : Int32) &&& 31)) ||| (((own_lo c) &&& (255 : Int32)) <<< ((0 : Int32) &&& 31)))
  have z : ((((own_hi c) &&& (255 : Int32)) <<< ((8 : Int32) &&& 31)) ||| (((own_lo c) &&& (255 : Int32)) <<< ((0 : Int32) &&& 31))).toUInt32.toUInt16.toUInt32.toInt32 = c := by
    apply Int32.toInt_inj.mp
    omega
  rw [z]
  refine own_ncz ?_
  rw [Int32.lt_iff_toInt_lt, Int32.lt_iff_toInt_lt, e0, e1]
  exact h
theorem own_lb (c : Int32) (h : own_F3 c = (0 : Int32)) : ¬ c = (9 : Int32) ∧ own_F21 c = (0 : Int32) := by
  unfold own_F3 at h
  unfold own_F21
  by_cases a1 : c = (9 : Int32)
  · simp [a1] at h
  · by_cases a2 : c = (10 : Int32)
    · simp [a2] at h
    · by_cases a3 : c = (11 : Int32)
      · simp [a3] at h
      · by_cases a4 : c = (12 : Int32)
        · simp [a4] at h
        · by_cases a5 : c = (13 : Int32)
          · simp [a5] at h
          · by_cases a6 : c = (133 : Int32)
            · simp [a6] at h
            · by_cases a7 : c = (8232 : Int32)
              · simp [a7] at h
              · by_cases a8 : c = (8233 : Int32)
                · simp [a8] at h
                · simp [a1, a2, a3, a4, a5, a6, a7, a8]
theorem own_hs (c : Int32) : own_F22 c = own_F4 c := by
  have e9 : (9 : Int32).toInt = 9 := rfl
  have e10 : (10 : Int32).toInt = 10 := rfl
  have e11 : (11 : Int32).toInt = 11 := rfl
  have e12 : (12 : Int32).toInt = 12 := rfl
  have e13 : (13 : Int32).toInt = 13 := rfl
  have e133 : (133 : Int32).toInt = 133 := rfl
  have e8232 : (8232 : Int32).toInt = 8232 := rfl
  have e8233 : (8233 : Int32).toInt = 8233 := rfl
  have e55296 : (55296 : Int32).toInt = 55296 := rfl
  have e56319 : (56319 : Int32).toInt = 56319 := rfl
  have e56320 : (56320 : Int32).toInt = 56320 := rfl
  have e57343 : (57343 : Int32).toInt = 57343 := rfl
  have e57344 : (57344 : Int32).toInt = 57344 := rfl
  unfold own_F22 own_F4
  by_cases a1 : c < (55296 : Int32)
  · simp [a1]
  · by_cases a2 : c < (56320 : Int32)
    · have a3 : ¬ (56319 : Int32) < c := by rw [Int32.lt_iff_toInt_lt] at a2 ⊢; omega
      simp [a1, a2, a3]
    · have a3 : (56319 : Int32) < c := by rw [Int32.lt_iff_toInt_lt] at a2 ⊢; omega
      simp [a1, a2, a3]
theorem own_ls (c : Int32) : own_F32 c = own_F5 c := by
  have e9 : (9 : Int32).toInt = 9 := rfl
  have e10 : (10 : Int32).toInt = 10 := rfl
  have e11 : (11 : Int32).toInt = 11 := rfl
  have e12 : (12 : Int32).toInt = 12 := rfl
  have e13 : (13 : Int32).toInt = 13 := rfl
  have e133 : (133 : Int32).toInt = 133 := rfl
  have e8232 : (8232 : Int32).toInt = 8232 := rfl
  have e8233 : (8233 : Int32).toInt = 8233 := rfl
  have e55296 : (55296 : Int32).toInt = 55296 := rfl
  have e56319 : (56319 : Int32).toInt = 56319 := rfl
  have e56320 : (56320 : Int32).toInt = 56320 := rfl
  have e57343 : (57343 : Int32).toInt = 57343 := rfl
  have e57344 : (57344 : Int32).toInt = 57344 := rfl
  unfold own_F32 own_F5
  by_cases a1 : c < (56320 : Int32)
  · simp [a1]
  · by_cases a2 : c < (57344 : Int32)
    · have a3 : ¬ (57343 : Int32) < c := by rw [Int32.lt_iff_toInt_lt] at a2 ⊢; omega
      simp [a1, a2, a3]
    · have a3 : (57343 : Int32) < c := by rw [Int32.lt_iff_toInt_lt] at a2 ⊢; omega
      simp [a1, a2, a3]
theorem own_is (c : Int32) (h1 : own_F4 c = (0 : Int32)) (h2 : own_F5 c = (0 : Int32)) : own_F23 c = (0 : Int32) := by
  have e9 : (9 : Int32).toInt = 9 := rfl
  have e10 : (10 : Int32).toInt = 10 := rfl
  have e11 : (11 : Int32).toInt = 11 := rfl
  have e12 : (12 : Int32).toInt = 12 := rfl
  have e13 : (13 : Int32).toInt = 13 := rfl
  have e133 : (133 : Int32).toInt = 133 := rfl
  have e8232 : (8232 : Int32).toInt = 8232 := rfl
  have e8233 : (8233 : Int32).toInt = 8233 := rfl
  have e55296 : (55296 : Int32).toInt = 55296 := rfl
  have e56319 : (56319 : Int32).toInt = 56319 := rfl
  have e56320 : (56320 : Int32).toInt = 56320 := rfl
  have e57343 : (57343 : Int32).toInt = 57343 := rfl
  have e57344 : (57344 : Int32).toInt = 57344 := rfl
  rw [← own_hs] at h1
  rw [← own_ls] at h2
  unfold own_F22 at h1
  unfold own_F32 at h2
  unfold own_F23
  by_cases a1 : c < (55296 : Int32)
  · simp [a1]
  · by_cases a2 : c < (56320 : Int32)
    · simp [a1, a2] at h1
    · by_cases a3 : c < (57344 : Int32)
      · simp [a2, a3] at h2
      · simp [a1, a3]
theorem own_hl (c : Int32) (h : ¬ own_F5 c = (0 : Int32)) : own_F4 c = (0 : Int32) := by
  have e9 : (9 : Int32).toInt = 9 := rfl
  have e10 : (10 : Int32).toInt = 10 := rfl
  have e11 : (11 : Int32).toInt = 11 := rfl
  have e12 : (12 : Int32).toInt = 12 := rfl
  have e13 : (13 : Int32).toInt = 13 := rfl
  have e133 : (133 : Int32).toInt = 133 := rfl
  have e8232 : (8232 : Int32).toInt = 8232 := rfl
  have e8233 : (8233 : Int32).toInt = 8233 := rfl
  have e55296 : (55296 : Int32).toInt = 55296 := rfl
  have e56319 : (56319 : Int32).toInt = 56319 := rfl
  have e56320 : (56320 : Int32).toInt = 56320 := rfl
  have e57343 : (57343 : Int32).toInt = 57343 := rfl
  have e57344 : (57344 : Int32).toInt = 57344 := rfl
  rw [← own_hs]
  rw [← own_ls] at h
  unfold own_F22
  unfold own_F32 at h
  by_cases a1 : c < (56320 : Int32)
  · simp [a1] at h
  · simp [a1]
def own_t (j : Int32) : Int32 := match ([(.int (0 : Int32)), (.int (8 : Int32)), (.int (14 : Int32)), (.int (28 : Int32)), (.int (31 : Int32)), (.int (32 : Int32)), (.int (132 : Int32)), (.int (134 : Int32)), (.int (8231 : Int32)), (.int (8234 : Int32)), (.int (55295 : Int32)), (.int (57344 : Int32)), (.int (65535 : Int32)), (.int (160 : Int32)), (.int (65 : Int32)), (.int (65534 : Int32))] : List Value).getD j.toNatClampNeg (.int (0 : Int32)) with | .int z => z | _ => 0
theorem own_tat (j : Int32) (h1 : ¬ j < (0 : Int32)) (h2 : j < (16 : Int32)) : ([(.int (0 : Int32)), (.int (8 : Int32)), (.int (14 : Int32)), (.int (28 : Int32)), (.int (31 : Int32)), (.int (32 : Int32)), (.int (132 : Int32)), (.int (134 : Int32)), (.int (8231 : Int32)), (.int (8234 : Int32)), (.int (55295 : Int32)), (.int (57344 : Int32)), (.int (65535 : Int32)), (.int (160 : Int32)), (.int (65 : Int32)), (.int (65534 : Int32))] : List Value).getD j.toNatClampNeg (.int (0 : Int32)) = .int (own_t j) := by
  have e : (16 : Int32).toInt = 16 := rfl
  refine own_small (P := fun j => ([(.int (0 : Int32)), (.int (8 : Int32)), (.int (14 : Int32)), (.int (28 : Int32)), (.int (31 : Int32)), (.int (32 : Int32)), (.int (132 : Int32)), (.int (134 : Int32)), (.int (8231 : Int32)), (.int (8234 : Int32)), (.int (55295 : Int32)), (.int (57344 : Int32)), (.int (65535 : Int32)), (.int (160 : Int32)), (.int (65 : Int32)), (.int (65534 : Int32))] : List Value).getD j.toNatClampNeg (.int (0 : Int32)) = .int (own_t j)) 16 (by decide) (by decide +kernel) j h1 ?_
  rw [Int32.lt_iff_toInt_lt, e] at h2
  exact h2
theorem own_m15 (x : Int32) : ¬ (x &&& (15 : Int32)) < (0 : Int32) ∧ (x &&& (15 : Int32)) < (16 : Int32) := by
  have h1 := c_mask x 15 4 (by decide) (by decide)
  have e0 : (0 : Int32).toInt = 0 := rfl
  have e16 : (16 : Int32).toInt = 16 := rfl
  have e : ((2 ^ 4 : Nat) : Int) = 16 := rfl
  rw [e] at h1
  rw [Int32.lt_iff_toInt_lt, Int32.lt_iff_toInt_lt, e0, e16]
  omega
theorem d1_0 : decode method_3_code 0 = .ok (.iload_n 0, 1) := by decide +kernel
theorem d1_1 : decode method_3_code 1 = .ok (.bipush 7, 2) := by decide +kernel
theorem d1_3 : decode method_3_code 3 = .ok (.iand, 1) := by decide +kernel
theorem d1_4 : decode method_3_code 4 = .ok (.istore_n 1, 1) := by decide +kernel
theorem d1_5 : decode method_3_code 5 = .ok (.iload_n 0, 1) := by decide +kernel
theorem d1_6 : decode method_3_code 6 = .ok (.iconst 3, 1) := by decide +kernel
theorem d1_7 : decode method_3_code 7 = .ok (.iushr, 1) := by decide +kernel
theorem d1_8 : decode method_3_code 8 = .ok (.istore_n 2, 1) := by decide +kernel
theorem d1_9 : decode method_3_code 9 = .ok (.iload_n 1, 1) := by decide +kernel
theorem d1_10 : decode method_3_code 10 = .ok (.iconst 4, 1) := by decide +kernel
theorem d1_11 : decode method_3_code 11 = .ok (.if_icmp .ge 9, 3) := by decide +kernel
theorem d1_14 : decode method_3_code 14 = .ok (.iload_n 2, 1) := by decide +kernel
theorem d1_15 : decode method_3_code 15 = .ok (.ldc 32, 2) := by decide +kernel
theorem d1_17 : decode method_3_code 17 = .ok (.iand, 1) := by decide +kernel
theorem d1_18 : decode method_3_code 18 = .ok (.i2c, 1) := by decide +kernel
theorem d1_19 : decode method_3_code 19 = .ok (.ireturn, 1) := by decide +kernel
theorem d1_20 : decode method_3_code 20 = .ok (.iload_n 1, 1) := by decide +kernel
theorem d1_21 : decode method_3_code 21 = .ok (.iconst 4, 1) := by decide +kernel
theorem d1_22 : decode method_3_code 22 = .ok (.if_icmp .ne 13, 3) := by decide +kernel
theorem d1_25 : decode method_3_code 25 = .ok (.ldc 33, 2) := by decide +kernel
theorem d1_27 : decode method_3_code 27 = .ok (.iload_n 2, 1) := by decide +kernel
theorem d1_28 : decode method_3_code 28 = .ok (.sipush 1023, 3) := by decide +kernel
theorem d1_31 : decode method_3_code 31 = .ok (.iand, 1) := by decide +kernel
theorem d1_32 : decode method_3_code 32 = .ok (.iadd, 1) := by decide +kernel
theorem d1_33 : decode method_3_code 33 = .ok (.i2c, 1) := by decide +kernel
theorem d1_34 : decode method_3_code 34 = .ok (.ireturn, 1) := by decide +kernel
theorem d1_35 : decode method_3_code 35 = .ok (.iload_n 1, 1) := by decide +kernel
theorem d1_36 : decode method_3_code 36 = .ok (.iconst 5, 1) := by decide +kernel
theorem d1_37 : decode method_3_code 37 = .ok (.if_icmp .ne 13, 3) := by decide +kernel
theorem d1_40 : decode method_3_code 40 = .ok (.ldc 34, 2) := by decide +kernel
theorem d1_42 : decode method_3_code 42 = .ok (.iload_n 2, 1) := by decide +kernel
theorem d1_43 : decode method_3_code 43 = .ok (.sipush 1023, 3) := by decide +kernel
theorem d1_46 : decode method_3_code 46 = .ok (.iand, 1) := by decide +kernel
theorem d1_47 : decode method_3_code 47 = .ok (.iadd, 1) := by decide +kernel
theorem d1_48 : decode method_3_code 48 = .ok (.i2c, 1) := by decide +kernel
theorem d1_49 : decode method_3_code 49 = .ok (.ireturn, 1) := by decide +kernel
theorem d1_50 : decode method_3_code 50 = .ok (.bipush 16, 2) := by decide +kernel
theorem d1_52 : decode method_3_code 52 = .ok (.newarray .char, 2) := by decide +kernel
theorem d1_54 : decode method_3_code 54 = .ok (.dup, 1) := by decide +kernel
theorem d1_55 : decode method_3_code 55 = .ok (.iconst 0, 1) := by decide +kernel
theorem d1_56 : decode method_3_code 56 = .ok (.iconst 0, 1) := by decide +kernel
theorem d1_57 : decode method_3_code 57 = .ok (.castore, 1) := by decide +kernel
theorem d1_58 : decode method_3_code 58 = .ok (.dup, 1) := by decide +kernel
theorem d1_59 : decode method_3_code 59 = .ok (.iconst 1, 1) := by decide +kernel
theorem d1_60 : decode method_3_code 60 = .ok (.bipush 8, 2) := by decide +kernel
theorem d1_62 : decode method_3_code 62 = .ok (.castore, 1) := by decide +kernel
theorem d1_63 : decode method_3_code 63 = .ok (.dup, 1) := by decide +kernel
theorem d1_64 : decode method_3_code 64 = .ok (.iconst 2, 1) := by decide +kernel
theorem d1_65 : decode method_3_code 65 = .ok (.bipush 14, 2) := by decide +kernel
theorem d1_67 : decode method_3_code 67 = .ok (.castore, 1) := by decide +kernel
theorem d1_68 : decode method_3_code 68 = .ok (.dup, 1) := by decide +kernel
theorem d1_69 : decode method_3_code 69 = .ok (.iconst 3, 1) := by decide +kernel
theorem d1_70 : decode method_3_code 70 = .ok (.bipush 28, 2) := by decide +kernel
theorem d1_72 : decode method_3_code 72 = .ok (.castore, 1) := by decide +kernel
theorem d1_73 : decode method_3_code 73 = .ok (.dup, 1) := by decide +kernel
theorem d1_74 : decode method_3_code 74 = .ok (.iconst 4, 1) := by decide +kernel
theorem d1_75 : decode method_3_code 75 = .ok (.bipush 31, 2) := by decide +kernel
theorem d1_77 : decode method_3_code 77 = .ok (.castore, 1) := by decide +kernel
theorem d1_78 : decode method_3_code 78 = .ok (.dup, 1) := by decide +kernel
theorem d1_79 : decode method_3_code 79 = .ok (.iconst 5, 1) := by decide +kernel
theorem d1_80 : decode method_3_code 80 = .ok (.bipush 32, 2) := by decide +kernel
theorem d1_82 : decode method_3_code 82 = .ok (.castore, 1) := by decide +kernel
theorem d1_83 : decode method_3_code 83 = .ok (.dup, 1) := by decide +kernel
theorem d1_84 : decode method_3_code 84 = .ok (.bipush 6, 2) := by decide +kernel
theorem d1_86 : decode method_3_code 86 = .ok (.sipush 132, 3) := by decide +kernel
theorem d1_89 : decode method_3_code 89 = .ok (.castore, 1) := by decide +kernel
theorem d1_90 : decode method_3_code 90 = .ok (.dup, 1) := by decide +kernel
theorem d1_91 : decode method_3_code 91 = .ok (.bipush 7, 2) := by decide +kernel
theorem d1_93 : decode method_3_code 93 = .ok (.sipush 134, 3) := by decide +kernel
theorem d1_96 : decode method_3_code 96 = .ok (.castore, 1) := by decide +kernel
theorem d1_97 : decode method_3_code 97 = .ok (.dup, 1) := by decide +kernel
theorem d1_98 : decode method_3_code 98 = .ok (.bipush 8, 2) := by decide +kernel
theorem d1_100 : decode method_3_code 100 = .ok (.sipush 8231, 3) := by decide +kernel
theorem d1_103 : decode method_3_code 103 = .ok (.castore, 1) := by decide +kernel
theorem d1_104 : decode method_3_code 104 = .ok (.dup, 1) := by decide +kernel
theorem d1_105 : decode method_3_code 105 = .ok (.bipush 9, 2) := by decide +kernel
theorem d1_107 : decode method_3_code 107 = .ok (.sipush 8234, 3) := by decide +kernel
theorem d1_110 : decode method_3_code 110 = .ok (.castore, 1) := by decide +kernel
theorem d1_111 : decode method_3_code 111 = .ok (.dup, 1) := by decide +kernel
theorem d1_112 : decode method_3_code 112 = .ok (.bipush 10, 2) := by decide +kernel
theorem d1_114 : decode method_3_code 114 = .ok (.ldc 35, 2) := by decide +kernel
theorem d1_116 : decode method_3_code 116 = .ok (.castore, 1) := by decide +kernel
theorem d1_117 : decode method_3_code 117 = .ok (.dup, 1) := by decide +kernel
theorem d1_118 : decode method_3_code 118 = .ok (.bipush 11, 2) := by decide +kernel
theorem d1_120 : decode method_3_code 120 = .ok (.ldc 36, 2) := by decide +kernel
theorem d1_122 : decode method_3_code 122 = .ok (.castore, 1) := by decide +kernel
theorem d1_123 : decode method_3_code 123 = .ok (.dup, 1) := by decide +kernel
theorem d1_124 : decode method_3_code 124 = .ok (.bipush 12, 2) := by decide +kernel
theorem d1_126 : decode method_3_code 126 = .ok (.ldc 32, 2) := by decide +kernel
theorem d1_128 : decode method_3_code 128 = .ok (.castore, 1) := by decide +kernel
theorem d1_129 : decode method_3_code 129 = .ok (.dup, 1) := by decide +kernel
theorem d1_130 : decode method_3_code 130 = .ok (.bipush 13, 2) := by decide +kernel
theorem d1_132 : decode method_3_code 132 = .ok (.sipush 160, 3) := by decide +kernel
theorem d1_135 : decode method_3_code 135 = .ok (.castore, 1) := by decide +kernel
theorem d1_136 : decode method_3_code 136 = .ok (.dup, 1) := by decide +kernel
theorem d1_137 : decode method_3_code 137 = .ok (.bipush 14, 2) := by decide +kernel
theorem d1_139 : decode method_3_code 139 = .ok (.bipush 65, 2) := by decide +kernel
theorem d1_141 : decode method_3_code 141 = .ok (.castore, 1) := by decide +kernel
theorem d1_142 : decode method_3_code 142 = .ok (.dup, 1) := by decide +kernel
theorem d1_143 : decode method_3_code 143 = .ok (.bipush 15, 2) := by decide +kernel
theorem d1_145 : decode method_3_code 145 = .ok (.ldc 37, 2) := by decide +kernel
theorem d1_147 : decode method_3_code 147 = .ok (.castore, 1) := by decide +kernel
theorem d1_148 : decode method_3_code 148 = .ok (.astore_n 3, 1) := by decide +kernel
theorem d1_149 : decode method_3_code 149 = .ok (.aload_n 3, 1) := by decide +kernel
theorem d1_150 : decode method_3_code 150 = .ok (.iload_n 2, 1) := by decide +kernel
theorem d1_151 : decode method_3_code 151 = .ok (.bipush 15, 2) := by decide +kernel
theorem d1_153 : decode method_3_code 153 = .ok (.iand, 1) := by decide +kernel
theorem d1_154 : decode method_3_code 154 = .ok (.caload, 1) := by decide +kernel
theorem d1_155 : decode method_3_code 155 = .ok (.ireturn, 1) := by decide +kernel
theorem pn_1 : plainName "com/example/lexiflow/lexiflow/model/IdsCheckPinLaw" = true := by first | (simp [plainName, overriddenIn]; done) | decide +kernel
theorem ef_1 (m : MethodId) (x0 : Int32) : entryFrame m #[(.int x0)] 4 = mkF m 0 #[.val (.int x0), .unset, .unset, .unset] [] := by first | (simp [entryFrame, mkF, argsToLocals, Value.category]; done) | rfl
def Q1 (Z : State) (p1 : Int32) (h0 : Heap) (n0 : Nat) (v : Option Value) (h : Heap) (L : List Loc) : Prop := ∃ z : Int32, v = some (.int z) ∧ Fr n0 L ∧ Keep h0 h [] ∧ (¬ z < (0 : Int32) ∧ ¬ (65535 : Int32) < z)
theorem rm1 (l : Launch) (Z : State) (a0 : Array Value) (hw : own_H a0 Z) (ws : List Jvm.Cond) (p1 : Int32) (h0 : Heap) (n0 : Nat) (Z0 : n0 ≤ h0.size) :
    own_M l Z (⟨"com/example/lexiflow/lexiflow/model/IdsCheckPinLaw", "draw", "(I)C"⟩ : MethodName) method_3_code 4 (some .char) ws ({ frames := 0, cells := 1, slots := 16, locals := 0 } : Room) #[(.int p1)] h0 (Q1 Z p1 h0 n0) := by
  refine own_bd (n0 := n0) (plainFor_of_name pn_1) fun p e s m below meth c s₁ Bd hZ hx hby hml hown X0 e0 N0 => ?_
  have pre0 := own_p0 (tb := p.tables) (e := e) (below := below) (s := s₁) (ef_1 m p1)
  have pre83 := own_go pre0 (s₁.setTop (mkF m 11 #[iv p1, iv (p1 &&& (7 : Int32)), iv ((p1.toUInt32 >>> ((3 : Int32) &&& 31).toUInt32).toInt32), .unset] [(.int 4), (.int (p1 &&& (7 : Int32)))])) fun t kt => by
    refine XS.iloadN X0.here hx rfl (hb hby d1_0) rfl ?_
    refine XS.bipush X0.here hx rfl (hb hby d1_1) ?_
    refine XS.iand X0.here hx rfl (hb hby d1_3) rfl ?_
    refine XS.istoreN X0.here hx rfl (hb hby d1_4) rfl (l' := #[iv p1, iv (p1 &&& (7 : Int32)), .unset, .unset]) rfl ?_
    refine XS.iloadN X0.here hx rfl (hb hby d1_5) rfl ?_
    refine XS.iconst X0.here hx rfl (hb hby d1_6) ?_
    refine XS.iushr X0.here hx rfl (hb hby d1_7) rfl ?_
    refine XS.istoreN X0.here hx rfl (hb hby d1_8) rfl (l' := #[iv p1, iv (p1 &&& (7 : Int32)), iv ((p1.toUInt32 >>> ((3 : Int32) &&& 31).toUInt32).toInt32), .unset]) rfl ?_
    refine XS.iloadN X0.here hx rfl (hb hby d1_9) rfl ?_
    refine XS.iconst X0.here hx rfl (hb hby d1_10) ?_
    exact kt
  by_cases hc11_84 : (p1 &&& (7 : Int32)) < (4 : Int32)
  · have pre85 := own_go pre83 (s₁.setTop (mkF m 19 #[iv p1, iv (p1 &&& (7 : Int32)), iv ((p1.toUInt32 >>> ((3 : Int32) &&& 31).toUInt32).toInt32), .unset] [(.int ((((p1.toUInt32 >>> ((3 : Int32) &&& 31).toUInt32).toInt32) &&& (65535 : Int32)).toUInt32.toUInt16.toUInt32.toInt32))])) fun t kt => by
      refine XS.icmpNo X0.here hx rfl (hb hby d1_11) rfl (tlt hc11_84).2.1 ?_
      refine XS.iloadN X0.here hx rfl (hb hby d1_14) rfl ?_
      refine X0.ldcInt hx hown (mvT hZ (ow hw 4 rfl)) (g := (mkF m 15 #[iv p1, iv (p1 &&& (7 : Int32)), iv ((p1.toUInt32 >>> ((3 : Int32) &&& 31).toUInt32).toInt32), .unset] [(.int ((p1.toUInt32 >>> ((3 : Int32) &&& 31).toUInt32).toInt32))])) rfl (hb hby d1_15) _ ?_
      refine XS.iand X0.here hx rfl (hb hby d1_17) rfl ?_
      refine XS.i2c X0.here hx rfl (hb hby d1_18) rfl ?_
      exact kt
    refine own_lv X0 Bd.notSynchronized (v := some (.int (nar .char ((((p1.toUInt32 >>> ((3 : Int32) &&& 31).toUInt32).toInt32) &&& (65535 : Int32)).toUInt32.toUInt16.toUInt32.toInt32)))) (own_nv Bd.returns) pre85 (fun fs hr => retN X0 hx (t := .char) Bd.returns (by simp) (hb hby d1_19) hr) ?_
    show Q1 Z p1 h0 n0 _ s₁.heap _
    rw [e0]
    exact ⟨_, rfl, N0, (Keep.refl h0 []), own_nc _⟩
  · have pre86 := own_go pre83 (s₁.setTop (mkF m 22 #[iv p1, iv (p1 &&& (7 : Int32)), iv ((p1.toUInt32 >>> ((3 : Int32) &&& 31).toUInt32).toInt32), .unset] [(.int 4), (.int (p1 &&& (7 : Int32)))])) fun t kt => by
      refine XS.icmpYes X0.here hx rfl (pc0 := 11) (pc' := 20) rfl (hb hby d1_11) rfl (flt hc11_84).2.1 (by decide) (by decide) ?_
      refine XS.iloadN X0.here hx rfl (hb hby d1_20) rfl ?_
      refine XS.iconst X0.here hx rfl (hb hby d1_21) ?_
      exact kt
    by_cases hc22_87 : (p1 &&& (7 : Int32)) = (4 : Int32)
    · have pre88 := own_go pre86 (s₁.setTop (mkF m 34 #[iv p1, iv (p1 &&& (7 : Int32)), iv ((p1.toUInt32 >>> ((3 : Int32) &&& 31).toUInt32).toInt32), .unset] [(.int (((55296 : Int32) + (((p1.toUInt32 >>> ((3 : Int32) &&& 31).toUInt32).toInt32) &&& (1023 : Int32))).toUInt32.toUInt16.toUInt32.toInt32))])) fun t kt => by
        refine XS.icmpNo X0.here hx rfl (hb hby d1_22) rfl (teq hc22_87).2 ?_
        refine X0.ldcInt hx hown (mvT hZ (ow hw 15 rfl)) (g := (mkF m 25 #[iv p1, iv (p1 &&& (7 : Int32)), iv ((p1.toUInt32 >>> ((3 : Int32) &&& 31).toUInt32).toInt32), .unset] [])) rfl (hb hby d1_25) _ ?_
        refine XS.iloadN X0.here hx rfl (hb hby d1_27) rfl ?_
        refine XS.sipush X0.here hx rfl (hb hby d1_28) ?_
        refine XS.iand X0.here hx rfl (hb hby d1_31) rfl ?_
        refine XS.iadd X0.here hx rfl (hb hby d1_32) rfl ?_
        refine XS.i2c X0.here hx rfl (hb hby d1_33) rfl ?_
        exact kt
      refine own_lv X0 Bd.notSynchronized (v := some (.int (nar .char (((55296 : Int32) + (((p1.toUInt32 >>> ((3 : Int32) &&& 31).toUInt32).toInt32) &&& (1023 : Int32))).toUInt32.toUInt16.toUInt32.toInt32)))) (own_nv Bd.returns) pre88 (fun fs hr => retN X0 hx (t := .char) Bd.returns (by simp) (hb hby d1_34) hr) ?_
      show Q1 Z p1 h0 n0 _ s₁.heap _
      rw [e0]
      exact ⟨_, rfl, N0, (Keep.refl h0 []), own_nc _⟩
    · have pre89 := own_go pre86 (s₁.setTop (mkF m 37 #[iv p1, iv (p1 &&& (7 : Int32)), iv ((p1.toUInt32 >>> ((3 : Int32) &&& 31).toUInt32).toInt32), .unset] [(.int 5), (.int (p1 &&& (7 : Int32)))])) fun t kt => by
        refine XS.icmpYes X0.here hx rfl (pc0 := 22) (pc' := 35) rfl (hb hby d1_22) rfl (feq hc22_87).2 (by decide) (by decide) ?_
        refine XS.iloadN X0.here hx rfl (hb hby d1_35) rfl ?_
        refine XS.iconst X0.here hx rfl (hb hby d1_36) ?_
        exact kt
      by_cases hc37_90 : (p1 &&& (7 : Int32)) = (5 : Int32)
      · have pre91 := own_go pre89 (s₁.setTop (mkF m 49 #[iv p1, iv (p1 &&& (7 : Int32)), iv ((p1.toUInt32 >>> ((3 : Int32) &&& 31).toUInt32).toInt32), .unset] [(.int (((56320 : Int32) + (((p1.toUInt32 >>> ((3 : Int32) &&& 31).toUInt32).toInt32) &&& (1023 : Int32))).toUInt32.toUInt16.toUInt32.toInt32))])) fun t kt => by
          refine XS.icmpNo X0.here hx rfl (hb hby d1_37) rfl (teq hc37_90).2 ?_
          refine X0.ldcInt hx hown (mvT hZ (ow hw 19 rfl)) (g := (mkF m 40 #[iv p1, iv (p1 &&& (7 : Int32)), iv ((p1.toUInt32 >>> ((3 : Int32) &&& 31).toUInt32).toInt32), .unset] [])) rfl (hb hby d1_40) _ ?_
          refine XS.iloadN X0.here hx rfl (hb hby d1_42) rfl ?_
          refine XS.sipush X0.here hx rfl (hb hby d1_43) ?_
          refine XS.iand X0.here hx rfl (hb hby d1_46) rfl ?_
          refine XS.iadd X0.here hx rfl (hb hby d1_47) rfl ?_
          refine XS.i2c X0.here hx rfl (hb hby d1_48) rfl ?_
          exact kt
        refine own_lv X0 Bd.notSynchronized (v := some (.int (nar .char (((56320 : Int32) + (((p1.toUInt32 >>> ((3 : Int32) &&& 31).toUInt32).toInt32) &&& (1023 : Int32))).toUInt32.toUInt16.toUInt32.toInt32)))) (own_nv Bd.returns) pre91 (fun fs hr => retN X0 hx (t := .char) Bd.returns (by simp) (hb hby d1_49) hr) ?_
        show Q1 Z p1 h0 n0 _ s₁.heap _
        rw [e0]
        exact ⟨_, rfl, N0, (Keep.refl h0 []), own_nc _⟩
      · obtain ⟨T92, h92, k92, X92, e92, E92, A92, st92⟩ := newP X0 hx hZ (ow hw 5 rfl) e0 (g := (mkF m 52 #[iv p1, iv (p1 &&& (7 : Int32)), iv ((p1.toUInt32 >>> ((3 : Int32) &&& 31).toUInt32).toInt32), .unset] [(.int 16)])) rfl (hb hby d1_52) rfl (by decide) (cap := 16) (by decide) (by decide) (by decide) (by decide)
        obtain ⟨b92, g92⟩ : ∃ z, z = h0.size := ⟨_, rfl⟩
        rw [← g92] at A92 st92
        have g_b92 : n0 ≤ b92 := Nat.le_trans Z0 (Nat.le_of_eq g92.symm)
        have sz_b92 : h0.size ≤ b92 := Nat.le_trans (Keep.refl h0 []).1 (Nat.le_of_eq g92.symm)
        have K92 : Keep h0 h92 [] := (Keep.refl h0 []).ext E92
        have V92 : Arv Z h92 b92 k92 .char (16 : Int32) [(.int 0), (.int 0), (.int 0), (.int 0), (.int 0), (.int 0), (.int 0), (.int 0), (.int 0), (.int 0), (.int 0), (.int 0), (.int 0), (.int 0), (.int 0), (.int 0)] (.int (0 : Int32)) := (Arv.new A92 (by decide)).pad (pad_rep [] (.int (0 : Int32)) 16)
        obtain ⟨cl93, Ar93, q93, S93, N93z, H93, G93⟩ := id V92
        obtain ⟨T93, h93, X93, e93, W93, st93⟩ := stC X92 hx hZ e92 Ar93 (j := (0 : Int32)) (inb_of S93 ⟨by decide, by decide⟩) (g := (mkF m 57 #[iv p1, iv (p1 &&& (7 : Int32)), iv ((p1.toUInt32 >>> ((3 : Int32) &&& 31).toUInt32).toInt32), .unset] [(.int 0), (.int 0), (.ref b92), (.ref b92)])) rfl rfl (hb hby d1_57)
        have V93 : Arv Z h93 b92 k92 .char (16 : Int32) [(.int 0), (.int 0), (.int 0), (.int 0), (.int 0), (.int 0), (.int 0), (.int 0), (.int 0), (.int 0), (.int 0), (.int 0), (.int 0), (.int 0), (.int 0), (.int 0)] (.int (0 : Int32)) := Arv.set Ar93 q93 S93 N93z H93 G93 (fits_nar_char _) W93 0 rfl (Nat.le_of_ble_eq_true rfl)
        have N93 := Fr.snoc X93 N0 g_b92
        have K93 : Keep h0 h93 [] := K92.wr W93 (Or.inr sz_b92)
        have z94 : n0 ≤ h93.size := (Nat.le_trans (Nat.le_trans Z0 E92.1) (Keep.of_wr W93).1)
        obtain ⟨cl95, Ar95, q95, S95, N95z, H95, G95⟩ := id V93
        obtain ⟨T95, h95, X95, e95, W95, st95⟩ := stC X93 hx hZ e93 Ar95 (j := (1 : Int32)) (inb_of S95 ⟨by decide, by decide⟩) (g := (mkF m 62 #[iv p1, iv (p1 &&& (7 : Int32)), iv ((p1.toUInt32 >>> ((3 : Int32) &&& 31).toUInt32).toInt32), .unset] [(.int 8), (.int 1), (.ref b92), (.ref b92)])) rfl rfl (hb hby d1_62)
        have V95 : Arv Z h95 b92 k92 .char (16 : Int32) [(.int 0), (.int 8), (.int 0), (.int 0), (.int 0), (.int 0), (.int 0), (.int 0), (.int 0), (.int 0), (.int 0), (.int 0), (.int 0), (.int 0), (.int 0), (.int 0)] (.int (0 : Int32)) := Arv.set Ar95 q95 S95 N95z H95 G95 (fits_nar_char _) W95 1 rfl (Nat.le_of_ble_eq_true rfl)
        have N95 := Fr.snoc X95 N93 g_b92
        have K95 : Keep h0 h95 [] := K93.wr W95 (Or.inr sz_b92)
        have z96 : n0 ≤ h95.size := (Nat.le_trans z94 (Keep.of_wr W95).1)
        obtain ⟨cl97, Ar97, q97, S97, N97z, H97, G97⟩ := id V95
        obtain ⟨T97, h97, X97, e97, W97, st97⟩ := stC X95 hx hZ e95 Ar97 (j := (2 : Int32)) (inb_of S97 ⟨by decide, by decide⟩) (g := (mkF m 67 #[iv p1, iv (p1 &&& (7 : Int32)), iv ((p1.toUInt32 >>> ((3 : Int32) &&& 31).toUInt32).toInt32), .unset] [(.int 14), (.int 2), (.ref b92), (.ref b92)])) rfl rfl (hb hby d1_67)
        have V97 : Arv Z h97 b92 k92 .char (16 : Int32) [(.int 0), (.int 8), (.int 14), (.int 0), (.int 0), (.int 0), (.int 0), (.int 0), (.int 0), (.int 0), (.int 0), (.int 0), (.int 0), (.int 0), (.int 0), (.int 0)] (.int (0 : Int32)) := Arv.set Ar97 q97 S97 N97z H97 G97 (fits_nar_char _) W97 2 rfl (Nat.le_of_ble_eq_true rfl)
        have N97 := Fr.snoc X97 N95 g_b92
        have K97 : Keep h0 h97 [] := K95.wr W97 (Or.inr sz_b92)
        have z98 : n0 ≤ h97.size := (Nat.le_trans z96 (Keep.of_wr W97).1)
        obtain ⟨cl99, Ar99, q99, S99, N99z, H99, G99⟩ := id V97
        obtain ⟨T99, h99, X99, e99, W99, st99⟩ := stC X97 hx hZ e97 Ar99 (j := (3 : Int32)) (inb_of S99 ⟨by decide, by decide⟩) (g := (mkF m 72 #[iv p1, iv (p1 &&& (7 : Int32)), iv ((p1.toUInt32 >>> ((3 : Int32) &&& 31).toUInt32).toInt32), .unset] [(.int 28), (.int 3), (.ref b92), (.ref b92)])) rfl rfl (hb hby d1_72)
        have V99 : Arv Z h99 b92 k92 .char (16 : Int32) [(.int 0), (.int 8), (.int 14), (.int 28), (.int 0), (.int 0), (.int 0), (.int 0), (.int 0), (.int 0), (.int 0), (.int 0), (.int 0), (.int 0), (.int 0), (.int 0)] (.int (0 : Int32)) := Arv.set Ar99 q99 S99 N99z H99 G99 (fits_nar_char _) W99 3 rfl (Nat.le_of_ble_eq_true rfl)
        have N99 := Fr.snoc X99 N97 g_b92
        have K99 : Keep h0 h99 [] := K97.wr W99 (Or.inr sz_b92)
        have z100 : n0 ≤ h99.size := (Nat.le_trans z98 (Keep.of_wr W99).1)
        obtain ⟨cl101, Ar101, q101, S101, N101z, H101, G101⟩ := id V99
        obtain ⟨T101, h101, X101, e101, W101, st101⟩ := stC X99 hx hZ e99 Ar101 (j := (4 : Int32)) (inb_of S101 ⟨by decide, by decide⟩) (g := (mkF m 77 #[iv p1, iv (p1 &&& (7 : Int32)), iv ((p1.toUInt32 >>> ((3 : Int32) &&& 31).toUInt32).toInt32), .unset] [(.int 31), (.int 4), (.ref b92), (.ref b92)])) rfl rfl (hb hby d1_77)
        have V101 : Arv Z h101 b92 k92 .char (16 : Int32) [(.int 0), (.int 8), (.int 14), (.int 28), (.int 31), (.int 0), (.int 0), (.int 0), (.int 0), (.int 0), (.int 0), (.int 0), (.int 0), (.int 0), (.int 0), (.int 0)] (.int (0 : Int32)) := Arv.set Ar101 q101 S101 N101z H101 G101 (fits_nar_char _) W101 4 rfl (Nat.le_of_ble_eq_true rfl)
        have N101 := Fr.snoc X101 N99 g_b92
        have K101 : Keep h0 h101 [] := K99.wr W101 (Or.inr sz_b92)
        have z102 : n0 ≤ h101.size := (Nat.le_trans z100 (Keep.of_wr W101).1)
        obtain ⟨cl103, Ar103, q103, S103, N103z, H103, G103⟩ := id V101
        obtain ⟨T103, h103, X103, e103, W103, st103⟩ := stC X101 hx hZ e101 Ar103 (j := (5 : Int32)) (inb_of S103 ⟨by decide, by decide⟩) (g := (mkF m 82 #[iv p1, iv (p1 &&& (7 : Int32)), iv ((p1.toUInt32 >>> ((3 : Int32) &&& 31).toUInt32).toInt32), .unset] [(.int 32), (.int 5), (.ref b92), (.ref b92)])) rfl rfl (hb hby d1_82)
        have V103 : Arv Z h103 b92 k92 .char (16 : Int32) [(.int 0), (.int 8), (.int 14), (.int 28), (.int 31), (.int 32), (.int 0), (.int 0), (.int 0), (.int 0), (.int 0), (.int 0), (.int 0), (.int 0), (.int 0), (.int 0)] (.int (0 : Int32)) := Arv.set Ar103 q103 S103 N103z H103 G103 (fits_nar_char _) W103 5 rfl (Nat.le_of_ble_eq_true rfl)
        have N103 := Fr.snoc X103 N101 g_b92
        have K103 : Keep h0 h103 [] := K101.wr W103 (Or.inr sz_b92)
        have z104 : n0 ≤ h103.size := (Nat.le_trans z102 (Keep.of_wr W103).1)
        obtain ⟨cl105, Ar105, q105, S105, N105z, H105, G105⟩ := id V103
        obtain ⟨T105, h105, X105, e105, W105, st105⟩ := stC X103 hx hZ e103 Ar105 (j := (6 : Int32)) (inb_of S105 ⟨by decide, by decide⟩) (g := (mkF m 89 #[iv p1, iv (p1 &&& (7 : Int32)), iv ((p1.toUInt32 >>> ((3 : Int32) &&& 31).toUInt32).toInt32), .unset] [(.int 132), (.int 6), (.ref b92), (.ref b92)])) rfl rfl (hb hby d1_89)
        have V105 : Arv Z h105 b92 k92 .char (16 : Int32) [(.int 0), (.int 8), (.int 14), (.int 28), (.int 31), (.int 32), (.int 132), (.int 0), (.int 0), (.int 0), (.int 0), (.int 0), (.int 0), (.int 0), (.int 0), (.int 0)] (.int (0 : Int32)) := Arv.set Ar105 q105 S105 N105z H105 G105 (fits_nar_char _) W105 6 rfl (Nat.le_of_ble_eq_true rfl)
        have N105 := Fr.snoc X105 N103 g_b92
        have K105 : Keep h0 h105 [] := K103.wr W105 (Or.inr sz_b92)
        have z106 : n0 ≤ h105.size := (Nat.le_trans z104 (Keep.of_wr W105).1)
        obtain ⟨cl107, Ar107, q107, S107, N107z, H107, G107⟩ := id V105
        obtain ⟨T107, h107, X107, e107, W107, st107⟩ := stC X105 hx hZ e105 Ar107 (j := (7 : Int32)) (inb_of S107 ⟨by decide, by decide⟩) (g := (mkF m 96 #[iv p1, iv (p1 &&& (7 : Int32)), iv ((p1.toUInt32 >>> ((3 : Int32) &&& 31).toUInt32).toInt32), .unset] [(.int 134), (.int 7), (.ref b92), (.ref b92)])) rfl rfl (hb hby d1_96)
        have V107 : Arv Z h107 b92 k92 .char (16 : Int32) [(.int 0), (.int 8), (.int 14), (.int 28), (.int 31), (.int 32), (.int 132), (.int 134), (.int 0), (.int 0), (.int 0), (.int 0), (.int 0), (.int 0), (.int 0), (.int 0)] (.int (0 : Int32)) := Arv.set Ar107 q107 S107 N107z H107 G107 (fits_nar_char _) W107 7 rfl (Nat.le_of_ble_eq_true rfl)
        have N107 := Fr.snoc X107 N105 g_b92
        have K107 : Keep h0 h107 [] := K105.wr W107 (Or.inr sz_b92)
        have z108 : n0 ≤ h107.size := (Nat.le_trans z106 (Keep.of_wr W107).1)
        obtain ⟨cl109, Ar109, q109, S109, N109z, H109, G109⟩ := id V107
        obtain ⟨T109, h109, X109, e109, W109, st109⟩ := stC X107 hx hZ e107 Ar109 (j := (8 : Int32)) (inb_of S109 ⟨by decide, by decide⟩) (g := (mkF m 103 #[iv p1, iv (p1 &&& (7 : Int32)), iv ((p1.toUInt32 >>> ((3 : Int32) &&& 31).toUInt32).toInt32), .unset] [(.int 8231), (.int 8), (.ref b92), (.ref b92)])) rfl rfl (hb hby d1_103)
        have V109 : Arv Z h109 b92 k92 .char (16 : Int32) [(.int 0), (.int 8), (.int 14), (.int 28), (.int 31), (.int 32), (.int 132), (.int 134), (.int 8231), (.int 0), (.int 0), (.int 0), (.int 0), (.int 0), (.int 0), (.int 0)] (.int (0 : Int32)) := Arv.set Ar109 q109 S109 N109z H109 G109 (fits_nar_char _) W109 8 rfl (Nat.le_of_ble_eq_true rfl)
        have N109 := Fr.snoc X109 N107 g_b92
        have K109 : Keep h0 h109 [] := K107.wr W109 (Or.inr sz_b92)
        have z110 : n0 ≤ h109.size := (Nat.le_trans z108 (Keep.of_wr W109).1)
        obtain ⟨cl111, Ar111, q111, S111, N111z, H111, G111⟩ := id V109
        obtain ⟨T111, h111, X111, e111, W111, st111⟩ := stC X109 hx hZ e109 Ar111 (j := (9 : Int32)) (inb_of S111 ⟨by decide, by decide⟩) (g := (mkF m 110 #[iv p1, iv (p1 &&& (7 : Int32)), iv ((p1.toUInt32 >>> ((3 : Int32) &&& 31).toUInt32).toInt32), .unset] [(.int 8234), (.int 9), (.ref b92), (.ref b92)])) rfl rfl (hb hby d1_110)
        have V111 : Arv Z h111 b92 k92 .char (16 : Int32) [(.int 0), (.int 8), (.int 14), (.int 28), (.int 31), (.int 32), (.int 132), (.int 134), (.int 8231), (.int 8234), (.int 0), (.int 0), (.int 0), (.int 0), (.int 0), (.int 0)] (.int (0 : Int32)) := Arv.set Ar111 q111 S111 N111z H111 G111 (fits_nar_char _) W111 9 rfl (Nat.le_of_ble_eq_true rfl)
        have N111 := Fr.snoc X111 N109 g_b92
        have K111 : Keep h0 h111 [] := K109.wr W111 (Or.inr sz_b92)
        have z112 : n0 ≤ h111.size := (Nat.le_trans z110 (Keep.of_wr W111).1)
        obtain ⟨cl113, Ar113, q113, S113, N113z, H113, G113⟩ := id V111
        obtain ⟨T113, h113, X113, e113, W113, st113⟩ := stC X111 hx hZ e111 Ar113 (j := (10 : Int32)) (inb_of S113 ⟨by decide, by decide⟩) (g := (mkF m 116 #[iv p1, iv (p1 &&& (7 : Int32)), iv ((p1.toUInt32 >>> ((3 : Int32) &&& 31).toUInt32).toInt32), .unset] [(.int 55295), (.int 10), (.ref b92), (.ref b92)])) rfl rfl (hb hby d1_116)
        have V113 : Arv Z h113 b92 k92 .char (16 : Int32) [(.int 0), (.int 8), (.int 14), (.int 28), (.int 31), (.int 32), (.int 132), (.int 134), (.int 8231), (.int 8234), (.int 55295), (.int 0), (.int 0), (.int 0), (.int 0), (.int 0)] (.int (0 : Int32)) := Arv.set Ar113 q113 S113 N113z H113 G113 (fits_nar_char _) W113 10 rfl (Nat.le_of_ble_eq_true rfl)
        have N113 := Fr.snoc X113 N111 g_b92
        have K113 : Keep h0 h113 [] := K111.wr W113 (Or.inr sz_b92)
        have z114 : n0 ≤ h113.size := (Nat.le_trans z112 (Keep.of_wr W113).1)
        obtain ⟨cl115, Ar115, q115, S115, N115z, H115, G115⟩ := id V113
        obtain ⟨T115, h115, X115, e115, W115, st115⟩ := stC X113 hx hZ e113 Ar115 (j := (11 : Int32)) (inb_of S115 ⟨by decide, by decide⟩) (g := (mkF m 122 #[iv p1, iv (p1 &&& (7 : Int32)), iv ((p1.toUInt32 >>> ((3 : Int32) &&& 31).toUInt32).toInt32), .unset] [(.int 57344), (.int 11), (.ref b92), (.ref b92)])) rfl rfl (hb hby d1_122)
        have V115 : Arv Z h115 b92 k92 .char (16 : Int32) [(.int 0), (.int 8), (.int 14), (.int 28), (.int 31), (.int 32), (.int 132), (.int 134), (.int 8231), (.int 8234), (.int 55295), (.int 57344), (.int 0), (.int 0), (.int 0), (.int 0)] (.int (0 : Int32)) := Arv.set Ar115 q115 S115 N115z H115 G115 (fits_nar_char _) W115 11 rfl (Nat.le_of_ble_eq_true rfl)
        have N115 := Fr.snoc X115 N113 g_b92
        have K115 : Keep h0 h115 [] := K113.wr W115 (Or.inr sz_b92)
        have z116 : n0 ≤ h115.size := (Nat.le_trans z114 (Keep.of_wr W115).1)
        obtain ⟨cl117, Ar117, q117, S117, N117z, H117, G117⟩ := id V115
        obtain ⟨T117, h117, X117, e117, W117, st117⟩ := stC X115 hx hZ e115 Ar117 (j := (12 : Int32)) (inb_of S117 ⟨by decide, by decide⟩) (g := (mkF m 128 #[iv p1, iv (p1 &&& (7 : Int32)), iv ((p1.toUInt32 >>> ((3 : Int32) &&& 31).toUInt32).toInt32), .unset] [(.int 65535), (.int 12), (.ref b92), (.ref b92)])) rfl rfl (hb hby d1_128)
        have V117 : Arv Z h117 b92 k92 .char (16 : Int32) [(.int 0), (.int 8), (.int 14), (.int 28), (.int 31), (.int 32), (.int 132), (.int 134), (.int 8231), (.int 8234), (.int 55295), (.int 57344), (.int 65535), (.int 0), (.int 0), (.int 0)] (.int (0 : Int32)) := Arv.set Ar117 q117 S117 N117z H117 G117 (fits_nar_char _) W117 12 rfl (Nat.le_of_ble_eq_true rfl)
        have N117 := Fr.snoc X117 N115 g_b92
        have K117 : Keep h0 h117 [] := K115.wr W117 (Or.inr sz_b92)
        have z118 : n0 ≤ h117.size := (Nat.le_trans z116 (Keep.of_wr W117).1)
        obtain ⟨cl119, Ar119, q119, S119, N119z, H119, G119⟩ := id V117
        obtain ⟨T119, h119, X119, e119, W119, st119⟩ := stC X117 hx hZ e117 Ar119 (j := (13 : Int32)) (inb_of S119 ⟨by decide, by decide⟩) (g := (mkF m 135 #[iv p1, iv (p1 &&& (7 : Int32)), iv ((p1.toUInt32 >>> ((3 : Int32) &&& 31).toUInt32).toInt32), .unset] [(.int 160), (.int 13), (.ref b92), (.ref b92)])) rfl rfl (hb hby d1_135)
        have V119 : Arv Z h119 b92 k92 .char (16 : Int32) [(.int 0), (.int 8), (.int 14), (.int 28), (.int 31), (.int 32), (.int 132), (.int 134), (.int 8231), (.int 8234), (.int 55295), (.int 57344), (.int 65535), (.int 160), (.int 0), (.int 0)] (.int (0 : Int32)) := Arv.set Ar119 q119 S119 N119z H119 G119 (fits_nar_char _) W119 13 rfl (Nat.le_of_ble_eq_true rfl)
        have N119 := Fr.snoc X119 N117 g_b92
        have K119 : Keep h0 h119 [] := K117.wr W119 (Or.inr sz_b92)
        have z120 : n0 ≤ h119.size := (Nat.le_trans z118 (Keep.of_wr W119).1)
        obtain ⟨cl121, Ar121, q121, S121, N121z, H121, G121⟩ := id V119
        obtain ⟨T121, h121, X121, e121, W121, st121⟩ := stC X119 hx hZ e119 Ar121 (j := (14 : Int32)) (inb_of S121 ⟨by decide, by decide⟩) (g := (mkF m 141 #[iv p1, iv (p1 &&& (7 : Int32)), iv ((p1.toUInt32 >>> ((3 : Int32) &&& 31).toUInt32).toInt32), .unset] [(.int 65), (.int 14), (.ref b92), (.ref b92)])) rfl rfl (hb hby d1_141)
        have V121 : Arv Z h121 b92 k92 .char (16 : Int32) [(.int 0), (.int 8), (.int 14), (.int 28), (.int 31), (.int 32), (.int 132), (.int 134), (.int 8231), (.int 8234), (.int 55295), (.int 57344), (.int 65535), (.int 160), (.int 65), (.int 0)] (.int (0 : Int32)) := Arv.set Ar121 q121 S121 N121z H121 G121 (fits_nar_char _) W121 14 rfl (Nat.le_of_ble_eq_true rfl)
        have N121 := Fr.snoc X121 N119 g_b92
        have K121 : Keep h0 h121 [] := K119.wr W121 (Or.inr sz_b92)
        have z122 : n0 ≤ h121.size := (Nat.le_trans z120 (Keep.of_wr W121).1)
        obtain ⟨cl123, Ar123, q123, S123, N123z, H123, G123⟩ := id V121
        obtain ⟨T123, h123, X123, e123, W123, st123⟩ := stC X121 hx hZ e121 Ar123 (j := (15 : Int32)) (inb_of S123 ⟨by decide, by decide⟩) (g := (mkF m 147 #[iv p1, iv (p1 &&& (7 : Int32)), iv ((p1.toUInt32 >>> ((3 : Int32) &&& 31).toUInt32).toInt32), .unset] [(.int 65534), (.int 15), (.ref b92), (.ref b92)])) rfl rfl (hb hby d1_147)
        have V123 : Arv Z h123 b92 k92 .char (16 : Int32) [(.int 0), (.int 8), (.int 14), (.int 28), (.int 31), (.int 32), (.int 132), (.int 134), (.int 8231), (.int 8234), (.int 55295), (.int 57344), (.int 65535), (.int 160), (.int 65), (.int 65534)] (.int (0 : Int32)) := Arv.set Ar123 q123 S123 N123z H123 G123 (fits_nar_char _) W123 15 rfl (Nat.le_of_ble_eq_true rfl)
        have N123 := Fr.snoc X123 N121 g_b92
        have K123 : Keep h0 h123 [] := K121.wr W123 (Or.inr sz_b92)
        have z124 : n0 ≤ h123.size := (Nat.le_trans z122 (Keep.of_wr W123).1)
        obtain ⟨cl125, Ar125, -, Sz125, Nz125, Hs125, -⟩ := id V123
        have in125 := inb_of Sz125 (own_m15 ((p1.toUInt32 >>> ((3 : Int32) &&& 31).toUInt32).toInt32))
        have at125 := Has.at Hs125 in125 (own_tat (((p1.toUInt32 >>> ((3 : Int32) &&& 31).toUInt32).toInt32) &&& (15 : Int32)) (own_m15 ((p1.toUInt32 >>> ((3 : Int32) &&& 31).toUInt32).toInt32)).1 (own_m15 ((p1.toUInt32 >>> ((3 : Int32) &&& 31).toUInt32).toInt32)).2)
        have pre126 := own_go pre89 (T123.setTop (mkF m 155 #[iv p1, iv (p1 &&& (7 : Int32)), iv ((p1.toUInt32 >>> ((3 : Int32) &&& 31).toUInt32).toInt32), rv b92] [(.int (own_t (((p1.toUInt32 >>> ((3 : Int32) &&& 31).toUInt32).toInt32) &&& (15 : Int32))))])) fun t kt => by
          refine XS.icmpYes X0.here hx rfl (pc0 := 37) (pc' := 50) rfl (hb hby d1_37) rfl (feq hc37_90).2 (by decide) (by decide) ?_
          refine XS.bipush X0.here hx rfl (hb hby d1_50) ?_
          refine st92 _ ?_
          refine XS.dup X92.here hx rfl (hb hby d1_54) rfl rfl ?_
          refine XS.iconst X92.here hx rfl (hb hby d1_55) ?_
          refine XS.iconst X92.here hx rfl (hb hby d1_56) ?_
          refine st93 _ ?_
          refine XS.dup X93.here hx rfl (hb hby d1_58) rfl rfl ?_
          refine XS.iconst X93.here hx rfl (hb hby d1_59) ?_
          refine XS.bipush X93.here hx rfl (hb hby d1_60) ?_
          refine st95 _ ?_
          refine XS.dup X95.here hx rfl (hb hby d1_63) rfl rfl ?_
          refine XS.iconst X95.here hx rfl (hb hby d1_64) ?_
          refine XS.bipush X95.here hx rfl (hb hby d1_65) ?_
          refine st97 _ ?_
          refine XS.dup X97.here hx rfl (hb hby d1_68) rfl rfl ?_
          refine XS.iconst X97.here hx rfl (hb hby d1_69) ?_
          refine XS.bipush X97.here hx rfl (hb hby d1_70) ?_
          refine st99 _ ?_
          refine XS.dup X99.here hx rfl (hb hby d1_73) rfl rfl ?_
          refine XS.iconst X99.here hx rfl (hb hby d1_74) ?_
          refine XS.bipush X99.here hx rfl (hb hby d1_75) ?_
          refine st101 _ ?_
          refine XS.dup X101.here hx rfl (hb hby d1_78) rfl rfl ?_
          refine XS.iconst X101.here hx rfl (hb hby d1_79) ?_
          refine XS.bipush X101.here hx rfl (hb hby d1_80) ?_
          refine st103 _ ?_
          refine XS.dup X103.here hx rfl (hb hby d1_83) rfl rfl ?_
          refine XS.bipush X103.here hx rfl (hb hby d1_84) ?_
          refine XS.sipush X103.here hx rfl (hb hby d1_86) ?_
          refine st105 _ ?_
          refine XS.dup X105.here hx rfl (hb hby d1_90) rfl rfl ?_
          refine XS.bipush X105.here hx rfl (hb hby d1_91) ?_
          refine XS.sipush X105.here hx rfl (hb hby d1_93) ?_
          refine st107 _ ?_
          refine XS.dup X107.here hx rfl (hb hby d1_97) rfl rfl ?_
          refine XS.bipush X107.here hx rfl (hb hby d1_98) ?_
          refine XS.sipush X107.here hx rfl (hb hby d1_100) ?_
          refine st109 _ ?_
          refine XS.dup X109.here hx rfl (hb hby d1_104) rfl rfl ?_
          refine XS.bipush X109.here hx rfl (hb hby d1_105) ?_
          refine XS.sipush X109.here hx rfl (hb hby d1_107) ?_
          refine st111 _ ?_
          refine XS.dup X111.here hx rfl (hb hby d1_111) rfl rfl ?_
          refine XS.bipush X111.here hx rfl (hb hby d1_112) ?_
          refine X111.ldcInt hx hown (mvT hZ (ow hw 102 rfl)) (g := (mkF m 114 #[iv p1, iv (p1 &&& (7 : Int32)), iv ((p1.toUInt32 >>> ((3 : Int32) &&& 31).toUInt32).toInt32), .unset] [(.int 10), (.ref b92), (.ref b92)])) rfl (hb hby d1_114) _ ?_
          refine st113 _ ?_
          refine XS.dup X113.here hx rfl (hb hby d1_117) rfl rfl ?_
          refine XS.bipush X113.here hx rfl (hb hby d1_118) ?_
          refine X113.ldcInt hx hown (mvT hZ (ow hw 103 rfl)) (g := (mkF m 120 #[iv p1, iv (p1 &&& (7 : Int32)), iv ((p1.toUInt32 >>> ((3 : Int32) &&& 31).toUInt32).toInt32), .unset] [(.int 11), (.ref b92), (.ref b92)])) rfl (hb hby d1_120) _ ?_
          refine st115 _ ?_
          refine XS.dup X115.here hx rfl (hb hby d1_123) rfl rfl ?_
          refine XS.bipush X115.here hx rfl (hb hby d1_124) ?_
          refine X115.ldcInt hx hown (mvT hZ (ow hw 4 rfl)) (g := (mkF m 126 #[iv p1, iv (p1 &&& (7 : Int32)), iv ((p1.toUInt32 >>> ((3 : Int32) &&& 31).toUInt32).toInt32), .unset] [(.int 12), (.ref b92), (.ref b92)])) rfl (hb hby d1_126) _ ?_
          refine st117 _ ?_
          refine XS.dup X117.here hx rfl (hb hby d1_129) rfl rfl ?_
          refine XS.bipush X117.here hx rfl (hb hby d1_130) ?_
          refine XS.sipush X117.here hx rfl (hb hby d1_132) ?_
          refine st119 _ ?_
          refine XS.dup X119.here hx rfl (hb hby d1_136) rfl rfl ?_
          refine XS.bipush X119.here hx rfl (hb hby d1_137) ?_
          refine XS.bipush X119.here hx rfl (hb hby d1_139) ?_
          refine st121 _ ?_
          refine XS.dup X121.here hx rfl (hb hby d1_142) rfl rfl ?_
          refine XS.bipush X121.here hx rfl (hb hby d1_143) ?_
          refine X121.ldcInt hx hown (mvT hZ (ow hw 104 rfl)) (g := (mkF m 145 #[iv p1, iv (p1 &&& (7 : Int32)), iv ((p1.toUInt32 >>> ((3 : Int32) &&& 31).toUInt32).toInt32), .unset] [(.int 15), (.ref b92), (.ref b92)])) rfl (hb hby d1_145) _ ?_
          refine st123 _ ?_
          refine XS.astoreN X123.here hx rfl (hb hby d1_148) rfl rfl (l' := #[iv p1, iv (p1 &&& (7 : Int32)), iv ((p1.toUInt32 >>> ((3 : Int32) &&& 31).toUInt32).toInt32), rv b92]) rfl ?_
          refine XS.aloadN X123.here hx rfl (hb hby d1_149) rfl rfl ?_
          refine XS.iloadN X123.here hx rfl (hb hby d1_150) rfl ?_
          refine XS.bipush X123.here hx rfl (hb hby d1_151) ?_
          refine XS.iand X123.here hx rfl (hb hby d1_153) rfl ?_
          refine X123.caload hx (j := (((p1.toUInt32 >>> ((3 : Int32) &&& 31).toUInt32).toInt32) &&& (15 : Int32))) (v := .int (own_t (((p1.toUInt32 >>> ((3 : Int32) &&& 31).toUInt32).toInt32) &&& (15 : Int32)))) (by rw [e123]; exact Ar125.1) (State.isArrayOf_alike hZ.alike Ar125.2.1) Ar125.2.2 in125 at125 (g := (mkF m 154 #[iv p1, iv (p1 &&& (7 : Int32)), iv ((p1.toUInt32 >>> ((3 : Int32) &&& 31).toUInt32).toInt32), rv b92] [(.int (((p1.toUInt32 >>> ((3 : Int32) &&& 31).toUInt32).toInt32) &&& (15 : Int32))), (.ref b92)])) rfl rfl (hb hby d1_154) _ ?_
          exact kt
        refine own_lv X123 Bd.notSynchronized (v := some (.int (nar .char (own_t (((p1.toUInt32 >>> ((3 : Int32) &&& 31).toUInt32).toInt32) &&& (15 : Int32)))))) (own_nv Bd.returns) pre126 (fun fs hr => retN X123 hx (t := .char) Bd.returns (by simp) (hb hby d1_155) hr) ?_
        show Q1 Z p1 h0 n0 _ T123.heap _
        rw [e123]
        exact ⟨_, rfl, N123, K123, own_nc _⟩
theorem pd_0 : parseMethodDescriptor "(C)Z" = some ⟨[.char], some .boolean⟩ := by decide +kernel
theorem d2_0 : decode method_7_code 0 = .ok (.iload_n 2, 1) := by decide +kernel
theorem d2_1 : decode method_7_code 1 = .ok (.iload_n 1, 1) := by decide +kernel
theorem d2_2 : decode method_7_code 2 = .ok (.if_icmp .lt 5, 3) := by decide +kernel
theorem d2_7 : decode method_7_code 7 = .ok (.aload_n 0, 1) := by decide +kernel
theorem d2_8 : decode method_7_code 8 = .ok (.iload_n 2, 1) := by decide +kernel
theorem d2_9 : decode method_7_code 9 = .ok (.caload, 1) := by decide +kernel
theorem d2_10 : decode method_7_code 10 = .ok (.istore_n 3, 1) := by decide +kernel
theorem d2_11 : decode method_7_code 11 = .ok (.iload_n 3, 1) := by decide +kernel
theorem d2_12 : decode method_7_code 12 = .ok (.invokestatic 40, 3) := by decide +kernel
theorem d2_15 : decode method_7_code 15 = .ok (.ifCond .eq 5, 3) := by decide +kernel
theorem d2_18 : decode method_7_code 18 = .ok (.iconst 0, 1) := by decide +kernel
theorem d2_19 : decode method_7_code 19 = .ok (.ireturn, 1) := by decide +kernel
theorem d2_20 : decode method_7_code 20 = .ok (.iload_n 3, 1) := by decide +kernel
theorem d2_21 : decode method_7_code 21 = .ok (.invokestatic 44, 3) := by decide +kernel
theorem d2_24 : decode method_7_code 24 = .ok (.ifCond .eq 27, 3) := by decide +kernel
theorem d2_27 : decode method_7_code 27 = .ok (.iload_n 2, 1) := by decide +kernel
theorem d2_28 : decode method_7_code 28 = .ok (.iconst 1, 1) := by decide +kernel
theorem d2_29 : decode method_7_code 29 = .ok (.iadd, 1) := by decide +kernel
theorem d2_30 : decode method_7_code 30 = .ok (.iload_n 1, 1) := by decide +kernel
theorem d2_31 : decode method_7_code 31 = .ok (.if_icmp .ge 18, 3) := by decide +kernel
theorem d2_34 : decode method_7_code 34 = .ok (.aload_n 0, 1) := by decide +kernel
theorem d2_35 : decode method_7_code 35 = .ok (.iload_n 2, 1) := by decide +kernel
theorem d2_36 : decode method_7_code 36 = .ok (.iconst 1, 1) := by decide +kernel
theorem d2_37 : decode method_7_code 37 = .ok (.iadd, 1) := by decide +kernel
theorem d2_38 : decode method_7_code 38 = .ok (.caload, 1) := by decide +kernel
theorem d2_39 : decode method_7_code 39 = .ok (.invokestatic 47, 3) := by decide +kernel
theorem d2_42 : decode method_7_code 42 = .ok (.ifCond .eq 7, 3) := by decide +kernel
theorem d2_45 : decode method_7_code 45 = .ok (.iconst 1, 1) := by decide +kernel
theorem d2_46 : decode method_7_code 46 = .ok (.goto 4, 3) := by decide +kernel
theorem d2_49 : decode method_7_code 49 = .ok (.iconst 0, 1) := by decide +kernel
theorem d2_50 : decode method_7_code 50 = .ok (.ireturn, 1) := by decide +kernel
theorem d2_51 : decode method_7_code 51 = .ok (.iload_n 3, 1) := by decide +kernel
theorem d2_52 : decode method_7_code 52 = .ok (.invokestatic 47, 3) := by decide +kernel
theorem d2_55 : decode method_7_code 55 = .ok (.ifCond .eq 24, 3) := by decide +kernel
theorem d2_58 : decode method_7_code 58 = .ok (.iload_n 2, 1) := by decide +kernel
theorem d2_59 : decode method_7_code 59 = .ok (.ifCond .le 18, 3) := by decide +kernel
theorem d2_77 : decode method_7_code 77 = .ok (.iconst 0, 1) := by decide +kernel
theorem d2_78 : decode method_7_code 78 = .ok (.ireturn, 1) := by decide +kernel
theorem d2_79 : decode method_7_code 79 = .ok (.iconst 1, 1) := by decide +kernel
theorem d2_80 : decode method_7_code 80 = .ok (.ireturn, 1) := by decide +kernel
theorem pn_2 : plainName "com/example/lexiflow/lexiflow/model/IdsCheckPinLaw" = true := by first | (simp [plainName, overriddenIn]; done) | decide +kernel
theorem ef_2_A0 (m : MethodId) (x0 : Addr) (x1 : Int32) : entryFrame m #[(.ref x0), (.int x1), (.int 0)] 4 = mkF m 0 #[.val (.ref x0), .val (.int x1), .val (.int 0), .unset] [] := by first | (simp [entryFrame, mkF, argsToLocals, Value.category]; done) | rfl
def own_F2_A0 (a1 : Addr) (p2 : Int32) (kc : ClassId) (c0 : Int32) (c1 : Int32) (c2 : Int32) (c3 : Int32) : Int32 := if (own_F3 c0) = (0 : Int32) then if (own_F4 c0) = (0 : Int32) then if (own_F5 c0) = (0 : Int32) then (1 : Int32) else (0 : Int32) else if (own_F5 c1) = (0 : Int32) then (0 : Int32) else (1 : Int32) else (0 : Int32)
def Q2_A0 (Z : State) (a1 : Addr) (p2 : Int32) (kc : ClassId) (c0 : Int32) (c1 : Int32) (c2 : Int32) (c3 : Int32) (h0 : Heap) (n0 : Nat) (v : Option Value) (h : Heap) (L : List Loc) : Prop := v = some (.int (own_F2_A0 a1 p2 kc c0 c1 c2 c3)) ∧ Fr n0 L ∧ h = h0
theorem rm2_A0 (l : Launch) (Z : State) (a0 : Array Value) (hw : own_H a0 Z) (ws : List Jvm.Cond) (a1 : Addr) (p2 : Int32) (kc : ClassId) (c0 : Int32) (c1 : Int32) (c2 : Int32) (c3 : Int32) (h0 : Heap) (n0 : Nat) (Z0 : n0 ≤ h0.size) (V1 : Arv Z h0 a1 kc .char (4 : Int32) [(.int c0), (.int c1), (.int c2), (.int c3)] (.int (0 : Int32))) (g1 : (0 : Int32) < p2) (g2 : (1 : Int32) < p2) :
    own_M l Z (⟨"com/example/lexiflow/lexiflow/model/IdsCheckPinLaw", "ok", "([CII)Z"⟩ : MethodName) method_7_code 4 (some .boolean) ws ({ frames := 1, cells := 0, slots := 0, locals := 12 } : Room) #[(.ref a1), (.int p2), (.int 0)] h0 (Q2_A0 Z a1 p2 kc c0 c1 c2 c3 h0 n0) := by
  refine own_bd (n0 := n0) (plainFor_of_name pn_2) fun p e s m below meth c s₁ Bd hZ hx hby hml hown X0 e0 N0 => ?_
  have pre0 := own_p0 (tb := p.tables) (e := e) (below := below) (s := s₁) (ef_2_A0 m a1 p2)
  obtain ⟨cl127, Ar127, -, Sz127, Nz127, Hs127, -⟩ := id V1
  have in127 : ¬ ((0 : Int32) < 0 ∨ cl127.slots.size ≤ ((0 : Int32)).toNatClampNeg) := inb_of Sz127 ⟨by decide, by decide⟩
  have at127 : cl127.slots[((0 : Int32)).toNatClampNeg]? = some (.int c0) := Has.at Hs127 in127 rfl
  obtain ⟨T128, L128, X128, e128, N128, st128⟩ := own_pS X0 hx hZ hml hown N0 (ow hw 9 rfl) (ow hw 10 rfl) (ow hw 2 rfl) (ow hw 11 rfl) e0 (rm3 l Z a0 hw [] c0 h0 n0 Z0) (W := 0) (g := (mkF m 12 #[rv a1, iv p2, iv 0, iv c0] [(.int c0)])) (argsL := [(.int c0)]) (rest := []) (lenOf pd_0 rfl) (hb hby d2_12)
  have pre129 := own_go pre0 (T128.setTop (mkF m 15 #[rv a1, iv p2, iv 0, iv c0] [(.int (own_F3 c0))])) fun t kt => by
    refine XS.iloadN X0.here hx rfl (hb hby d2_0) rfl ?_
    refine XS.iloadN X0.here hx rfl (hb hby d2_1) rfl ?_
    refine XS.icmpYes X0.here hx rfl (pc0 := 2) (pc' := 7) rfl (hb hby d2_2) rfl (tlt (g1 : (0 : Int32) < p2)).1 (by decide) (by decide) ?_
    refine XS.aloadN X0.here hx rfl (hb hby d2_7) rfl rfl ?_
    refine XS.iloadN X0.here hx rfl (hb hby d2_8) rfl ?_
    refine X0.caload hx (j := (0 : Int32)) (v := (.int c0)) (by rw [e0]; exact Ar127.1) (State.isArrayOf_alike hZ.alike Ar127.2.1) Ar127.2.2 in127 at127 (g := (mkF m 9 #[rv a1, iv p2, iv 0, .unset] [(.int 0), (.ref a1)])) rfl rfl (hb hby d2_9) _ ?_
    refine XS.istoreN X0.here hx rfl (hb hby d2_10) rfl (l' := #[rv a1, iv p2, iv 0, iv c0]) rfl ?_
    refine XS.iloadN X0.here hx rfl (hb hby d2_11) rfl ?_
    refine st128 _ ?_
    exact kt
  by_cases hc15_130 : (own_F3 c0) = (0 : Int32)
  · obtain ⟨T131, L131, X131, e131, N131, st131⟩ := own_pS X128 hx hZ hml hown N128 (ow hw 12 rfl) (ow hw 13 rfl) (ow hw 2 rfl) (ow hw 14 rfl) e128 (rm4 l Z a0 hw [] c0 h0 n0 Z0) (W := 0) (g := (mkF m 21 #[rv a1, iv p2, iv 0, iv c0] [(.int c0)])) (argsL := [(.int c0)]) (rest := []) (lenOf pd_0 rfl) (hb hby d2_21)
    have pre132 := own_go pre129 (T131.setTop (mkF m 24 #[rv a1, iv p2, iv 0, iv c0] [(.int (own_F4 c0))])) fun t kt => by
      refine XS.ifYes X128.here hx rfl (pc0 := 15) (pc' := 20) rfl (hb hby d2_15) rfl ((if0 _ _).trans (teq hc15_130).1) (by decide) (by decide) ?_
      refine XS.iloadN X128.here hx rfl (hb hby d2_20) rfl ?_
      refine st131 _ ?_
      exact kt
    by_cases hc24_133 : (own_F4 c0) = (0 : Int32)
    · obtain ⟨T134, L134, X134, e134, N134, st134⟩ := own_pS X131 hx hZ hml hown N131 (ow hw 16 rfl) (ow hw 17 rfl) (ow hw 2 rfl) (ow hw 18 rfl) e131 (rm5 l Z a0 hw [] c0 h0 n0 Z0) (W := 0) (g := (mkF m 52 #[rv a1, iv p2, iv 0, iv c0] [(.int c0)])) (argsL := [(.int c0)]) (rest := []) (lenOf pd_0 rfl) (hb hby d2_52)
      have pre135 := own_go pre132 (T134.setTop (mkF m 55 #[rv a1, iv p2, iv 0, iv c0] [(.int (own_F5 c0))])) fun t kt => by
        refine XS.ifYes X131.here hx rfl (pc0 := 24) (pc' := 51) rfl (hb hby d2_24) rfl ((if0 _ _).trans (teq hc24_133).1) (by decide) (by decide) ?_
        refine XS.iloadN X131.here hx rfl (hb hby d2_51) rfl ?_
        refine st134 _ ?_
        exact kt
      by_cases hc55_136 : (own_F5 c0) = (0 : Int32)
      · have pre137 := own_go pre135 (T134.setTop (mkF m 80 #[rv a1, iv p2, iv 0, iv c0] [(.int 1)])) fun t kt => by
          refine XS.ifYes X134.here hx rfl (pc0 := 55) (pc' := 79) rfl (hb hby d2_55) rfl ((if0 _ _).trans (teq hc55_136).1) (by decide) (by decide) ?_
          refine XS.iconst X134.here hx rfl (hb hby d2_79) ?_
          exact kt
        refine own_lv X134 Bd.notSynchronized (v := some (.int 1)) (own_nv Bd.returns) pre137 (fun fs hr => retN X134 hx (t := .boolean) Bd.returns (by simp) (hb hby d2_80) hr) ?_
        show Q2_A0 Z a1 p2 kc c0 c1 c2 c3 h0 n0 _ T134.heap _
        rw [e134]
        exact ⟨(by rw [own_F2_A0, if_pos hc15_130, if_pos hc24_133, if_pos hc55_136]), N134, rfl⟩
      · have pre138 := own_go pre135 (T134.setTop (mkF m 78 #[rv a1, iv p2, iv 0, iv c0] [(.int 0)])) fun t kt => by
          refine XS.ifNo X134.here hx rfl (hb hby d2_55) rfl ((if0 _ _).trans (feq hc55_136).1) ?_
          refine XS.iloadN X134.here hx rfl (hb hby d2_58) rfl ?_
          refine XS.ifYes X134.here hx rfl (pc0 := 59) (pc' := 77) rfl (hb hby d2_59) rfl ((if0 _ _).trans (flt (by decide : ¬ ((0 : Int32) < (0 : Int32)))).2.2.2) (by decide) (by decide) ?_
          refine XS.iconst X134.here hx rfl (hb hby d2_77) ?_
          exact kt
        refine own_lv X134 Bd.notSynchronized (v := some (.int 0)) (own_nv Bd.returns) pre138 (fun fs hr => retN X134 hx (t := .boolean) Bd.returns (by simp) (hb hby d2_78) hr) ?_
        show Q2_A0 Z a1 p2 kc c0 c1 c2 c3 h0 n0 _ T134.heap _
        rw [e134]
        exact ⟨(by rw [own_F2_A0, if_pos hc15_130, if_pos hc24_133, if_neg hc55_136]), N134, rfl⟩
    · obtain ⟨cl139, Ar139, -, Sz139, Nz139, Hs139, -⟩ := id V1
      have in139 : ¬ ((1 : Int32) < 0 ∨ cl139.slots.size ≤ ((1 : Int32)).toNatClampNeg) := inb_of Sz139 ⟨by decide, by decide⟩
      have at139 : cl139.slots[((1 : Int32)).toNatClampNeg]? = some (.int c1) := Has.at Hs139 in139 rfl
      obtain ⟨T140, L140, X140, e140, N140, st140⟩ := own_pS X131 hx hZ hml hown N131 (ow hw 16 rfl) (ow hw 17 rfl) (ow hw 2 rfl) (ow hw 18 rfl) e131 (rm5 l Z a0 hw [] c1 h0 n0 Z0) (W := 0) (g := (mkF m 39 #[rv a1, iv p2, iv 0, iv c0] [(.int c1)])) (argsL := [(.int c1)]) (rest := []) (lenOf pd_0 rfl) (hb hby d2_39)
      have pre141 := own_go pre132 (T140.setTop (mkF m 42 #[rv a1, iv p2, iv 0, iv c0] [(.int (own_F5 c1))])) fun t kt => by
        refine XS.ifNo X131.here hx rfl (hb hby d2_24) rfl ((if0 _ _).trans (feq hc24_133).1) ?_
        refine XS.iloadN X131.here hx rfl (hb hby d2_27) rfl ?_
        refine XS.iconst X131.here hx rfl (hb hby d2_28) ?_
        refine XS.iadd X131.here hx rfl (hb hby d2_29) rfl ?_
        refine XS.iloadN X131.here hx rfl (hb hby d2_30) rfl ?_
        refine XS.icmpNo X131.here hx rfl (hb hby d2_31) rfl (tlt (g2 : (1 : Int32) < p2)).2.1 ?_
        refine XS.aloadN X131.here hx rfl (hb hby d2_34) rfl rfl ?_
        refine XS.iloadN X131.here hx rfl (hb hby d2_35) rfl ?_
        refine XS.iconst X131.here hx rfl (hb hby d2_36) ?_
        refine XS.iadd X131.here hx rfl (hb hby d2_37) rfl ?_
        refine X131.caload hx (j := (1 : Int32)) (v := (.int c1)) (by rw [e131]; exact Ar139.1) (State.isArrayOf_alike hZ.alike Ar139.2.1) Ar139.2.2 in139 at139 (g := (mkF m 38 #[rv a1, iv p2, iv 0, iv c0] [(.int 1), (.ref a1)])) rfl rfl (hb hby d2_38) _ ?_
        refine st140 _ ?_
        exact kt
      by_cases hc42_142 : (own_F5 c1) = (0 : Int32)
      · have pre143 := own_go pre141 (T140.setTop (mkF m 50 #[rv a1, iv p2, iv 0, iv c0] [(.int 0)])) fun t kt => by
          refine XS.ifYes X140.here hx rfl (pc0 := 42) (pc' := 49) rfl (hb hby d2_42) rfl ((if0 _ _).trans (teq hc42_142).1) (by decide) (by decide) ?_
          refine XS.iconst X140.here hx rfl (hb hby d2_49) ?_
          exact kt
        refine own_lv X140 Bd.notSynchronized (v := some (.int 0)) (own_nv Bd.returns) pre143 (fun fs hr => retN X140 hx (t := .boolean) Bd.returns (by simp) (hb hby d2_50) hr) ?_
        show Q2_A0 Z a1 p2 kc c0 c1 c2 c3 h0 n0 _ T140.heap _
        rw [e140]
        exact ⟨(by rw [own_F2_A0, if_pos hc15_130, if_neg hc24_133, if_pos hc42_142]), N140, rfl⟩
      · have pre144 := own_go pre141 (T140.setTop (mkF m 50 #[rv a1, iv p2, iv 0, iv c0] [(.int 1)])) fun t kt => by
          refine XS.ifNo X140.here hx rfl (hb hby d2_42) rfl ((if0 _ _).trans (feq hc42_142).1) ?_
          refine XS.iconst X140.here hx rfl (hb hby d2_45) ?_
          refine XS.goto X140.here hx rfl (pc0 := 46) (pc' := 50) rfl (hb hby d2_46) (by decide) (by decide) ?_
          exact kt
        refine own_lv X140 Bd.notSynchronized (v := some (.int 1)) (own_nv Bd.returns) pre144 (fun fs hr => retN X140 hx (t := .boolean) Bd.returns (by simp) (hb hby d2_50) hr) ?_
        show Q2_A0 Z a1 p2 kc c0 c1 c2 c3 h0 n0 _ T140.heap _
        rw [e140]
        exact ⟨(by rw [own_F2_A0, if_pos hc15_130, if_neg hc24_133, if_neg hc42_142]), N140, rfl⟩
  · have pre145 := own_go pre129 (T128.setTop (mkF m 19 #[rv a1, iv p2, iv 0, iv c0] [(.int 0)])) fun t kt => by
      refine XS.ifNo X128.here hx rfl (hb hby d2_15) rfl ((if0 _ _).trans (feq hc15_130).1) ?_
      refine XS.iconst X128.here hx rfl (hb hby d2_18) ?_
      exact kt
    refine own_lv X128 Bd.notSynchronized (v := some (.int 0)) (own_nv Bd.returns) pre145 (fun fs hr => retN X128 hx (t := .boolean) Bd.returns (by simp) (hb hby d2_19) hr) ?_
    show Q2_A0 Z a1 p2 kc c0 c1 c2 c3 h0 n0 _ T128.heap _
    rw [e128]
    exact ⟨(by rw [own_F2_A0, if_neg hc15_130]), N128, rfl⟩
theorem own_p_A0 {a1 : Addr} {p2 : Int32} {kc : ClassId} {c0 c1 c2 c3 : Int32} (h : ¬ own_F2_A0 a1 p2 kc c0 c1 c2 c3 = (0 : Int32)) : own_F3 c0 = (0 : Int32) ∧ (¬ own_F4 c0 = (0 : Int32) → ¬ own_F5 c1 = (0 : Int32)) ∧ (own_F4 c0 = (0 : Int32) → ¬ own_F5 c0 = (0 : Int32) → False) := by
  unfold own_F2_A0 at h
  by_cases a1 : own_F3 c0 = (0 : Int32)
  · by_cases a2 : own_F4 c0 = (0 : Int32)
    · refine ⟨a1, fun q => absurd a2 q, fun _ q => ?_⟩
      by_cases a4 : True
      · simp [a1, a2, q, a4] at h
      · simp at a4
    · refine ⟨a1, fun q => ?_, fun q => absurd q a2⟩
      by_cases a4 : own_F5 c1 = (0 : Int32)
      · simp [a1, a2, a4] at h
      · exact a4
  · simp [a1] at h
def own_F2_B0 (a1 : Addr) (p2 : Int32) (kc : ClassId) (c0 : Int32) (c1 : Int32) (c2 : Int32) (c3 : Int32) : Int32 := if (own_F3 c0) = (0 : Int32) then if (own_F4 c0) = (0 : Int32) then if (own_F5 c0) = (0 : Int32) then (1 : Int32) else (0 : Int32) else (0 : Int32) else (0 : Int32)
def Q2_B0 (Z : State) (a1 : Addr) (p2 : Int32) (kc : ClassId) (c0 : Int32) (c1 : Int32) (c2 : Int32) (c3 : Int32) (h0 : Heap) (n0 : Nat) (v : Option Value) (h : Heap) (L : List Loc) : Prop := v = some (.int (own_F2_B0 a1 p2 kc c0 c1 c2 c3)) ∧ Fr n0 L ∧ h = h0
theorem rm2_B0 (l : Launch) (Z : State) (a0 : Array Value) (hw : own_H a0 Z) (ws : List Jvm.Cond) (a1 : Addr) (p2 : Int32) (kc : ClassId) (c0 : Int32) (c1 : Int32) (c2 : Int32) (c3 : Int32) (h0 : Heap) (n0 : Nat) (Z0 : n0 ≤ h0.size) (V1 : Arv Z h0 a1 kc .char (4 : Int32) [(.int c0), (.int c1), (.int c2), (.int c3)] (.int (0 : Int32))) (g1 : (0 : Int32) < p2) (g2 : ¬ (1 : Int32) < p2) :
    own_M l Z (⟨"com/example/lexiflow/lexiflow/model/IdsCheckPinLaw", "ok", "([CII)Z"⟩ : MethodName) method_7_code 4 (some .boolean) ws ({ frames := 1, cells := 0, slots := 0, locals := 12 } : Room) #[(.ref a1), (.int p2), (.int 0)] h0 (Q2_B0 Z a1 p2 kc c0 c1 c2 c3 h0 n0) := by
  refine own_bd (n0 := n0) (plainFor_of_name pn_2) fun p e s m below meth c s₁ Bd hZ hx hby hml hown X0 e0 N0 => ?_
  have pre0 := own_p0 (tb := p.tables) (e := e) (below := below) (s := s₁) (ef_2_A0 m a1 p2)
  obtain ⟨cl146, Ar146, -, Sz146, Nz146, Hs146, -⟩ := id V1
  have in146 : ¬ ((0 : Int32) < 0 ∨ cl146.slots.size ≤ ((0 : Int32)).toNatClampNeg) := inb_of Sz146 ⟨by decide, by decide⟩
  have at146 : cl146.slots[((0 : Int32)).toNatClampNeg]? = some (.int c0) := Has.at Hs146 in146 rfl
  obtain ⟨T147, L147, X147, e147, N147, st147⟩ := own_pS X0 hx hZ hml hown N0 (ow hw 9 rfl) (ow hw 10 rfl) (ow hw 2 rfl) (ow hw 11 rfl) e0 (rm3 l Z a0 hw [] c0 h0 n0 Z0) (W := 0) (g := (mkF m 12 #[rv a1, iv p2, iv 0, iv c0] [(.int c0)])) (argsL := [(.int c0)]) (rest := []) (lenOf pd_0 rfl) (hb hby d2_12)
  have pre148 := own_go pre0 (T147.setTop (mkF m 15 #[rv a1, iv p2, iv 0, iv c0] [(.int (own_F3 c0))])) fun t kt => by
    refine XS.iloadN X0.here hx rfl (hb hby d2_0) rfl ?_
    refine XS.iloadN X0.here hx rfl (hb hby d2_1) rfl ?_
    refine XS.icmpYes X0.here hx rfl (pc0 := 2) (pc' := 7) rfl (hb hby d2_2) rfl (tlt (g1 : (0 : Int32) < p2)).1 (by decide) (by decide) ?_
    refine XS.aloadN X0.here hx rfl (hb hby d2_7) rfl rfl ?_
    refine XS.iloadN X0.here hx rfl (hb hby d2_8) rfl ?_
    refine X0.caload hx (j := (0 : Int32)) (v := (.int c0)) (by rw [e0]; exact Ar146.1) (State.isArrayOf_alike hZ.alike Ar146.2.1) Ar146.2.2 in146 at146 (g := (mkF m 9 #[rv a1, iv p2, iv 0, .unset] [(.int 0), (.ref a1)])) rfl rfl (hb hby d2_9) _ ?_
    refine XS.istoreN X0.here hx rfl (hb hby d2_10) rfl (l' := #[rv a1, iv p2, iv 0, iv c0]) rfl ?_
    refine XS.iloadN X0.here hx rfl (hb hby d2_11) rfl ?_
    refine st147 _ ?_
    exact kt
  by_cases hc15_149 : (own_F3 c0) = (0 : Int32)
  · obtain ⟨T150, L150, X150, e150, N150, st150⟩ := own_pS X147 hx hZ hml hown N147 (ow hw 12 rfl) (ow hw 13 rfl) (ow hw 2 rfl) (ow hw 14 rfl) e147 (rm4 l Z a0 hw [] c0 h0 n0 Z0) (W := 0) (g := (mkF m 21 #[rv a1, iv p2, iv 0, iv c0] [(.int c0)])) (argsL := [(.int c0)]) (rest := []) (lenOf pd_0 rfl) (hb hby d2_21)
    have pre151 := own_go pre148 (T150.setTop (mkF m 24 #[rv a1, iv p2, iv 0, iv c0] [(.int (own_F4 c0))])) fun t kt => by
      refine XS.ifYes X147.here hx rfl (pc0 := 15) (pc' := 20) rfl (hb hby d2_15) rfl ((if0 _ _).trans (teq hc15_149).1) (by decide) (by decide) ?_
      refine XS.iloadN X147.here hx rfl (hb hby d2_20) rfl ?_
      refine st150 _ ?_
      exact kt
    by_cases hc24_152 : (own_F4 c0) = (0 : Int32)
    · obtain ⟨T153, L153, X153, e153, N153, st153⟩ := own_pS X150 hx hZ hml hown N150 (ow hw 16 rfl) (ow hw 17 rfl) (ow hw 2 rfl) (ow hw 18 rfl) e150 (rm5 l Z a0 hw [] c0 h0 n0 Z0) (W := 0) (g := (mkF m 52 #[rv a1, iv p2, iv 0, iv c0] [(.int c0)])) (argsL := [(.int c0)]) (rest := []) (lenOf pd_0 rfl) (hb hby d2_52)
      have pre154 := own_go pre151 (T153.setTop (mkF m 55 #[rv a1, iv p2, iv 0, iv c0] [(.int (own_F5 c0))])) fun t kt => by
        refine XS.ifYes X150.here hx rfl (pc0 := 24) (pc' := 51) rfl (hb hby d2_24) rfl ((if0 _ _).trans (teq hc24_152).1) (by decide) (by decide) ?_
        refine XS.iloadN X150.here hx rfl (hb hby d2_51) rfl ?_
        refine st153 _ ?_
        exact kt
      by_cases hc55_155 : (own_F5 c0) = (0 : Int32)
      · have pre156 := own_go pre154 (T153.setTop (mkF m 80 #[rv a1, iv p2, iv 0, iv c0] [(.int 1)])) fun t kt => by
          refine XS.ifYes X153.here hx rfl (pc0 := 55) (pc' := 79) rfl (hb hby d2_55) rfl ((if0 _ _).trans (teq hc55_155).1) (by decide) (by decide) ?_
          refine XS.iconst X153.here hx rfl (hb hby d2_79) ?_
          exact kt
        refine own_lv X153 Bd.notSynchronized (v := some (.int 1)) (own_nv Bd.returns) pre156 (fun fs hr => retN X153 hx (t := .boolean) Bd.returns (by simp) (hb hby d2_80) hr) ?_
        show Q2_B0 Z a1 p2 kc c0 c1 c2 c3 h0 n0 _ T153.heap _
        rw [e153]
        exact ⟨(by rw [own_F2_B0, if_pos hc15_149, if_pos hc24_152, if_pos hc55_155]), N153, rfl⟩
      · have pre157 := own_go pre154 (T153.setTop (mkF m 78 #[rv a1, iv p2, iv 0, iv c0] [(.int 0)])) fun t kt => by
          refine XS.ifNo X153.here hx rfl (hb hby d2_55) rfl ((if0 _ _).trans (feq hc55_155).1) ?_
          refine XS.iloadN X153.here hx rfl (hb hby d2_58) rfl ?_
          refine XS.ifYes X153.here hx rfl (pc0 := 59) (pc' := 77) rfl (hb hby d2_59) rfl ((if0 _ _).trans (flt (by decide : ¬ ((0 : Int32) < (0 : Int32)))).2.2.2) (by decide) (by decide) ?_
          refine XS.iconst X153.here hx rfl (hb hby d2_77) ?_
          exact kt
        refine own_lv X153 Bd.notSynchronized (v := some (.int 0)) (own_nv Bd.returns) pre157 (fun fs hr => retN X153 hx (t := .boolean) Bd.returns (by simp) (hb hby d2_78) hr) ?_
        show Q2_B0 Z a1 p2 kc c0 c1 c2 c3 h0 n0 _ T153.heap _
        rw [e153]
        exact ⟨(by rw [own_F2_B0, if_pos hc15_149, if_pos hc24_152, if_neg hc55_155]), N153, rfl⟩
    · have pre158 := own_go pre151 (T150.setTop (mkF m 50 #[rv a1, iv p2, iv 0, iv c0] [(.int 0)])) fun t kt => by
        refine XS.ifNo X150.here hx rfl (hb hby d2_24) rfl ((if0 _ _).trans (feq hc24_152).1) ?_
        refine XS.iloadN X150.here hx rfl (hb hby d2_27) rfl ?_
        refine XS.iconst X150.here hx rfl (hb hby d2_28) ?_
        refine XS.iadd X150.here hx rfl (hb hby d2_29) rfl ?_
        refine XS.iloadN X150.here hx rfl (hb hby d2_30) rfl ?_
        refine XS.icmpYes X150.here hx rfl (pc0 := 31) (pc' := 49) rfl (hb hby d2_31) rfl (flt (g2 : ¬ ((1 : Int32) < p2))).2.1 (by decide) (by decide) ?_
        refine XS.iconst X150.here hx rfl (hb hby d2_49) ?_
        exact kt
      refine own_lv X150 Bd.notSynchronized (v := some (.int 0)) (own_nv Bd.returns) pre158 (fun fs hr => retN X150 hx (t := .boolean) Bd.returns (by simp) (hb hby d2_50) hr) ?_
      show Q2_B0 Z a1 p2 kc c0 c1 c2 c3 h0 n0 _ T150.heap _
      rw [e150]
      exact ⟨(by rw [own_F2_B0, if_pos hc15_149, if_neg hc24_152]), N150, rfl⟩
  · have pre159 := own_go pre148 (T147.setTop (mkF m 19 #[rv a1, iv p2, iv 0, iv c0] [(.int 0)])) fun t kt => by
      refine XS.ifNo X147.here hx rfl (hb hby d2_15) rfl ((if0 _ _).trans (feq hc15_149).1) ?_
      refine XS.iconst X147.here hx rfl (hb hby d2_18) ?_
      exact kt
    refine own_lv X147 Bd.notSynchronized (v := some (.int 0)) (own_nv Bd.returns) pre159 (fun fs hr => retN X147 hx (t := .boolean) Bd.returns (by simp) (hb hby d2_19) hr) ?_
    show Q2_B0 Z a1 p2 kc c0 c1 c2 c3 h0 n0 _ T147.heap _
    rw [e147]
    exact ⟨(by rw [own_F2_B0, if_neg hc15_149]), N147, rfl⟩
theorem own_p_B0 {a1 : Addr} {p2 : Int32} {kc : ClassId} {c0 c1 c2 c3 : Int32} (h : ¬ own_F2_B0 a1 p2 kc c0 c1 c2 c3 = (0 : Int32)) : own_F3 c0 = (0 : Int32) ∧ (¬ own_F4 c0 = (0 : Int32) → False) ∧ (own_F4 c0 = (0 : Int32) → ¬ own_F5 c0 = (0 : Int32) → False) := by
  unfold own_F2_B0 at h
  by_cases a1 : own_F3 c0 = (0 : Int32)
  · by_cases a2 : own_F4 c0 = (0 : Int32)
    · refine ⟨a1, fun q => absurd a2 q, fun _ q => ?_⟩
      by_cases a4 : True
      · simp [a1, a2, q, a4] at h
      · simp at a4
    · refine ⟨a1, fun q => ?_, fun q => absurd q a2⟩
      by_cases a4 : True
      · simp [a1, a2, a4] at h
      · simp at a4
  · simp [a1] at h
theorem d2_62 : decode method_7_code 62 = .ok (.aload_n 0, 1) := by decide +kernel
theorem d2_63 : decode method_7_code 63 = .ok (.iload_n 2, 1) := by decide +kernel
theorem d2_64 : decode method_7_code 64 = .ok (.iconst 1, 1) := by decide +kernel
theorem d2_65 : decode method_7_code 65 = .ok (.isub, 1) := by decide +kernel
theorem d2_66 : decode method_7_code 66 = .ok (.caload, 1) := by decide +kernel
theorem d2_67 : decode method_7_code 67 = .ok (.invokestatic 44, 3) := by decide +kernel
theorem d2_70 : decode method_7_code 70 = .ok (.ifCond .eq 7, 3) := by decide +kernel
theorem d2_73 : decode method_7_code 73 = .ok (.iconst 1, 1) := by decide +kernel
theorem d2_74 : decode method_7_code 74 = .ok (.goto 4, 3) := by decide +kernel
theorem ef_2_A1 (m : MethodId) (x0 : Addr) (x1 : Int32) : entryFrame m #[(.ref x0), (.int x1), (.int 1)] 4 = mkF m 0 #[.val (.ref x0), .val (.int x1), .val (.int 1), .unset] [] := by first | (simp [entryFrame, mkF, argsToLocals, Value.category]; done) | rfl
def own_F2_A1 (a1 : Addr) (p2 : Int32) (kc : ClassId) (c0 : Int32) (c1 : Int32) (c2 : Int32) (c3 : Int32) : Int32 := if (own_F3 c1) = (0 : Int32) then if (own_F4 c1) = (0 : Int32) then if (own_F5 c1) = (0 : Int32) then (1 : Int32) else if (own_F4 c0) = (0 : Int32) then (0 : Int32) else (1 : Int32) else if (own_F5 c2) = (0 : Int32) then (0 : Int32) else (1 : Int32) else (0 : Int32)
def Q2_A1 (Z : State) (a1 : Addr) (p2 : Int32) (kc : ClassId) (c0 : Int32) (c1 : Int32) (c2 : Int32) (c3 : Int32) (h0 : Heap) (n0 : Nat) (v : Option Value) (h : Heap) (L : List Loc) : Prop := v = some (.int (own_F2_A1 a1 p2 kc c0 c1 c2 c3)) ∧ Fr n0 L ∧ h = h0
theorem rm2_A1 (l : Launch) (Z : State) (a0 : Array Value) (hw : own_H a0 Z) (ws : List Jvm.Cond) (a1 : Addr) (p2 : Int32) (kc : ClassId) (c0 : Int32) (c1 : Int32) (c2 : Int32) (c3 : Int32) (h0 : Heap) (n0 : Nat) (Z0 : n0 ≤ h0.size) (V1 : Arv Z h0 a1 kc .char (4 : Int32) [(.int c0), (.int c1), (.int c2), (.int c3)] (.int (0 : Int32))) (g1 : (1 : Int32) < p2) (g2 : (2 : Int32) < p2) :
    own_M l Z (⟨"com/example/lexiflow/lexiflow/model/IdsCheckPinLaw", "ok", "([CII)Z"⟩ : MethodName) method_7_code 4 (some .boolean) ws ({ frames := 1, cells := 0, slots := 0, locals := 12 } : Room) #[(.ref a1), (.int p2), (.int 1)] h0 (Q2_A1 Z a1 p2 kc c0 c1 c2 c3 h0 n0) := by
  refine own_bd (n0 := n0) (plainFor_of_name pn_2) fun p e s m below meth c s₁ Bd hZ hx hby hml hown X0 e0 N0 => ?_
  have pre0 := own_p0 (tb := p.tables) (e := e) (below := below) (s := s₁) (ef_2_A1 m a1 p2)
  obtain ⟨cl160, Ar160, -, Sz160, Nz160, Hs160, -⟩ := id V1
  have in160 : ¬ ((1 : Int32) < 0 ∨ cl160.slots.size ≤ ((1 : Int32)).toNatClampNeg) := inb_of Sz160 ⟨by decide, by decide⟩
  have at160 : cl160.slots[((1 : Int32)).toNatClampNeg]? = some (.int c1) := Has.at Hs160 in160 rfl
  obtain ⟨T161, L161, X161, e161, N161, st161⟩ := own_pS X0 hx hZ hml hown N0 (ow hw 9 rfl) (ow hw 10 rfl) (ow hw 2 rfl) (ow hw 11 rfl) e0 (rm3 l Z a0 hw [] c1 h0 n0 Z0) (W := 0) (g := (mkF m 12 #[rv a1, iv p2, iv 1, iv c1] [(.int c1)])) (argsL := [(.int c1)]) (rest := []) (lenOf pd_0 rfl) (hb hby d2_12)
  have pre162 := own_go pre0 (T161.setTop (mkF m 15 #[rv a1, iv p2, iv 1, iv c1] [(.int (own_F3 c1))])) fun t kt => by
    refine XS.iloadN X0.here hx rfl (hb hby d2_0) rfl ?_
    refine XS.iloadN X0.here hx rfl (hb hby d2_1) rfl ?_
    refine XS.icmpYes X0.here hx rfl (pc0 := 2) (pc' := 7) rfl (hb hby d2_2) rfl (tlt (g1 : (1 : Int32) < p2)).1 (by decide) (by decide) ?_
    refine XS.aloadN X0.here hx rfl (hb hby d2_7) rfl rfl ?_
    refine XS.iloadN X0.here hx rfl (hb hby d2_8) rfl ?_
    refine X0.caload hx (j := (1 : Int32)) (v := (.int c1)) (by rw [e0]; exact Ar160.1) (State.isArrayOf_alike hZ.alike Ar160.2.1) Ar160.2.2 in160 at160 (g := (mkF m 9 #[rv a1, iv p2, iv 1, .unset] [(.int 1), (.ref a1)])) rfl rfl (hb hby d2_9) _ ?_
    refine XS.istoreN X0.here hx rfl (hb hby d2_10) rfl (l' := #[rv a1, iv p2, iv 1, iv c1]) rfl ?_
    refine XS.iloadN X0.here hx rfl (hb hby d2_11) rfl ?_
    refine st161 _ ?_
    exact kt
  by_cases hc15_163 : (own_F3 c1) = (0 : Int32)
  · obtain ⟨T164, L164, X164, e164, N164, st164⟩ := own_pS X161 hx hZ hml hown N161 (ow hw 12 rfl) (ow hw 13 rfl) (ow hw 2 rfl) (ow hw 14 rfl) e161 (rm4 l Z a0 hw [] c1 h0 n0 Z0) (W := 0) (g := (mkF m 21 #[rv a1, iv p2, iv 1, iv c1] [(.int c1)])) (argsL := [(.int c1)]) (rest := []) (lenOf pd_0 rfl) (hb hby d2_21)
    have pre165 := own_go pre162 (T164.setTop (mkF m 24 #[rv a1, iv p2, iv 1, iv c1] [(.int (own_F4 c1))])) fun t kt => by
      refine XS.ifYes X161.here hx rfl (pc0 := 15) (pc' := 20) rfl (hb hby d2_15) rfl ((if0 _ _).trans (teq hc15_163).1) (by decide) (by decide) ?_
      refine XS.iloadN X161.here hx rfl (hb hby d2_20) rfl ?_
      refine st164 _ ?_
      exact kt
    by_cases hc24_166 : (own_F4 c1) = (0 : Int32)
    · obtain ⟨T167, L167, X167, e167, N167, st167⟩ := own_pS X164 hx hZ hml hown N164 (ow hw 16 rfl) (ow hw 17 rfl) (ow hw 2 rfl) (ow hw 18 rfl) e164 (rm5 l Z a0 hw [] c1 h0 n0 Z0) (W := 0) (g := (mkF m 52 #[rv a1, iv p2, iv 1, iv c1] [(.int c1)])) (argsL := [(.int c1)]) (rest := []) (lenOf pd_0 rfl) (hb hby d2_52)
      have pre168 := own_go pre165 (T167.setTop (mkF m 55 #[rv a1, iv p2, iv 1, iv c1] [(.int (own_F5 c1))])) fun t kt => by
        refine XS.ifYes X164.here hx rfl (pc0 := 24) (pc' := 51) rfl (hb hby d2_24) rfl ((if0 _ _).trans (teq hc24_166).1) (by decide) (by decide) ?_
        refine XS.iloadN X164.here hx rfl (hb hby d2_51) rfl ?_
        refine st167 _ ?_
        exact kt
      by_cases hc55_169 : (own_F5 c1) = (0 : Int32)
      · have pre170 := own_go pre168 (T167.setTop (mkF m 80 #[rv a1, iv p2, iv 1, iv c1] [(.int 1)])) fun t kt => by
          refine XS.ifYes X167.here hx rfl (pc0 := 55) (pc' := 79) rfl (hb hby d2_55) rfl ((if0 _ _).trans (teq hc55_169).1) (by decide) (by decide) ?_
          refine XS.iconst X167.here hx rfl (hb hby d2_79) ?_
          exact kt
        refine own_lv X167 Bd.notSynchronized (v := some (.int 1)) (own_nv Bd.returns) pre170 (fun fs hr => retN X167 hx (t := .boolean) Bd.returns (by simp) (hb hby d2_80) hr) ?_
        show Q2_A1 Z a1 p2 kc c0 c1 c2 c3 h0 n0 _ T167.heap _
        rw [e167]
        exact ⟨(by rw [own_F2_A1, if_pos hc15_163, if_pos hc24_166, if_pos hc55_169]), N167, rfl⟩
      · obtain ⟨cl171, Ar171, -, Sz171, Nz171, Hs171, -⟩ := id V1
        have in171 : ¬ ((0 : Int32) < 0 ∨ cl171.slots.size ≤ ((0 : Int32)).toNatClampNeg) := inb_of Sz171 ⟨by decide, by decide⟩
        have at171 : cl171.slots[((0 : Int32)).toNatClampNeg]? = some (.int c0) := Has.at Hs171 in171 rfl
        obtain ⟨T172, L172, X172, e172, N172, st172⟩ := own_pS X167 hx hZ hml hown N167 (ow hw 12 rfl) (ow hw 13 rfl) (ow hw 2 rfl) (ow hw 14 rfl) e167 (rm4 l Z a0 hw [] c0 h0 n0 Z0) (W := 0) (g := (mkF m 67 #[rv a1, iv p2, iv 1, iv c1] [(.int c0)])) (argsL := [(.int c0)]) (rest := []) (lenOf pd_0 rfl) (hb hby d2_67)
        have pre173 := own_go pre168 (T172.setTop (mkF m 70 #[rv a1, iv p2, iv 1, iv c1] [(.int (own_F4 c0))])) fun t kt => by
          refine XS.ifNo X167.here hx rfl (hb hby d2_55) rfl ((if0 _ _).trans (feq hc55_169).1) ?_
          refine XS.iloadN X167.here hx rfl (hb hby d2_58) rfl ?_
          refine XS.ifNo X167.here hx rfl (hb hby d2_59) rfl ((if0 _ _).trans (tlt (by decide : (0 : Int32) < (1 : Int32))).2.2.2) ?_
          refine XS.aloadN X167.here hx rfl (hb hby d2_62) rfl rfl ?_
          refine XS.iloadN X167.here hx rfl (hb hby d2_63) rfl ?_
          refine XS.iconst X167.here hx rfl (hb hby d2_64) ?_
          refine XS.isub X167.here hx rfl (hb hby d2_65) rfl ?_
          refine X167.caload hx (j := (0 : Int32)) (v := (.int c0)) (by rw [e167]; exact Ar171.1) (State.isArrayOf_alike hZ.alike Ar171.2.1) Ar171.2.2 in171 at171 (g := (mkF m 66 #[rv a1, iv p2, iv 1, iv c1] [(.int 0), (.ref a1)])) rfl rfl (hb hby d2_66) _ ?_
          refine st172 _ ?_
          exact kt
        by_cases hc70_174 : (own_F4 c0) = (0 : Int32)
        · have pre175 := own_go pre173 (T172.setTop (mkF m 78 #[rv a1, iv p2, iv 1, iv c1] [(.int 0)])) fun t kt => by
            refine XS.ifYes X172.here hx rfl (pc0 := 70) (pc' := 77) rfl (hb hby d2_70) rfl ((if0 _ _).trans (teq hc70_174).1) (by decide) (by decide) ?_
            refine XS.iconst X172.here hx rfl (hb hby d2_77) ?_
            exact kt
          refine own_lv X172 Bd.notSynchronized (v := some (.int 0)) (own_nv Bd.returns) pre175 (fun fs hr => retN X172 hx (t := .boolean) Bd.returns (by simp) (hb hby d2_78) hr) ?_
          show Q2_A1 Z a1 p2 kc c0 c1 c2 c3 h0 n0 _ T172.heap _
          rw [e172]
          exact ⟨(by rw [own_F2_A1, if_pos hc15_163, if_pos hc24_166, if_neg hc55_169, if_pos hc70_174]), N172, rfl⟩
        · have pre176 := own_go pre173 (T172.setTop (mkF m 78 #[rv a1, iv p2, iv 1, iv c1] [(.int 1)])) fun t kt => by
            refine XS.ifNo X172.here hx rfl (hb hby d2_70) rfl ((if0 _ _).trans (feq hc70_174).1) ?_
            refine XS.iconst X172.here hx rfl (hb hby d2_73) ?_
            refine XS.goto X172.here hx rfl (pc0 := 74) (pc' := 78) rfl (hb hby d2_74) (by decide) (by decide) ?_
            exact kt
          refine own_lv X172 Bd.notSynchronized (v := some (.int 1)) (own_nv Bd.returns) pre176 (fun fs hr => retN X172 hx (t := .boolean) Bd.returns (by simp) (hb hby d2_78) hr) ?_
          show Q2_A1 Z a1 p2 kc c0 c1 c2 c3 h0 n0 _ T172.heap _
          rw [e172]
          exact ⟨(by rw [own_F2_A1, if_pos hc15_163, if_pos hc24_166, if_neg hc55_169, if_neg hc70_174]), N172, rfl⟩
    · obtain ⟨cl177, Ar177, -, Sz177, Nz177, Hs177, -⟩ := id V1
      have in177 : ¬ ((2 : Int32) < 0 ∨ cl177.slots.size ≤ ((2 : Int32)).toNatClampNeg) := inb_of Sz177 ⟨by decide, by decide⟩
      have at177 : cl177.slots[((2 : Int32)).toNatClampNeg]? = some (.int c2) := Has.at Hs177 in177 rfl
      obtain ⟨T178, L178, X178, e178, N178, st178⟩ := own_pS X164 hx hZ hml hown N164 (ow hw 16 rfl) (ow hw 17 rfl) (ow hw 2 rfl) (ow hw 18 rfl) e164 (rm5 l Z a0 hw [] c2 h0 n0 Z0) (W := 0) (g := (mkF m 39 #[rv a1, iv p2, iv 1, iv c1] [(.int c2)])) (argsL := [(.int c2)]) (rest := []) (lenOf pd_0 rfl) (hb hby d2_39)
      have pre179 := own_go pre165 (T178.setTop (mkF m 42 #[rv a1, iv p2, iv 1, iv c1] [(.int (own_F5 c2))])) fun t kt => by
        refine XS.ifNo X164.here hx rfl (hb hby d2_24) rfl ((if0 _ _).trans (feq hc24_166).1) ?_
        refine XS.iloadN X164.here hx rfl (hb hby d2_27) rfl ?_
        refine XS.iconst X164.here hx rfl (hb hby d2_28) ?_
        refine XS.iadd X164.here hx rfl (hb hby d2_29) rfl ?_
        refine XS.iloadN X164.here hx rfl (hb hby d2_30) rfl ?_
        refine XS.icmpNo X164.here hx rfl (hb hby d2_31) rfl (tlt (g2 : (2 : Int32) < p2)).2.1 ?_
        refine XS.aloadN X164.here hx rfl (hb hby d2_34) rfl rfl ?_
        refine XS.iloadN X164.here hx rfl (hb hby d2_35) rfl ?_
        refine XS.iconst X164.here hx rfl (hb hby d2_36) ?_
        refine XS.iadd X164.here hx rfl (hb hby d2_37) rfl ?_
        refine X164.caload hx (j := (2 : Int32)) (v := (.int c2)) (by rw [e164]; exact Ar177.1) (State.isArrayOf_alike hZ.alike Ar177.2.1) Ar177.2.2 in177 at177 (g := (mkF m 38 #[rv a1, iv p2, iv 1, iv c1] [(.int 2), (.ref a1)])) rfl rfl (hb hby d2_38) _ ?_
        refine st178 _ ?_
        exact kt
      by_cases hc42_180 : (own_F5 c2) = (0 : Int32)
      · have pre181 := own_go pre179 (T178.setTop (mkF m 50 #[rv a1, iv p2, iv 1, iv c1] [(.int 0)])) fun t kt => by
          refine XS.ifYes X178.here hx rfl (pc0 := 42) (pc' := 49) rfl (hb hby d2_42) rfl ((if0 _ _).trans (teq hc42_180).1) (by decide) (by decide) ?_
          refine XS.iconst X178.here hx rfl (hb hby d2_49) ?_
          exact kt
        refine own_lv X178 Bd.notSynchronized (v := some (.int 0)) (own_nv Bd.returns) pre181 (fun fs hr => retN X178 hx (t := .boolean) Bd.returns (by simp) (hb hby d2_50) hr) ?_
        show Q2_A1 Z a1 p2 kc c0 c1 c2 c3 h0 n0 _ T178.heap _
        rw [e178]
        exact ⟨(by rw [own_F2_A1, if_pos hc15_163, if_neg hc24_166, if_pos hc42_180]), N178, rfl⟩
      · have pre182 := own_go pre179 (T178.setTop (mkF m 50 #[rv a1, iv p2, iv 1, iv c1] [(.int 1)])) fun t kt => by
          refine XS.ifNo X178.here hx rfl (hb hby d2_42) rfl ((if0 _ _).trans (feq hc42_180).1) ?_
          refine XS.iconst X178.here hx rfl (hb hby d2_45) ?_
          refine XS.goto X178.here hx rfl (pc0 := 46) (pc' := 50) rfl (hb hby d2_46) (by decide) (by decide) ?_
          exact kt
        refine own_lv X178 Bd.notSynchronized (v := some (.int 1)) (own_nv Bd.returns) pre182 (fun fs hr => retN X178 hx (t := .boolean) Bd.returns (by simp) (hb hby d2_50) hr) ?_
        show Q2_A1 Z a1 p2 kc c0 c1 c2 c3 h0 n0 _ T178.heap _
        rw [e178]
        exact ⟨(by rw [own_F2_A1, if_pos hc15_163, if_neg hc24_166, if_neg hc42_180]), N178, rfl⟩
  · have pre183 := own_go pre162 (T161.setTop (mkF m 19 #[rv a1, iv p2, iv 1, iv c1] [(.int 0)])) fun t kt => by
      refine XS.ifNo X161.here hx rfl (hb hby d2_15) rfl ((if0 _ _).trans (feq hc15_163).1) ?_
      refine XS.iconst X161.here hx rfl (hb hby d2_18) ?_
      exact kt
    refine own_lv X161 Bd.notSynchronized (v := some (.int 0)) (own_nv Bd.returns) pre183 (fun fs hr => retN X161 hx (t := .boolean) Bd.returns (by simp) (hb hby d2_19) hr) ?_
    show Q2_A1 Z a1 p2 kc c0 c1 c2 c3 h0 n0 _ T161.heap _
    rw [e161]
    exact ⟨(by rw [own_F2_A1, if_neg hc15_163]), N161, rfl⟩
theorem own_p_A1 {a1 : Addr} {p2 : Int32} {kc : ClassId} {c0 c1 c2 c3 : Int32} (h : ¬ own_F2_A1 a1 p2 kc c0 c1 c2 c3 = (0 : Int32)) : own_F3 c1 = (0 : Int32) ∧ (¬ own_F4 c1 = (0 : Int32) → ¬ own_F5 c2 = (0 : Int32)) ∧ (own_F4 c1 = (0 : Int32) → ¬ own_F5 c1 = (0 : Int32) → ¬ own_F4 c0 = (0 : Int32)) := by
  unfold own_F2_A1 at h
  by_cases a1 : own_F3 c1 = (0 : Int32)
  · by_cases a2 : own_F4 c1 = (0 : Int32)
    · refine ⟨a1, fun q => absurd a2 q, fun _ q => ?_⟩
      by_cases a4 : own_F4 c0 = (0 : Int32)
      · simp [a1, a2, q, a4] at h
      · exact a4
    · refine ⟨a1, fun q => ?_, fun q => absurd q a2⟩
      by_cases a4 : own_F5 c2 = (0 : Int32)
      · simp [a1, a2, a4] at h
      · exact a4
  · simp [a1] at h
def own_F2_B1 (a1 : Addr) (p2 : Int32) (kc : ClassId) (c0 : Int32) (c1 : Int32) (c2 : Int32) (c3 : Int32) : Int32 := if (own_F3 c1) = (0 : Int32) then if (own_F4 c1) = (0 : Int32) then if (own_F5 c1) = (0 : Int32) then (1 : Int32) else if (own_F4 c0) = (0 : Int32) then (0 : Int32) else (1 : Int32) else (0 : Int32) else (0 : Int32)
def Q2_B1 (Z : State) (a1 : Addr) (p2 : Int32) (kc : ClassId) (c0 : Int32) (c1 : Int32) (c2 : Int32) (c3 : Int32) (h0 : Heap) (n0 : Nat) (v : Option Value) (h : Heap) (L : List Loc) : Prop := v = some (.int (own_F2_B1 a1 p2 kc c0 c1 c2 c3)) ∧ Fr n0 L ∧ h = h0
theorem rm2_B1 (l : Launch) (Z : State) (a0 : Array Value) (hw : own_H a0 Z) (ws : List Jvm.Cond) (a1 : Addr) (p2 : Int32) (kc : ClassId) (c0 : Int32) (c1 : Int32) (c2 : Int32) (c3 : Int32) (h0 : Heap) (n0 : Nat) (Z0 : n0 ≤ h0.size) (V1 : Arv Z h0 a1 kc .char (4 : Int32) [(.int c0), (.int c1), (.int c2), (.int c3)] (.int (0 : Int32))) (g1 : (1 : Int32) < p2) (g2 : ¬ (2 : Int32) < p2) :
    own_M l Z (⟨"com/example/lexiflow/lexiflow/model/IdsCheckPinLaw", "ok", "([CII)Z"⟩ : MethodName) method_7_code 4 (some .boolean) ws ({ frames := 1, cells := 0, slots := 0, locals := 12 } : Room) #[(.ref a1), (.int p2), (.int 1)] h0 (Q2_B1 Z a1 p2 kc c0 c1 c2 c3 h0 n0) := by
  refine own_bd (n0 := n0) (plainFor_of_name pn_2) fun p e s m below meth c s₁ Bd hZ hx hby hml hown X0 e0 N0 => ?_
  have pre0 := own_p0 (tb := p.tables) (e := e) (below := below) (s := s₁) (ef_2_A1 m a1 p2)
  obtain ⟨cl184, Ar184, -, Sz184, Nz184, Hs184, -⟩ := id V1
  have in184 : ¬ ((1 : Int32) < 0 ∨ cl184.slots.size ≤ ((1 : Int32)).toNatClampNeg) := inb_of Sz184 ⟨by decide, by decide⟩
  have at184 : cl184.slots[((1 : Int32)).toNatClampNeg]? = some (.int c1) := Has.at Hs184 in184 rfl
  obtain ⟨T185, L185, X185, e185, N185, st185⟩ := own_pS X0 hx hZ hml hown N0 (ow hw 9 rfl) (ow hw 10 rfl) (ow hw 2 rfl) (ow hw 11 rfl) e0 (rm3 l Z a0 hw [] c1 h0 n0 Z0) (W := 0) (g := (mkF m 12 #[rv a1, iv p2, iv 1, iv c1] [(.int c1)])) (argsL := [(.int c1)]) (rest := []) (lenOf pd_0 rfl) (hb hby d2_12)
  have pre186 := own_go pre0 (T185.setTop (mkF m 15 #[rv a1, iv p2, iv 1, iv c1] [(.int (own_F3 c1))])) fun t kt => by
    refine XS.iloadN X0.here hx rfl (hb hby d2_0) rfl ?_
    refine XS.iloadN X0.here hx rfl (hb hby d2_1) rfl ?_
    refine XS.icmpYes X0.here hx rfl (pc0 := 2) (pc' := 7) rfl (hb hby d2_2) rfl (tlt (g1 : (1 : Int32) < p2)).1 (by decide) (by decide) ?_
    refine XS.aloadN X0.here hx rfl (hb hby d2_7) rfl rfl ?_
    refine XS.iloadN X0.here hx rfl (hb hby d2_8) rfl ?_
    refine X0.caload hx (j := (1 : Int32)) (v := (.int c1)) (by rw [e0]; exact Ar184.1) (State.isArrayOf_alike hZ.alike Ar184.2.1) Ar184.2.2 in184 at184 (g := (mkF m 9 #[rv a1, iv p2, iv 1, .unset] [(.int 1), (.ref a1)])) rfl rfl (hb hby d2_9) _ ?_
    refine XS.istoreN X0.here hx rfl (hb hby d2_10) rfl (l' := #[rv a1, iv p2, iv 1, iv c1]) rfl ?_
    refine XS.iloadN X0.here hx rfl (hb hby d2_11) rfl ?_
    refine st185 _ ?_
    exact kt
  by_cases hc15_187 : (own_F3 c1) = (0 : Int32)
  · obtain ⟨T188, L188, X188, e188, N188, st188⟩ := own_pS X185 hx hZ hml hown N185 (ow hw 12 rfl) (ow hw 13 rfl) (ow hw 2 rfl) (ow hw 14 rfl) e185 (rm4 l Z a0 hw [] c1 h0 n0 Z0) (W := 0) (g := (mkF m 21 #[rv a1, iv p2, iv 1, iv c1] [(.int c1)])) (argsL := [(.int c1)]) (rest := []) (lenOf pd_0 rfl) (hb hby d2_21)
    have pre189 := own_go pre186 (T188.setTop (mkF m 24 #[rv a1, iv p2, iv 1, iv c1] [(.int (own_F4 c1))])) fun t kt => by
      refine XS.ifYes X185.here hx rfl (pc0 := 15) (pc' := 20) rfl (hb hby d2_15) rfl ((if0 _ _).trans (teq hc15_187).1) (by decide) (by decide) ?_
      refine XS.iloadN X185.here hx rfl (hb hby d2_20) rfl ?_
      refine st188 _ ?_
      exact kt
    by_cases hc24_190 : (own_F4 c1) = (0 : Int32)
    · obtain ⟨T191, L191, X191, e191, N191, st191⟩ := own_pS X188 hx hZ hml hown N188 (ow hw 16 rfl) (ow hw 17 rfl) (ow hw 2 rfl) (ow hw 18 rfl) e188 (rm5 l Z a0 hw [] c1 h0 n0 Z0) (W := 0) (g := (mkF m 52 #[rv a1, iv p2, iv 1, iv c1] [(.int c1)])) (argsL := [(.int c1)]) (rest := []) (lenOf pd_0 rfl) (hb hby d2_52)
      have pre192 := own_go pre189 (T191.setTop (mkF m 55 #[rv a1, iv p2, iv 1, iv c1] [(.int (own_F5 c1))])) fun t kt => by
        refine XS.ifYes X188.here hx rfl (pc0 := 24) (pc' := 51) rfl (hb hby d2_24) rfl ((if0 _ _).trans (teq hc24_190).1) (by decide) (by decide) ?_
        refine XS.iloadN X188.here hx rfl (hb hby d2_51) rfl ?_
        refine st191 _ ?_
        exact kt
      by_cases hc55_193 : (own_F5 c1) = (0 : Int32)
      · have pre194 := own_go pre192 (T191.setTop (mkF m 80 #[rv a1, iv p2, iv 1, iv c1] [(.int 1)])) fun t kt => by
          refine XS.ifYes X191.here hx rfl (pc0 := 55) (pc' := 79) rfl (hb hby d2_55) rfl ((if0 _ _).trans (teq hc55_193).1) (by decide) (by decide) ?_
          refine XS.iconst X191.here hx rfl (hb hby d2_79) ?_
          exact kt
        refine own_lv X191 Bd.notSynchronized (v := some (.int 1)) (own_nv Bd.returns) pre194 (fun fs hr => retN X191 hx (t := .boolean) Bd.returns (by simp) (hb hby d2_80) hr) ?_
        show Q2_B1 Z a1 p2 kc c0 c1 c2 c3 h0 n0 _ T191.heap _
        rw [e191]
        exact ⟨(by rw [own_F2_B1, if_pos hc15_187, if_pos hc24_190, if_pos hc55_193]), N191, rfl⟩
      · obtain ⟨cl195, Ar195, -, Sz195, Nz195, Hs195, -⟩ := id V1
        have in195 : ¬ ((0 : Int32) < 0 ∨ cl195.slots.size ≤ ((0 : Int32)).toNatClampNeg) := inb_of Sz195 ⟨by decide, by decide⟩
        have at195 : cl195.slots[((0 : Int32)).toNatClampNeg]? = some (.int c0) := Has.at Hs195 in195 rfl
        obtain ⟨T196, L196, X196, e196, N196, st196⟩ := own_pS X191 hx hZ hml hown N191 (ow hw 12 rfl) (ow hw 13 rfl) (ow hw 2 rfl) (ow hw 14 rfl) e191 (rm4 l Z a0 hw [] c0 h0 n0 Z0) (W := 0) (g := (mkF m 67 #[rv a1, iv p2, iv 1, iv c1] [(.int c0)])) (argsL := [(.int c0)]) (rest := []) (lenOf pd_0 rfl) (hb hby d2_67)
        have pre197 := own_go pre192 (T196.setTop (mkF m 70 #[rv a1, iv p2, iv 1, iv c1] [(.int (own_F4 c0))])) fun t kt => by
          refine XS.ifNo X191.here hx rfl (hb hby d2_55) rfl ((if0 _ _).trans (feq hc55_193).1) ?_
          refine XS.iloadN X191.here hx rfl (hb hby d2_58) rfl ?_
          refine XS.ifNo X191.here hx rfl (hb hby d2_59) rfl ((if0 _ _).trans (tlt (by decide : (0 : Int32) < (1 : Int32))).2.2.2) ?_
          refine XS.aloadN X191.here hx rfl (hb hby d2_62) rfl rfl ?_
          refine XS.iloadN X191.here hx rfl (hb hby d2_63) rfl ?_
          refine XS.iconst X191.here hx rfl (hb hby d2_64) ?_
          refine XS.isub X191.here hx rfl (hb hby d2_65) rfl ?_
          refine X191.caload hx (j := (0 : Int32)) (v := (.int c0)) (by rw [e191]; exact Ar195.1) (State.isArrayOf_alike hZ.alike Ar195.2.1) Ar195.2.2 in195 at195 (g := (mkF m 66 #[rv a1, iv p2, iv 1, iv c1] [(.int 0), (.ref a1)])) rfl rfl (hb hby d2_66) _ ?_
          refine st196 _ ?_
          exact kt
        by_cases hc70_198 : (own_F4 c0) = (0 : Int32)
        · have pre199 := own_go pre197 (T196.setTop (mkF m 78 #[rv a1, iv p2, iv 1, iv c1] [(.int 0)])) fun t kt => by
            refine XS.ifYes X196.here hx rfl (pc0 := 70) (pc' := 77) rfl (hb hby d2_70) rfl ((if0 _ _).trans (teq hc70_198).1) (by decide) (by decide) ?_
            refine XS.iconst X196.here hx rfl (hb hby d2_77) ?_
            exact kt
          refine own_lv X196 Bd.notSynchronized (v := some (.int 0)) (own_nv Bd.returns) pre199 (fun fs hr => retN X196 hx (t := .boolean) Bd.returns (by simp) (hb hby d2_78) hr) ?_
          show Q2_B1 Z a1 p2 kc c0 c1 c2 c3 h0 n0 _ T196.heap _
          rw [e196]
          exact ⟨(by rw [own_F2_B1, if_pos hc15_187, if_pos hc24_190, if_neg hc55_193, if_pos hc70_198]), N196, rfl⟩
        · have pre200 := own_go pre197 (T196.setTop (mkF m 78 #[rv a1, iv p2, iv 1, iv c1] [(.int 1)])) fun t kt => by
            refine XS.ifNo X196.here hx rfl (hb hby d2_70) rfl ((if0 _ _).trans (feq hc70_198).1) ?_
            refine XS.iconst X196.here hx rfl (hb hby d2_73) ?_
            refine XS.goto X196.here hx rfl (pc0 := 74) (pc' := 78) rfl (hb hby d2_74) (by decide) (by decide) ?_
            exact kt
          refine own_lv X196 Bd.notSynchronized (v := some (.int 1)) (own_nv Bd.returns) pre200 (fun fs hr => retN X196 hx (t := .boolean) Bd.returns (by simp) (hb hby d2_78) hr) ?_
          show Q2_B1 Z a1 p2 kc c0 c1 c2 c3 h0 n0 _ T196.heap _
          rw [e196]
          exact ⟨(by rw [own_F2_B1, if_pos hc15_187, if_pos hc24_190, if_neg hc55_193, if_neg hc70_198]), N196, rfl⟩
    · have pre201 := own_go pre189 (T188.setTop (mkF m 50 #[rv a1, iv p2, iv 1, iv c1] [(.int 0)])) fun t kt => by
        refine XS.ifNo X188.here hx rfl (hb hby d2_24) rfl ((if0 _ _).trans (feq hc24_190).1) ?_
        refine XS.iloadN X188.here hx rfl (hb hby d2_27) rfl ?_
        refine XS.iconst X188.here hx rfl (hb hby d2_28) ?_
        refine XS.iadd X188.here hx rfl (hb hby d2_29) rfl ?_
        refine XS.iloadN X188.here hx rfl (hb hby d2_30) rfl ?_
        refine XS.icmpYes X188.here hx rfl (pc0 := 31) (pc' := 49) rfl (hb hby d2_31) rfl (flt (g2 : ¬ ((2 : Int32) < p2))).2.1 (by decide) (by decide) ?_
        refine XS.iconst X188.here hx rfl (hb hby d2_49) ?_
        exact kt
      refine own_lv X188 Bd.notSynchronized (v := some (.int 0)) (own_nv Bd.returns) pre201 (fun fs hr => retN X188 hx (t := .boolean) Bd.returns (by simp) (hb hby d2_50) hr) ?_
      show Q2_B1 Z a1 p2 kc c0 c1 c2 c3 h0 n0 _ T188.heap _
      rw [e188]
      exact ⟨(by rw [own_F2_B1, if_pos hc15_187, if_neg hc24_190]), N188, rfl⟩
  · have pre202 := own_go pre186 (T185.setTop (mkF m 19 #[rv a1, iv p2, iv 1, iv c1] [(.int 0)])) fun t kt => by
      refine XS.ifNo X185.here hx rfl (hb hby d2_15) rfl ((if0 _ _).trans (feq hc15_187).1) ?_
      refine XS.iconst X185.here hx rfl (hb hby d2_18) ?_
      exact kt
    refine own_lv X185 Bd.notSynchronized (v := some (.int 0)) (own_nv Bd.returns) pre202 (fun fs hr => retN X185 hx (t := .boolean) Bd.returns (by simp) (hb hby d2_19) hr) ?_
    show Q2_B1 Z a1 p2 kc c0 c1 c2 c3 h0 n0 _ T185.heap _
    rw [e185]
    exact ⟨(by rw [own_F2_B1, if_neg hc15_187]), N185, rfl⟩
theorem own_p_B1 {a1 : Addr} {p2 : Int32} {kc : ClassId} {c0 c1 c2 c3 : Int32} (h : ¬ own_F2_B1 a1 p2 kc c0 c1 c2 c3 = (0 : Int32)) : own_F3 c1 = (0 : Int32) ∧ (¬ own_F4 c1 = (0 : Int32) → False) ∧ (own_F4 c1 = (0 : Int32) → ¬ own_F5 c1 = (0 : Int32) → ¬ own_F4 c0 = (0 : Int32)) := by
  unfold own_F2_B1 at h
  by_cases a1 : own_F3 c1 = (0 : Int32)
  · by_cases a2 : own_F4 c1 = (0 : Int32)
    · refine ⟨a1, fun q => absurd a2 q, fun _ q => ?_⟩
      by_cases a4 : own_F4 c0 = (0 : Int32)
      · simp [a1, a2, q, a4] at h
      · exact a4
    · refine ⟨a1, fun q => ?_, fun q => absurd q a2⟩
      by_cases a4 : True
      · simp [a1, a2, a4] at h
      · simp at a4
  · simp [a1] at h
theorem d2_5 : decode method_7_code 5 = .ok (.iconst 1, 1) := by decide +kernel
theorem d2_6 : decode method_7_code 6 = .ok (.ireturn, 1) := by decide +kernel
def Q2_C1 (Z : State) (a1 : Addr) (p2 : Int32) (kc : ClassId) (c0 : Int32) (c1 : Int32) (c2 : Int32) (c3 : Int32) (h0 : Heap) (n0 : Nat) (v : Option Value) (h : Heap) (L : List Loc) : Prop := v = some (.int 1) ∧ Fr n0 L ∧ h = h0
theorem rm2_C1 (l : Launch) (Z : State) (a0 : Array Value) (hw : own_H a0 Z) (ws : List Jvm.Cond) (a1 : Addr) (p2 : Int32) (kc : ClassId) (c0 : Int32) (c1 : Int32) (c2 : Int32) (c3 : Int32) (h0 : Heap) (n0 : Nat) (Z0 : n0 ≤ h0.size) (V1 : Arv Z h0 a1 kc .char (4 : Int32) [(.int c0), (.int c1), (.int c2), (.int c3)] (.int (0 : Int32))) (g1 : ¬ (1 : Int32) < p2) :
    own_M l Z (⟨"com/example/lexiflow/lexiflow/model/IdsCheckPinLaw", "ok", "([CII)Z"⟩ : MethodName) method_7_code 4 (some .boolean) ws ({ frames := 0, cells := 0, slots := 0, locals := 0 } : Room) #[(.ref a1), (.int p2), (.int 1)] h0 (Q2_C1 Z a1 p2 kc c0 c1 c2 c3 h0 n0) := by
  refine own_bd (n0 := n0) (plainFor_of_name pn_2) fun p e s m below meth c s₁ Bd hZ hx hby hml hown X0 e0 N0 => ?_
  have pre0 := own_p0 (tb := p.tables) (e := e) (below := below) (s := s₁) (ef_2_A1 m a1 p2)
  have pre203 := own_go pre0 (s₁.setTop (mkF m 6 #[rv a1, iv p2, iv 1, .unset] [(.int 1)])) fun t kt => by
    refine XS.iloadN X0.here hx rfl (hb hby d2_0) rfl ?_
    refine XS.iloadN X0.here hx rfl (hb hby d2_1) rfl ?_
    refine XS.icmpNo X0.here hx rfl (hb hby d2_2) rfl (flt (g1 : ¬ ((1 : Int32) < p2))).1 ?_
    refine XS.iconst X0.here hx rfl (hb hby d2_5) ?_
    exact kt
  refine own_lv X0 Bd.notSynchronized (v := some (.int 1)) (own_nv Bd.returns) pre203 (fun fs hr => retN X0 hx (t := .boolean) Bd.returns (by simp) (hb hby d2_6) hr) ?_
  show Q2_C1 Z a1 p2 kc c0 c1 c2 c3 h0 n0 _ s₁.heap _
  rw [e0]
  exact ⟨rfl, N0, rfl⟩
theorem ef_2_A2 (m : MethodId) (x0 : Addr) (x1 : Int32) : entryFrame m #[(.ref x0), (.int x1), (.int 2)] 4 = mkF m 0 #[.val (.ref x0), .val (.int x1), .val (.int 2), .unset] [] := by first | (simp [entryFrame, mkF, argsToLocals, Value.category]; done) | rfl
def own_F2_A2 (a1 : Addr) (p2 : Int32) (kc : ClassId) (c0 : Int32) (c1 : Int32) (c2 : Int32) (c3 : Int32) : Int32 := if (own_F3 c2) = (0 : Int32) then if (own_F4 c2) = (0 : Int32) then if (own_F5 c2) = (0 : Int32) then (1 : Int32) else if (own_F4 c1) = (0 : Int32) then (0 : Int32) else (1 : Int32) else if (own_F5 c3) = (0 : Int32) then (0 : Int32) else (1 : Int32) else (0 : Int32)
def Q2_A2 (Z : State) (a1 : Addr) (p2 : Int32) (kc : ClassId) (c0 : Int32) (c1 : Int32) (c2 : Int32) (c3 : Int32) (h0 : Heap) (n0 : Nat) (v : Option Value) (h : Heap) (L : List Loc) : Prop := v = some (.int (own_F2_A2 a1 p2 kc c0 c1 c2 c3)) ∧ Fr n0 L ∧ h = h0
theorem rm2_A2 (l : Launch) (Z : State) (a0 : Array Value) (hw : own_H a0 Z) (ws : List Jvm.Cond) (a1 : Addr) (p2 : Int32) (kc : ClassId) (c0 : Int32) (c1 : Int32) (c2 : Int32) (c3 : Int32) (h0 : Heap) (n0 : Nat) (Z0 : n0 ≤ h0.size) (V1 : Arv Z h0 a1 kc .char (4 : Int32) [(.int c0), (.int c1), (.int c2), (.int c3)] (.int (0 : Int32))) (g1 : (2 : Int32) < p2) (g2 : (3 : Int32) < p2) :
    own_M l Z (⟨"com/example/lexiflow/lexiflow/model/IdsCheckPinLaw", "ok", "([CII)Z"⟩ : MethodName) method_7_code 4 (some .boolean) ws ({ frames := 1, cells := 0, slots := 0, locals := 12 } : Room) #[(.ref a1), (.int p2), (.int 2)] h0 (Q2_A2 Z a1 p2 kc c0 c1 c2 c3 h0 n0) := by
  refine own_bd (n0 := n0) (plainFor_of_name pn_2) fun p e s m below meth c s₁ Bd hZ hx hby hml hown X0 e0 N0 => ?_
  have pre0 := own_p0 (tb := p.tables) (e := e) (below := below) (s := s₁) (ef_2_A2 m a1 p2)
  obtain ⟨cl204, Ar204, -, Sz204, Nz204, Hs204, -⟩ := id V1
  have in204 : ¬ ((2 : Int32) < 0 ∨ cl204.slots.size ≤ ((2 : Int32)).toNatClampNeg) := inb_of Sz204 ⟨by decide, by decide⟩
  have at204 : cl204.slots[((2 : Int32)).toNatClampNeg]? = some (.int c2) := Has.at Hs204 in204 rfl
  obtain ⟨T205, L205, X205, e205, N205, st205⟩ := own_pS X0 hx hZ hml hown N0 (ow hw 9 rfl) (ow hw 10 rfl) (ow hw 2 rfl) (ow hw 11 rfl) e0 (rm3 l Z a0 hw [] c2 h0 n0 Z0) (W := 0) (g := (mkF m 12 #[rv a1, iv p2, iv 2, iv c2] [(.int c2)])) (argsL := [(.int c2)]) (rest := []) (lenOf pd_0 rfl) (hb hby d2_12)
  have pre206 := own_go pre0 (T205.setTop (mkF m 15 #[rv a1, iv p2, iv 2, iv c2] [(.int (own_F3 c2))])) fun t kt => by
    refine XS.iloadN X0.here hx rfl (hb hby d2_0) rfl ?_
    refine XS.iloadN X0.here hx rfl (hb hby d2_1) rfl ?_
    refine XS.icmpYes X0.here hx rfl (pc0 := 2) (pc' := 7) rfl (hb hby d2_2) rfl (tlt (g1 : (2 : Int32) < p2)).1 (by decide) (by decide) ?_
    refine XS.aloadN X0.here hx rfl (hb hby d2_7) rfl rfl ?_
    refine XS.iloadN X0.here hx rfl (hb hby d2_8) rfl ?_
    refine X0.caload hx (j := (2 : Int32)) (v := (.int c2)) (by rw [e0]; exact Ar204.1) (State.isArrayOf_alike hZ.alike Ar204.2.1) Ar204.2.2 in204 at204 (g := (mkF m 9 #[rv a1, iv p2, iv 2, .unset] [(.int 2), (.ref a1)])) rfl rfl (hb hby d2_9) _ ?_
    refine XS.istoreN X0.here hx rfl (hb hby d2_10) rfl (l' := #[rv a1, iv p2, iv 2, iv c2]) rfl ?_
    refine XS.iloadN X0.here hx rfl (hb hby d2_11) rfl ?_
    refine st205 _ ?_
    exact kt
  by_cases hc15_207 : (own_F3 c2) = (0 : Int32)
  · obtain ⟨T208, L208, X208, e208, N208, st208⟩ := own_pS X205 hx hZ hml hown N205 (ow hw 12 rfl) (ow hw 13 rfl) (ow hw 2 rfl) (ow hw 14 rfl) e205 (rm4 l Z a0 hw [] c2 h0 n0 Z0) (W := 0) (g := (mkF m 21 #[rv a1, iv p2, iv 2, iv c2] [(.int c2)])) (argsL := [(.int c2)]) (rest := []) (lenOf pd_0 rfl) (hb hby d2_21)
    have pre209 := own_go pre206 (T208.setTop (mkF m 24 #[rv a1, iv p2, iv 2, iv c2] [(.int (own_F4 c2))])) fun t kt => by
      refine XS.ifYes X205.here hx rfl (pc0 := 15) (pc' := 20) rfl (hb hby d2_15) rfl ((if0 _ _).trans (teq hc15_207).1) (by decide) (by decide) ?_
      refine XS.iloadN X205.here hx rfl (hb hby d2_20) rfl ?_
      refine st208 _ ?_
      exact kt
    by_cases hc24_210 : (own_F4 c2) = (0 : Int32)
    · obtain ⟨T211, L211, X211, e211, N211, st211⟩ := own_pS X208 hx hZ hml hown N208 (ow hw 16 rfl) (ow hw 17 rfl) (ow hw 2 rfl) (ow hw 18 rfl) e208 (rm5 l Z a0 hw [] c2 h0 n0 Z0) (W := 0) (g := (mkF m 52 #[rv a1, iv p2, iv 2, iv c2] [(.int c2)])) (argsL := [(.int c2)]) (rest := []) (lenOf pd_0 rfl) (hb hby d2_52)
      have pre212 := own_go pre209 (T211.setTop (mkF m 55 #[rv a1, iv p2, iv 2, iv c2] [(.int (own_F5 c2))])) fun t kt => by
        refine XS.ifYes X208.here hx rfl (pc0 := 24) (pc' := 51) rfl (hb hby d2_24) rfl ((if0 _ _).trans (teq hc24_210).1) (by decide) (by decide) ?_
        refine XS.iloadN X208.here hx rfl (hb hby d2_51) rfl ?_
        refine st211 _ ?_
        exact kt
      by_cases hc55_213 : (own_F5 c2) = (0 : Int32)
      · have pre214 := own_go pre212 (T211.setTop (mkF m 80 #[rv a1, iv p2, iv 2, iv c2] [(.int 1)])) fun t kt => by
          refine XS.ifYes X211.here hx rfl (pc0 := 55) (pc' := 79) rfl (hb hby d2_55) rfl ((if0 _ _).trans (teq hc55_213).1) (by decide) (by decide) ?_
          refine XS.iconst X211.here hx rfl (hb hby d2_79) ?_
          exact kt
        refine own_lv X211 Bd.notSynchronized (v := some (.int 1)) (own_nv Bd.returns) pre214 (fun fs hr => retN X211 hx (t := .boolean) Bd.returns (by simp) (hb hby d2_80) hr) ?_
        show Q2_A2 Z a1 p2 kc c0 c1 c2 c3 h0 n0 _ T211.heap _
        rw [e211]
        exact ⟨(by rw [own_F2_A2, if_pos hc15_207, if_pos hc24_210, if_pos hc55_213]), N211, rfl⟩
      · obtain ⟨cl215, Ar215, -, Sz215, Nz215, Hs215, -⟩ := id V1
        have in215 : ¬ ((1 : Int32) < 0 ∨ cl215.slots.size ≤ ((1 : Int32)).toNatClampNeg) := inb_of Sz215 ⟨by decide, by decide⟩
        have at215 : cl215.slots[((1 : Int32)).toNatClampNeg]? = some (.int c1) := Has.at Hs215 in215 rfl
        obtain ⟨T216, L216, X216, e216, N216, st216⟩ := own_pS X211 hx hZ hml hown N211 (ow hw 12 rfl) (ow hw 13 rfl) (ow hw 2 rfl) (ow hw 14 rfl) e211 (rm4 l Z a0 hw [] c1 h0 n0 Z0) (W := 0) (g := (mkF m 67 #[rv a1, iv p2, iv 2, iv c2] [(.int c1)])) (argsL := [(.int c1)]) (rest := []) (lenOf pd_0 rfl) (hb hby d2_67)
        have pre217 := own_go pre212 (T216.setTop (mkF m 70 #[rv a1, iv p2, iv 2, iv c2] [(.int (own_F4 c1))])) fun t kt => by
          refine XS.ifNo X211.here hx rfl (hb hby d2_55) rfl ((if0 _ _).trans (feq hc55_213).1) ?_
          refine XS.iloadN X211.here hx rfl (hb hby d2_58) rfl ?_
          refine XS.ifNo X211.here hx rfl (hb hby d2_59) rfl ((if0 _ _).trans (tlt (by decide : (0 : Int32) < (2 : Int32))).2.2.2) ?_
          refine XS.aloadN X211.here hx rfl (hb hby d2_62) rfl rfl ?_
          refine XS.iloadN X211.here hx rfl (hb hby d2_63) rfl ?_
          refine XS.iconst X211.here hx rfl (hb hby d2_64) ?_
          refine XS.isub X211.here hx rfl (hb hby d2_65) rfl ?_
          refine X211.caload hx (j := (1 : Int32)) (v := (.int c1)) (by rw [e211]; exact Ar215.1) (State.isArrayOf_alike hZ.alike Ar215.2.1) Ar215.2.2 in215 at215 (g := (mkF m 66 #[rv a1, iv p2, iv 2, iv c2] [(.int 1), (.ref a1)])) rfl rfl (hb hby d2_66) _ ?_
          refine st216 _ ?_
          exact kt
        by_cases hc70_218 : (own_F4 c1) = (0 : Int32)
        · have pre219 := own_go pre217 (T216.setTop (mkF m 78 #[rv a1, iv p2, iv 2, iv c2] [(.int 0)])) fun t kt => by
            refine XS.ifYes X216.here hx rfl (pc0 := 70) (pc' := 77) rfl (hb hby d2_70) rfl ((if0 _ _).trans (teq hc70_218).1) (by decide) (by decide) ?_
            refine XS.iconst X216.here hx rfl (hb hby d2_77) ?_
            exact kt
          refine own_lv X216 Bd.notSynchronized (v := some (.int 0)) (own_nv Bd.returns) pre219 (fun fs hr => retN X216 hx (t := .boolean) Bd.returns (by simp) (hb hby d2_78) hr) ?_
          show Q2_A2 Z a1 p2 kc c0 c1 c2 c3 h0 n0 _ T216.heap _
          rw [e216]
          exact ⟨(by rw [own_F2_A2, if_pos hc15_207, if_pos hc24_210, if_neg hc55_213, if_pos hc70_218]), N216, rfl⟩
        · have pre220 := own_go pre217 (T216.setTop (mkF m 78 #[rv a1, iv p2, iv 2, iv c2] [(.int 1)])) fun t kt => by
            refine XS.ifNo X216.here hx rfl (hb hby d2_70) rfl ((if0 _ _).trans (feq hc70_218).1) ?_
            refine XS.iconst X216.here hx rfl (hb hby d2_73) ?_
            refine XS.goto X216.here hx rfl (pc0 := 74) (pc' := 78) rfl (hb hby d2_74) (by decide) (by decide) ?_
            exact kt
          refine own_lv X216 Bd.notSynchronized (v := some (.int 1)) (own_nv Bd.returns) pre220 (fun fs hr => retN X216 hx (t := .boolean) Bd.returns (by simp) (hb hby d2_78) hr) ?_
          show Q2_A2 Z a1 p2 kc c0 c1 c2 c3 h0 n0 _ T216.heap _
          rw [e216]
          exact ⟨(by rw [own_F2_A2, if_pos hc15_207, if_pos hc24_210, if_neg hc55_213, if_neg hc70_218]), N216, rfl⟩
    · obtain ⟨cl221, Ar221, -, Sz221, Nz221, Hs221, -⟩ := id V1
      have in221 : ¬ ((3 : Int32) < 0 ∨ cl221.slots.size ≤ ((3 : Int32)).toNatClampNeg) := inb_of Sz221 ⟨by decide, by decide⟩
      have at221 : cl221.slots[((3 : Int32)).toNatClampNeg]? = some (.int c3) := Has.at Hs221 in221 rfl
      obtain ⟨T222, L222, X222, e222, N222, st222⟩ := own_pS X208 hx hZ hml hown N208 (ow hw 16 rfl) (ow hw 17 rfl) (ow hw 2 rfl) (ow hw 18 rfl) e208 (rm5 l Z a0 hw [] c3 h0 n0 Z0) (W := 0) (g := (mkF m 39 #[rv a1, iv p2, iv 2, iv c2] [(.int c3)])) (argsL := [(.int c3)]) (rest := []) (lenOf pd_0 rfl) (hb hby d2_39)
      have pre223 := own_go pre209 (T222.setTop (mkF m 42 #[rv a1, iv p2, iv 2, iv c2] [(.int (own_F5 c3))])) fun t kt => by
        refine XS.ifNo X208.here hx rfl (hb hby d2_24) rfl ((if0 _ _).trans (feq hc24_210).1) ?_
        refine XS.iloadN X208.here hx rfl (hb hby d2_27) rfl ?_
        refine XS.iconst X208.here hx rfl (hb hby d2_28) ?_
        refine XS.iadd X208.here hx rfl (hb hby d2_29) rfl ?_
        refine XS.iloadN X208.here hx rfl (hb hby d2_30) rfl ?_
        refine XS.icmpNo X208.here hx rfl (hb hby d2_31) rfl (tlt (g2 : (3 : Int32) < p2)).2.1 ?_
        refine XS.aloadN X208.here hx rfl (hb hby d2_34) rfl rfl ?_
        refine XS.iloadN X208.here hx rfl (hb hby d2_35) rfl ?_
        refine XS.iconst X208.here hx rfl (hb hby d2_36) ?_
        refine XS.iadd X208.here hx rfl (hb hby d2_37) rfl ?_
        refine X208.caload hx (j := (3 : Int32)) (v := (.int c3)) (by rw [e208]; exact Ar221.1) (State.isArrayOf_alike hZ.alike Ar221.2.1) Ar221.2.2 in221 at221 (g := (mkF m 38 #[rv a1, iv p2, iv 2, iv c2] [(.int 3), (.ref a1)])) rfl rfl (hb hby d2_38) _ ?_
        refine st222 _ ?_
        exact kt
      by_cases hc42_224 : (own_F5 c3) = (0 : Int32)
      · have pre225 := own_go pre223 (T222.setTop (mkF m 50 #[rv a1, iv p2, iv 2, iv c2] [(.int 0)])) fun t kt => by
          refine XS.ifYes X222.here hx rfl (pc0 := 42) (pc' := 49) rfl (hb hby d2_42) rfl ((if0 _ _).trans (teq hc42_224).1) (by decide) (by decide) ?_
          refine XS.iconst X222.here hx rfl (hb hby d2_49) ?_
          exact kt
        refine own_lv X222 Bd.notSynchronized (v := some (.int 0)) (own_nv Bd.returns) pre225 (fun fs hr => retN X222 hx (t := .boolean) Bd.returns (by simp) (hb hby d2_50) hr) ?_
        show Q2_A2 Z a1 p2 kc c0 c1 c2 c3 h0 n0 _ T222.heap _
        rw [e222]
        exact ⟨(by rw [own_F2_A2, if_pos hc15_207, if_neg hc24_210, if_pos hc42_224]), N222, rfl⟩
      · have pre226 := own_go pre223 (T222.setTop (mkF m 50 #[rv a1, iv p2, iv 2, iv c2] [(.int 1)])) fun t kt => by
          refine XS.ifNo X222.here hx rfl (hb hby d2_42) rfl ((if0 _ _).trans (feq hc42_224).1) ?_
          refine XS.iconst X222.here hx rfl (hb hby d2_45) ?_
          refine XS.goto X222.here hx rfl (pc0 := 46) (pc' := 50) rfl (hb hby d2_46) (by decide) (by decide) ?_
          exact kt
        refine own_lv X222 Bd.notSynchronized (v := some (.int 1)) (own_nv Bd.returns) pre226 (fun fs hr => retN X222 hx (t := .boolean) Bd.returns (by simp) (hb hby d2_50) hr) ?_
        show Q2_A2 Z a1 p2 kc c0 c1 c2 c3 h0 n0 _ T222.heap _
        rw [e222]
        exact ⟨(by rw [own_F2_A2, if_pos hc15_207, if_neg hc24_210, if_neg hc42_224]), N222, rfl⟩
  · have pre227 := own_go pre206 (T205.setTop (mkF m 19 #[rv a1, iv p2, iv 2, iv c2] [(.int 0)])) fun t kt => by
      refine XS.ifNo X205.here hx rfl (hb hby d2_15) rfl ((if0 _ _).trans (feq hc15_207).1) ?_
      refine XS.iconst X205.here hx rfl (hb hby d2_18) ?_
      exact kt
    refine own_lv X205 Bd.notSynchronized (v := some (.int 0)) (own_nv Bd.returns) pre227 (fun fs hr => retN X205 hx (t := .boolean) Bd.returns (by simp) (hb hby d2_19) hr) ?_
    show Q2_A2 Z a1 p2 kc c0 c1 c2 c3 h0 n0 _ T205.heap _
    rw [e205]
    exact ⟨(by rw [own_F2_A2, if_neg hc15_207]), N205, rfl⟩
theorem own_p_A2 {a1 : Addr} {p2 : Int32} {kc : ClassId} {c0 c1 c2 c3 : Int32} (h : ¬ own_F2_A2 a1 p2 kc c0 c1 c2 c3 = (0 : Int32)) : own_F3 c2 = (0 : Int32) ∧ (¬ own_F4 c2 = (0 : Int32) → ¬ own_F5 c3 = (0 : Int32)) ∧ (own_F4 c2 = (0 : Int32) → ¬ own_F5 c2 = (0 : Int32) → ¬ own_F4 c1 = (0 : Int32)) := by
  unfold own_F2_A2 at h
  by_cases a1 : own_F3 c2 = (0 : Int32)
  · by_cases a2 : own_F4 c2 = (0 : Int32)
    · refine ⟨a1, fun q => absurd a2 q, fun _ q => ?_⟩
      by_cases a4 : own_F4 c1 = (0 : Int32)
      · simp [a1, a2, q, a4] at h
      · exact a4
    · refine ⟨a1, fun q => ?_, fun q => absurd q a2⟩
      by_cases a4 : own_F5 c3 = (0 : Int32)
      · simp [a1, a2, a4] at h
      · exact a4
  · simp [a1] at h
def own_F2_B2 (a1 : Addr) (p2 : Int32) (kc : ClassId) (c0 : Int32) (c1 : Int32) (c2 : Int32) (c3 : Int32) : Int32 := if (own_F3 c2) = (0 : Int32) then if (own_F4 c2) = (0 : Int32) then if (own_F5 c2) = (0 : Int32) then (1 : Int32) else if (own_F4 c1) = (0 : Int32) then (0 : Int32) else (1 : Int32) else (0 : Int32) else (0 : Int32)
def Q2_B2 (Z : State) (a1 : Addr) (p2 : Int32) (kc : ClassId) (c0 : Int32) (c1 : Int32) (c2 : Int32) (c3 : Int32) (h0 : Heap) (n0 : Nat) (v : Option Value) (h : Heap) (L : List Loc) : Prop := v = some (.int (own_F2_B2 a1 p2 kc c0 c1 c2 c3)) ∧ Fr n0 L ∧ h = h0
theorem rm2_B2 (l : Launch) (Z : State) (a0 : Array Value) (hw : own_H a0 Z) (ws : List Jvm.Cond) (a1 : Addr) (p2 : Int32) (kc : ClassId) (c0 : Int32) (c1 : Int32) (c2 : Int32) (c3 : Int32) (h0 : Heap) (n0 : Nat) (Z0 : n0 ≤ h0.size) (V1 : Arv Z h0 a1 kc .char (4 : Int32) [(.int c0), (.int c1), (.int c2), (.int c3)] (.int (0 : Int32))) (g1 : (2 : Int32) < p2) (g2 : ¬ (3 : Int32) < p2) :
    own_M l Z (⟨"com/example/lexiflow/lexiflow/model/IdsCheckPinLaw", "ok", "([CII)Z"⟩ : MethodName) method_7_code 4 (some .boolean) ws ({ frames := 1, cells := 0, slots := 0, locals := 12 } : Room) #[(.ref a1), (.int p2), (.int 2)] h0 (Q2_B2 Z a1 p2 kc c0 c1 c2 c3 h0 n0) := by
  refine own_bd (n0 := n0) (plainFor_of_name pn_2) fun p e s m below meth c s₁ Bd hZ hx hby hml hown X0 e0 N0 => ?_
  have pre0 := own_p0 (tb := p.tables) (e := e) (below := below) (s := s₁) (ef_2_A2 m a1 p2)
  obtain ⟨cl228, Ar228, -, Sz228, Nz228, Hs228, -⟩ := id V1
  have in228 : ¬ ((2 : Int32) < 0 ∨ cl228.slots.size ≤ ((2 : Int32)).toNatClampNeg) := inb_of Sz228 ⟨by decide, by decide⟩
  have at228 : cl228.slots[((2 : Int32)).toNatClampNeg]? = some (.int c2) := Has.at Hs228 in228 rfl
  obtain ⟨T229, L229, X229, e229, N229, st229⟩ := own_pS X0 hx hZ hml hown N0 (ow hw 9 rfl) (ow hw 10 rfl) (ow hw 2 rfl) (ow hw 11 rfl) e0 (rm3 l Z a0 hw [] c2 h0 n0 Z0) (W := 0) (g := (mkF m 12 #[rv a1, iv p2, iv 2, iv c2] [(.int c2)])) (argsL := [(.int c2)]) (rest := []) (lenOf pd_0 rfl) (hb hby d2_12)
  have pre230 := own_go pre0 (T229.setTop (mkF m 15 #[rv a1, iv p2, iv 2, iv c2] [(.int (own_F3 c2))])) fun t kt => by
    refine XS.iloadN X0.here hx rfl (hb hby d2_0) rfl ?_
    refine XS.iloadN X0.here hx rfl (hb hby d2_1) rfl ?_
    refine XS.icmpYes X0.here hx rfl (pc0 := 2) (pc' := 7) rfl (hb hby d2_2) rfl (tlt (g1 : (2 : Int32) < p2)).1 (by decide) (by decide) ?_
    refine XS.aloadN X0.here hx rfl (hb hby d2_7) rfl rfl ?_
    refine XS.iloadN X0.here hx rfl (hb hby d2_8) rfl ?_
    refine X0.caload hx (j := (2 : Int32)) (v := (.int c2)) (by rw [e0]; exact Ar228.1) (State.isArrayOf_alike hZ.alike Ar228.2.1) Ar228.2.2 in228 at228 (g := (mkF m 9 #[rv a1, iv p2, iv 2, .unset] [(.int 2), (.ref a1)])) rfl rfl (hb hby d2_9) _ ?_
    refine XS.istoreN X0.here hx rfl (hb hby d2_10) rfl (l' := #[rv a1, iv p2, iv 2, iv c2]) rfl ?_
    refine XS.iloadN X0.here hx rfl (hb hby d2_11) rfl ?_
    refine st229 _ ?_
    exact kt
  by_cases hc15_231 : (own_F3 c2) = (0 : Int32)
  · obtain ⟨T232, L232, X232, e232, N232, st232⟩ := own_pS X229 hx hZ hml hown N229 (ow hw 12 rfl) (ow hw 13 rfl) (ow hw 2 rfl) (ow hw 14 rfl) e229 (rm4 l Z a0 hw [] c2 h0 n0 Z0) (W := 0) (g := (mkF m 21 #[rv a1, iv p2, iv 2, iv c2] [(.int c2)])) (argsL := [(.int c2)]) (rest := []) (lenOf pd_0 rfl) (hb hby d2_21)
    have pre233 := own_go pre230 (T232.setTop (mkF m 24 #[rv a1, iv p2, iv 2, iv c2] [(.int (own_F4 c2))])) fun t kt => by
      refine XS.ifYes X229.here hx rfl (pc0 := 15) (pc' := 20) rfl (hb hby d2_15) rfl ((if0 _ _).trans (teq hc15_231).1) (by decide) (by decide) ?_
      refine XS.iloadN X229.here hx rfl (hb hby d2_20) rfl ?_
      refine st232 _ ?_
      exact kt
    by_cases hc24_234 : (own_F4 c2) = (0 : Int32)
    · obtain ⟨T235, L235, X235, e235, N235, st235⟩ := own_pS X232 hx hZ hml hown N232 (ow hw 16 rfl) (ow hw 17 rfl) (ow hw 2 rfl) (ow hw 18 rfl) e232 (rm5 l Z a0 hw [] c2 h0 n0 Z0) (W := 0) (g := (mkF m 52 #[rv a1, iv p2, iv 2, iv c2] [(.int c2)])) (argsL := [(.int c2)]) (rest := []) (lenOf pd_0 rfl) (hb hby d2_52)
      have pre236 := own_go pre233 (T235.setTop (mkF m 55 #[rv a1, iv p2, iv 2, iv c2] [(.int (own_F5 c2))])) fun t kt => by
        refine XS.ifYes X232.here hx rfl (pc0 := 24) (pc' := 51) rfl (hb hby d2_24) rfl ((if0 _ _).trans (teq hc24_234).1) (by decide) (by decide) ?_
        refine XS.iloadN X232.here hx rfl (hb hby d2_51) rfl ?_
        refine st235 _ ?_
        exact kt
      by_cases hc55_237 : (own_F5 c2) = (0 : Int32)
      · have pre238 := own_go pre236 (T235.setTop (mkF m 80 #[rv a1, iv p2, iv 2, iv c2] [(.int 1)])) fun t kt => by
          refine XS.ifYes X235.here hx rfl (pc0 := 55) (pc' := 79) rfl (hb hby d2_55) rfl ((if0 _ _).trans (teq hc55_237).1) (by decide) (by decide) ?_
          refine XS.iconst X235.here hx rfl (hb hby d2_79) ?_
          exact kt
        refine own_lv X235 Bd.notSynchronized (v := some (.int 1)) (own_nv Bd.returns) pre238 (fun fs hr => retN X235 hx (t := .boolean) Bd.returns (by simp) (hb hby d2_80) hr) ?_
        show Q2_B2 Z a1 p2 kc c0 c1 c2 c3 h0 n0 _ T235.heap _
        rw [e235]
        exact ⟨(by rw [own_F2_B2, if_pos hc15_231, if_pos hc24_234, if_pos hc55_237]), N235, rfl⟩
      · obtain ⟨cl239, Ar239, -, Sz239, Nz239, Hs239, -⟩ := id V1
        have in239 : ¬ ((1 : Int32) < 0 ∨ cl239.slots.size ≤ ((1 : Int32)).toNatClampNeg) := inb_of Sz239 ⟨by decide, by decide⟩
        have at239 : cl239.slots[((1 : Int32)).toNatClampNeg]? = some (.int c1) := Has.at Hs239 in239 rfl
        obtain ⟨T240, L240, X240, e240, N240, st240⟩ := own_pS X235 hx hZ hml hown N235 (ow hw 12 rfl) (ow hw 13 rfl) (ow hw 2 rfl) (ow hw 14 rfl) e235 (rm4 l Z a0 hw [] c1 h0 n0 Z0) (W := 0) (g := (mkF m 67 #[rv a1, iv p2, iv 2, iv c2] [(.int c1)])) (argsL := [(.int c1)]) (rest := []) (lenOf pd_0 rfl) (hb hby d2_67)
        have pre241 := own_go pre236 (T240.setTop (mkF m 70 #[rv a1, iv p2, iv 2, iv c2] [(.int (own_F4 c1))])) fun t kt => by
          refine XS.ifNo X235.here hx rfl (hb hby d2_55) rfl ((if0 _ _).trans (feq hc55_237).1) ?_
          refine XS.iloadN X235.here hx rfl (hb hby d2_58) rfl ?_
          refine XS.ifNo X235.here hx rfl (hb hby d2_59) rfl ((if0 _ _).trans (tlt (by decide : (0 : Int32) < (2 : Int32))).2.2.2) ?_
          refine XS.aloadN X235.here hx rfl (hb hby d2_62) rfl rfl ?_
          refine XS.iloadN X235.here hx rfl (hb hby d2_63) rfl ?_
          refine XS.iconst X235.here hx rfl (hb hby d2_64) ?_
          refine XS.isub X235.here hx rfl (hb hby d2_65) rfl ?_
          refine X235.caload hx (j := (1 : Int32)) (v := (.int c1)) (by rw [e235]; exact Ar239.1) (State.isArrayOf_alike hZ.alike Ar239.2.1) Ar239.2.2 in239 at239 (g := (mkF m 66 #[rv a1, iv p2, iv 2, iv c2] [(.int 1), (.ref a1)])) rfl rfl (hb hby d2_66) _ ?_
          refine st240 _ ?_
          exact kt
        by_cases hc70_242 : (own_F4 c1) = (0 : Int32)
        · have pre243 := own_go pre241 (T240.setTop (mkF m 78 #[rv a1, iv p2, iv 2, iv c2] [(.int 0)])) fun t kt => by
            refine XS.ifYes X240.here hx rfl (pc0 := 70) (pc' := 77) rfl (hb hby d2_70) rfl ((if0 _ _).trans (teq hc70_242).1) (by decide) (by decide) ?_
            refine XS.iconst X240.here hx rfl (hb hby d2_77) ?_
            exact kt
          refine own_lv X240 Bd.notSynchronized (v := some (.int 0)) (own_nv Bd.returns) pre243 (fun fs hr => retN X240 hx (t := .boolean) Bd.returns (by simp) (hb hby d2_78) hr) ?_
          show Q2_B2 Z a1 p2 kc c0 c1 c2 c3 h0 n0 _ T240.heap _
          rw [e240]
          exact ⟨(by rw [own_F2_B2, if_pos hc15_231, if_pos hc24_234, if_neg hc55_237, if_pos hc70_242]), N240, rfl⟩
        · have pre244 := own_go pre241 (T240.setTop (mkF m 78 #[rv a1, iv p2, iv 2, iv c2] [(.int 1)])) fun t kt => by
            refine XS.ifNo X240.here hx rfl (hb hby d2_70) rfl ((if0 _ _).trans (feq hc70_242).1) ?_
            refine XS.iconst X240.here hx rfl (hb hby d2_73) ?_
            refine XS.goto X240.here hx rfl (pc0 := 74) (pc' := 78) rfl (hb hby d2_74) (by decide) (by decide) ?_
            exact kt
          refine own_lv X240 Bd.notSynchronized (v := some (.int 1)) (own_nv Bd.returns) pre244 (fun fs hr => retN X240 hx (t := .boolean) Bd.returns (by simp) (hb hby d2_78) hr) ?_
          show Q2_B2 Z a1 p2 kc c0 c1 c2 c3 h0 n0 _ T240.heap _
          rw [e240]
          exact ⟨(by rw [own_F2_B2, if_pos hc15_231, if_pos hc24_234, if_neg hc55_237, if_neg hc70_242]), N240, rfl⟩
    · have pre245 := own_go pre233 (T232.setTop (mkF m 50 #[rv a1, iv p2, iv 2, iv c2] [(.int 0)])) fun t kt => by
        refine XS.ifNo X232.here hx rfl (hb hby d2_24) rfl ((if0 _ _).trans (feq hc24_234).1) ?_
        refine XS.iloadN X232.here hx rfl (hb hby d2_27) rfl ?_
        refine XS.iconst X232.here hx rfl (hb hby d2_28) ?_
        refine XS.iadd X232.here hx rfl (hb hby d2_29) rfl ?_
        refine XS.iloadN X232.here hx rfl (hb hby d2_30) rfl ?_
        refine XS.icmpYes X232.here hx rfl (pc0 := 31) (pc' := 49) rfl (hb hby d2_31) rfl (flt (g2 : ¬ ((3 : Int32) < p2))).2.1 (by decide) (by decide) ?_
        refine XS.iconst X232.here hx rfl (hb hby d2_49) ?_
        exact kt
      refine own_lv X232 Bd.notSynchronized (v := some (.int 0)) (own_nv Bd.returns) pre245 (fun fs hr => retN X232 hx (t := .boolean) Bd.returns (by simp) (hb hby d2_50) hr) ?_
      show Q2_B2 Z a1 p2 kc c0 c1 c2 c3 h0 n0 _ T232.heap _
      rw [e232]
      exact ⟨(by rw [own_F2_B2, if_pos hc15_231, if_neg hc24_234]), N232, rfl⟩
  · have pre246 := own_go pre230 (T229.setTop (mkF m 19 #[rv a1, iv p2, iv 2, iv c2] [(.int 0)])) fun t kt => by
      refine XS.ifNo X229.here hx rfl (hb hby d2_15) rfl ((if0 _ _).trans (feq hc15_231).1) ?_
      refine XS.iconst X229.here hx rfl (hb hby d2_18) ?_
      exact kt
    refine own_lv X229 Bd.notSynchronized (v := some (.int 0)) (own_nv Bd.returns) pre246 (fun fs hr => retN X229 hx (t := .boolean) Bd.returns (by simp) (hb hby d2_19) hr) ?_
    show Q2_B2 Z a1 p2 kc c0 c1 c2 c3 h0 n0 _ T229.heap _
    rw [e229]
    exact ⟨(by rw [own_F2_B2, if_neg hc15_231]), N229, rfl⟩
theorem own_p_B2 {a1 : Addr} {p2 : Int32} {kc : ClassId} {c0 c1 c2 c3 : Int32} (h : ¬ own_F2_B2 a1 p2 kc c0 c1 c2 c3 = (0 : Int32)) : own_F3 c2 = (0 : Int32) ∧ (¬ own_F4 c2 = (0 : Int32) → False) ∧ (own_F4 c2 = (0 : Int32) → ¬ own_F5 c2 = (0 : Int32) → ¬ own_F4 c1 = (0 : Int32)) := by
  unfold own_F2_B2 at h
  by_cases a1 : own_F3 c2 = (0 : Int32)
  · by_cases a2 : own_F4 c2 = (0 : Int32)
    · refine ⟨a1, fun q => absurd a2 q, fun _ q => ?_⟩
      by_cases a4 : own_F4 c1 = (0 : Int32)
      · simp [a1, a2, q, a4] at h
      · exact a4
    · refine ⟨a1, fun q => ?_, fun q => absurd q a2⟩
      by_cases a4 : True
      · simp [a1, a2, a4] at h
      · simp at a4
  · simp [a1] at h
def Q2_C2 (Z : State) (a1 : Addr) (p2 : Int32) (kc : ClassId) (c0 : Int32) (c1 : Int32) (c2 : Int32) (c3 : Int32) (h0 : Heap) (n0 : Nat) (v : Option Value) (h : Heap) (L : List Loc) : Prop := v = some (.int 1) ∧ Fr n0 L ∧ h = h0
theorem rm2_C2 (l : Launch) (Z : State) (a0 : Array Value) (hw : own_H a0 Z) (ws : List Jvm.Cond) (a1 : Addr) (p2 : Int32) (kc : ClassId) (c0 : Int32) (c1 : Int32) (c2 : Int32) (c3 : Int32) (h0 : Heap) (n0 : Nat) (Z0 : n0 ≤ h0.size) (V1 : Arv Z h0 a1 kc .char (4 : Int32) [(.int c0), (.int c1), (.int c2), (.int c3)] (.int (0 : Int32))) (g1 : ¬ (2 : Int32) < p2) :
    own_M l Z (⟨"com/example/lexiflow/lexiflow/model/IdsCheckPinLaw", "ok", "([CII)Z"⟩ : MethodName) method_7_code 4 (some .boolean) ws ({ frames := 0, cells := 0, slots := 0, locals := 0 } : Room) #[(.ref a1), (.int p2), (.int 2)] h0 (Q2_C2 Z a1 p2 kc c0 c1 c2 c3 h0 n0) := by
  refine own_bd (n0 := n0) (plainFor_of_name pn_2) fun p e s m below meth c s₁ Bd hZ hx hby hml hown X0 e0 N0 => ?_
  have pre0 := own_p0 (tb := p.tables) (e := e) (below := below) (s := s₁) (ef_2_A2 m a1 p2)
  have pre247 := own_go pre0 (s₁.setTop (mkF m 6 #[rv a1, iv p2, iv 2, .unset] [(.int 1)])) fun t kt => by
    refine XS.iloadN X0.here hx rfl (hb hby d2_0) rfl ?_
    refine XS.iloadN X0.here hx rfl (hb hby d2_1) rfl ?_
    refine XS.icmpNo X0.here hx rfl (hb hby d2_2) rfl (flt (g1 : ¬ ((2 : Int32) < p2))).1 ?_
    refine XS.iconst X0.here hx rfl (hb hby d2_5) ?_
    exact kt
  refine own_lv X0 Bd.notSynchronized (v := some (.int 1)) (own_nv Bd.returns) pre247 (fun fs hr => retN X0 hx (t := .boolean) Bd.returns (by simp) (hb hby d2_6) hr) ?_
  show Q2_C2 Z a1 p2 kc c0 c1 c2 c3 h0 n0 _ s₁.heap _
  rw [e0]
  exact ⟨rfl, N0, rfl⟩
theorem ef_2_B3 (m : MethodId) (x0 : Addr) (x1 : Int32) : entryFrame m #[(.ref x0), (.int x1), (.int 3)] 4 = mkF m 0 #[.val (.ref x0), .val (.int x1), .val (.int 3), .unset] [] := by first | (simp [entryFrame, mkF, argsToLocals, Value.category]; done) | rfl
def own_F2_B3 (a1 : Addr) (p2 : Int32) (kc : ClassId) (c0 : Int32) (c1 : Int32) (c2 : Int32) (c3 : Int32) : Int32 := if (own_F3 c3) = (0 : Int32) then if (own_F4 c3) = (0 : Int32) then if (own_F5 c3) = (0 : Int32) then (1 : Int32) else if (own_F4 c2) = (0 : Int32) then (0 : Int32) else (1 : Int32) else (0 : Int32) else (0 : Int32)
def Q2_B3 (Z : State) (a1 : Addr) (p2 : Int32) (kc : ClassId) (c0 : Int32) (c1 : Int32) (c2 : Int32) (c3 : Int32) (h0 : Heap) (n0 : Nat) (v : Option Value) (h : Heap) (L : List Loc) : Prop := v = some (.int (own_F2_B3 a1 p2 kc c0 c1 c2 c3)) ∧ Fr n0 L ∧ h = h0
theorem rm2_B3 (l : Launch) (Z : State) (a0 : Array Value) (hw : own_H a0 Z) (ws : List Jvm.Cond) (a1 : Addr) (p2 : Int32) (kc : ClassId) (c0 : Int32) (c1 : Int32) (c2 : Int32) (c3 : Int32) (h0 : Heap) (n0 : Nat) (Z0 : n0 ≤ h0.size) (V1 : Arv Z h0 a1 kc .char (4 : Int32) [(.int c0), (.int c1), (.int c2), (.int c3)] (.int (0 : Int32))) (g1 : (3 : Int32) < p2) (g2 : ¬ (4 : Int32) < p2) :
    own_M l Z (⟨"com/example/lexiflow/lexiflow/model/IdsCheckPinLaw", "ok", "([CII)Z"⟩ : MethodName) method_7_code 4 (some .boolean) ws ({ frames := 1, cells := 0, slots := 0, locals := 12 } : Room) #[(.ref a1), (.int p2), (.int 3)] h0 (Q2_B3 Z a1 p2 kc c0 c1 c2 c3 h0 n0) := by
  refine own_bd (n0 := n0) (plainFor_of_name pn_2) fun p e s m below meth c s₁ Bd hZ hx hby hml hown X0 e0 N0 => ?_
  have pre0 := own_p0 (tb := p.tables) (e := e) (below := below) (s := s₁) (ef_2_B3 m a1 p2)
  obtain ⟨cl248, Ar248, -, Sz248, Nz248, Hs248, -⟩ := id V1
  have in248 : ¬ ((3 : Int32) < 0 ∨ cl248.slots.size ≤ ((3 : Int32)).toNatClampNeg) := inb_of Sz248 ⟨by decide, by decide⟩
  have at248 : cl248.slots[((3 : Int32)).toNatClampNeg]? = some (.int c3) := Has.at Hs248 in248 rfl
  obtain ⟨T249, L249, X249, e249, N249, st249⟩ := own_pS X0 hx hZ hml hown N0 (ow hw 9 rfl) (ow hw 10 rfl) (ow hw 2 rfl) (ow hw 11 rfl) e0 (rm3 l Z a0 hw [] c3 h0 n0 Z0) (W := 0) (g := (mkF m 12 #[rv a1, iv p2, iv 3, iv c3] [(.int c3)])) (argsL := [(.int c3)]) (rest := []) (lenOf pd_0 rfl) (hb hby d2_12)
  have pre250 := own_go pre0 (T249.setTop (mkF m 15 #[rv a1, iv p2, iv 3, iv c3] [(.int (own_F3 c3))])) fun t kt => by
    refine XS.iloadN X0.here hx rfl (hb hby d2_0) rfl ?_
    refine XS.iloadN X0.here hx rfl (hb hby d2_1) rfl ?_
    refine XS.icmpYes X0.here hx rfl (pc0 := 2) (pc' := 7) rfl (hb hby d2_2) rfl (tlt (g1 : (3 : Int32) < p2)).1 (by decide) (by decide) ?_
    refine XS.aloadN X0.here hx rfl (hb hby d2_7) rfl rfl ?_
    refine XS.iloadN X0.here hx rfl (hb hby d2_8) rfl ?_
    refine X0.caload hx (j := (3 : Int32)) (v := (.int c3)) (by rw [e0]; exact Ar248.1) (State.isArrayOf_alike hZ.alike Ar248.2.1) Ar248.2.2 in248 at248 (g := (mkF m 9 #[rv a1, iv p2, iv 3, .unset] [(.int 3), (.ref a1)])) rfl rfl (hb hby d2_9) _ ?_
    refine XS.istoreN X0.here hx rfl (hb hby d2_10) rfl (l' := #[rv a1, iv p2, iv 3, iv c3]) rfl ?_
    refine XS.iloadN X0.here hx rfl (hb hby d2_11) rfl ?_
    refine st249 _ ?_
    exact kt
  by_cases hc15_251 : (own_F3 c3) = (0 : Int32)
  · obtain ⟨T252, L252, X252, e252, N252, st252⟩ := own_pS X249 hx hZ hml hown N249 (ow hw 12 rfl) (ow hw 13 rfl) (ow hw 2 rfl) (ow hw 14 rfl) e249 (rm4 l Z a0 hw [] c3 h0 n0 Z0) (W := 0) (g := (mkF m 21 #[rv a1, iv p2, iv 3, iv c3] [(.int c3)])) (argsL := [(.int c3)]) (rest := []) (lenOf pd_0 rfl) (hb hby d2_21)
    have pre253 := own_go pre250 (T252.setTop (mkF m 24 #[rv a1, iv p2, iv 3, iv c3] [(.int (own_F4 c3))])) fun t kt => by
      refine XS.ifYes X249.here hx rfl (pc0 := 15) (pc' := 20) rfl (hb hby d2_15) rfl ((if0 _ _).trans (teq hc15_251).1) (by decide) (by decide) ?_
      refine XS.iloadN X249.here hx rfl (hb hby d2_20) rfl ?_
      refine st252 _ ?_
      exact kt
    by_cases hc24_254 : (own_F4 c3) = (0 : Int32)
    · obtain ⟨T255, L255, X255, e255, N255, st255⟩ := own_pS X252 hx hZ hml hown N252 (ow hw 16 rfl) (ow hw 17 rfl) (ow hw 2 rfl) (ow hw 18 rfl) e252 (rm5 l Z a0 hw [] c3 h0 n0 Z0) (W := 0) (g := (mkF m 52 #[rv a1, iv p2, iv 3, iv c3] [(.int c3)])) (argsL := [(.int c3)]) (rest := []) (lenOf pd_0 rfl) (hb hby d2_52)
      have pre256 := own_go pre253 (T255.setTop (mkF m 55 #[rv a1, iv p2, iv 3, iv c3] [(.int (own_F5 c3))])) fun t kt => by
        refine XS.ifYes X252.here hx rfl (pc0 := 24) (pc' := 51) rfl (hb hby d2_24) rfl ((if0 _ _).trans (teq hc24_254).1) (by decide) (by decide) ?_
        refine XS.iloadN X252.here hx rfl (hb hby d2_51) rfl ?_
        refine st255 _ ?_
        exact kt
      by_cases hc55_257 : (own_F5 c3) = (0 : Int32)
      · have pre258 := own_go pre256 (T255.setTop (mkF m 80 #[rv a1, iv p2, iv 3, iv c3] [(.int 1)])) fun t kt => by
          refine XS.ifYes X255.here hx rfl (pc0 := 55) (pc' := 79) rfl (hb hby d2_55) rfl ((if0 _ _).trans (teq hc55_257).1) (by decide) (by decide) ?_
          refine XS.iconst X255.here hx rfl (hb hby d2_79) ?_
          exact kt
        refine own_lv X255 Bd.notSynchronized (v := some (.int 1)) (own_nv Bd.returns) pre258 (fun fs hr => retN X255 hx (t := .boolean) Bd.returns (by simp) (hb hby d2_80) hr) ?_
        show Q2_B3 Z a1 p2 kc c0 c1 c2 c3 h0 n0 _ T255.heap _
        rw [e255]
        exact ⟨(by rw [own_F2_B3, if_pos hc15_251, if_pos hc24_254, if_pos hc55_257]), N255, rfl⟩
      · obtain ⟨cl259, Ar259, -, Sz259, Nz259, Hs259, -⟩ := id V1
        have in259 : ¬ ((2 : Int32) < 0 ∨ cl259.slots.size ≤ ((2 : Int32)).toNatClampNeg) := inb_of Sz259 ⟨by decide, by decide⟩
        have at259 : cl259.slots[((2 : Int32)).toNatClampNeg]? = some (.int c2) := Has.at Hs259 in259 rfl
        obtain ⟨T260, L260, X260, e260, N260, st260⟩ := own_pS X255 hx hZ hml hown N255 (ow hw 12 rfl) (ow hw 13 rfl) (ow hw 2 rfl) (ow hw 14 rfl) e255 (rm4 l Z a0 hw [] c2 h0 n0 Z0) (W := 0) (g := (mkF m 67 #[rv a1, iv p2, iv 3, iv c3] [(.int c2)])) (argsL := [(.int c2)]) (rest := []) (lenOf pd_0 rfl) (hb hby d2_67)
        have pre261 := own_go pre256 (T260.setTop (mkF m 70 #[rv a1, iv p2, iv 3, iv c3] [(.int (own_F4 c2))])) fun t kt => by
          refine XS.ifNo X255.here hx rfl (hb hby d2_55) rfl ((if0 _ _).trans (feq hc55_257).1) ?_
          refine XS.iloadN X255.here hx rfl (hb hby d2_58) rfl ?_
          refine XS.ifNo X255.here hx rfl (hb hby d2_59) rfl ((if0 _ _).trans (tlt (by decide : (0 : Int32) < (3 : Int32))).2.2.2) ?_
          refine XS.aloadN X255.here hx rfl (hb hby d2_62) rfl rfl ?_
          refine XS.iloadN X255.here hx rfl (hb hby d2_63) rfl ?_
          refine XS.iconst X255.here hx rfl (hb hby d2_64) ?_
          refine XS.isub X255.here hx rfl (hb hby d2_65) rfl ?_
          refine X255.caload hx (j := (2 : Int32)) (v := (.int c2)) (by rw [e255]; exact Ar259.1) (State.isArrayOf_alike hZ.alike Ar259.2.1) Ar259.2.2 in259 at259 (g := (mkF m 66 #[rv a1, iv p2, iv 3, iv c3] [(.int 2), (.ref a1)])) rfl rfl (hb hby d2_66) _ ?_
          refine st260 _ ?_
          exact kt
        by_cases hc70_262 : (own_F4 c2) = (0 : Int32)
        · have pre263 := own_go pre261 (T260.setTop (mkF m 78 #[rv a1, iv p2, iv 3, iv c3] [(.int 0)])) fun t kt => by
            refine XS.ifYes X260.here hx rfl (pc0 := 70) (pc' := 77) rfl (hb hby d2_70) rfl ((if0 _ _).trans (teq hc70_262).1) (by decide) (by decide) ?_
            refine XS.iconst X260.here hx rfl (hb hby d2_77) ?_
            exact kt
          refine own_lv X260 Bd.notSynchronized (v := some (.int 0)) (own_nv Bd.returns) pre263 (fun fs hr => retN X260 hx (t := .boolean) Bd.returns (by simp) (hb hby d2_78) hr) ?_
          show Q2_B3 Z a1 p2 kc c0 c1 c2 c3 h0 n0 _ T260.heap _
          rw [e260]
          exact ⟨(by rw [own_F2_B3, if_pos hc15_251, if_pos hc24_254, if_neg hc55_257, if_pos hc70_262]), N260, rfl⟩
        · have pre264 := own_go pre261 (T260.setTop (mkF m 78 #[rv a1, iv p2, iv 3, iv c3] [(.int 1)])) fun t kt => by
            refine XS.ifNo X260.here hx rfl (hb hby d2_70) rfl ((if0 _ _).trans (feq hc70_262).1) ?_
            refine XS.iconst X260.here hx rfl (hb hby d2_73) ?_
            refine XS.goto X260.here hx rfl (pc0 := 74) (pc' := 78) rfl (hb hby d2_74) (by decide) (by decide) ?_
            exact kt
          refine own_lv X260 Bd.notSynchronized (v := some (.int 1)) (own_nv Bd.returns) pre264 (fun fs hr => retN X260 hx (t := .boolean) Bd.returns (by simp) (hb hby d2_78) hr) ?_
          show Q2_B3 Z a1 p2 kc c0 c1 c2 c3 h0 n0 _ T260.heap _
          rw [e260]
          exact ⟨(by rw [own_F2_B3, if_pos hc15_251, if_pos hc24_254, if_neg hc55_257, if_neg hc70_262]), N260, rfl⟩
    · have pre265 := own_go pre253 (T252.setTop (mkF m 50 #[rv a1, iv p2, iv 3, iv c3] [(.int 0)])) fun t kt => by
        refine XS.ifNo X252.here hx rfl (hb hby d2_24) rfl ((if0 _ _).trans (feq hc24_254).1) ?_
        refine XS.iloadN X252.here hx rfl (hb hby d2_27) rfl ?_
        refine XS.iconst X252.here hx rfl (hb hby d2_28) ?_
        refine XS.iadd X252.here hx rfl (hb hby d2_29) rfl ?_
        refine XS.iloadN X252.here hx rfl (hb hby d2_30) rfl ?_
        refine XS.icmpYes X252.here hx rfl (pc0 := 31) (pc' := 49) rfl (hb hby d2_31) rfl (flt (g2 : ¬ ((4 : Int32) < p2))).2.1 (by decide) (by decide) ?_
        refine XS.iconst X252.here hx rfl (hb hby d2_49) ?_
        exact kt
      refine own_lv X252 Bd.notSynchronized (v := some (.int 0)) (own_nv Bd.returns) pre265 (fun fs hr => retN X252 hx (t := .boolean) Bd.returns (by simp) (hb hby d2_50) hr) ?_
      show Q2_B3 Z a1 p2 kc c0 c1 c2 c3 h0 n0 _ T252.heap _
      rw [e252]
      exact ⟨(by rw [own_F2_B3, if_pos hc15_251, if_neg hc24_254]), N252, rfl⟩
  · have pre266 := own_go pre250 (T249.setTop (mkF m 19 #[rv a1, iv p2, iv 3, iv c3] [(.int 0)])) fun t kt => by
      refine XS.ifNo X249.here hx rfl (hb hby d2_15) rfl ((if0 _ _).trans (feq hc15_251).1) ?_
      refine XS.iconst X249.here hx rfl (hb hby d2_18) ?_
      exact kt
    refine own_lv X249 Bd.notSynchronized (v := some (.int 0)) (own_nv Bd.returns) pre266 (fun fs hr => retN X249 hx (t := .boolean) Bd.returns (by simp) (hb hby d2_19) hr) ?_
    show Q2_B3 Z a1 p2 kc c0 c1 c2 c3 h0 n0 _ T249.heap _
    rw [e249]
    exact ⟨(by rw [own_F2_B3, if_neg hc15_251]), N249, rfl⟩
theorem own_p_B3 {a1 : Addr} {p2 : Int32} {kc : ClassId} {c0 c1 c2 c3 : Int32} (h : ¬ own_F2_B3 a1 p2 kc c0 c1 c2 c3 = (0 : Int32)) : own_F3 c3 = (0 : Int32) ∧ (¬ own_F4 c3 = (0 : Int32) → False) ∧ (own_F4 c3 = (0 : Int32) → ¬ own_F5 c3 = (0 : Int32) → ¬ own_F4 c2 = (0 : Int32)) := by
  unfold own_F2_B3 at h
  by_cases a1 : own_F3 c3 = (0 : Int32)
  · by_cases a2 : own_F4 c3 = (0 : Int32)
    · refine ⟨a1, fun q => absurd a2 q, fun _ q => ?_⟩
      by_cases a4 : own_F4 c2 = (0 : Int32)
      · simp [a1, a2, q, a4] at h
      · exact a4
    · refine ⟨a1, fun q => ?_, fun q => absurd q a2⟩
      by_cases a4 : True
      · simp [a1, a2, a4] at h
      · simp at a4
  · simp [a1] at h
def Q2_C3 (Z : State) (a1 : Addr) (p2 : Int32) (kc : ClassId) (c0 : Int32) (c1 : Int32) (c2 : Int32) (c3 : Int32) (h0 : Heap) (n0 : Nat) (v : Option Value) (h : Heap) (L : List Loc) : Prop := v = some (.int 1) ∧ Fr n0 L ∧ h = h0
theorem rm2_C3 (l : Launch) (Z : State) (a0 : Array Value) (hw : own_H a0 Z) (ws : List Jvm.Cond) (a1 : Addr) (p2 : Int32) (kc : ClassId) (c0 : Int32) (c1 : Int32) (c2 : Int32) (c3 : Int32) (h0 : Heap) (n0 : Nat) (Z0 : n0 ≤ h0.size) (V1 : Arv Z h0 a1 kc .char (4 : Int32) [(.int c0), (.int c1), (.int c2), (.int c3)] (.int (0 : Int32))) (g1 : ¬ (3 : Int32) < p2) :
    own_M l Z (⟨"com/example/lexiflow/lexiflow/model/IdsCheckPinLaw", "ok", "([CII)Z"⟩ : MethodName) method_7_code 4 (some .boolean) ws ({ frames := 0, cells := 0, slots := 0, locals := 0 } : Room) #[(.ref a1), (.int p2), (.int 3)] h0 (Q2_C3 Z a1 p2 kc c0 c1 c2 c3 h0 n0) := by
  refine own_bd (n0 := n0) (plainFor_of_name pn_2) fun p e s m below meth c s₁ Bd hZ hx hby hml hown X0 e0 N0 => ?_
  have pre0 := own_p0 (tb := p.tables) (e := e) (below := below) (s := s₁) (ef_2_B3 m a1 p2)
  have pre267 := own_go pre0 (s₁.setTop (mkF m 6 #[rv a1, iv p2, iv 3, .unset] [(.int 1)])) fun t kt => by
    refine XS.iloadN X0.here hx rfl (hb hby d2_0) rfl ?_
    refine XS.iloadN X0.here hx rfl (hb hby d2_1) rfl ?_
    refine XS.icmpNo X0.here hx rfl (hb hby d2_2) rfl (flt (g1 : ¬ ((3 : Int32) < p2))).1 ?_
    refine XS.iconst X0.here hx rfl (hb hby d2_5) ?_
    exact kt
  refine own_lv X0 Bd.notSynchronized (v := some (.int 1)) (own_nv Bd.returns) pre267 (fun fs hr => retN X0 hx (t := .boolean) Bd.returns (by simp) (hb hby d2_6) hr) ?_
  show Q2_C3 Z a1 p2 kc c0 c1 c2 c3 h0 n0 _ s₁.heap _
  rw [e0]
  exact ⟨rfl, N0, rfl⟩

theorem d20_0 : decode jdk_41_method_11_code 0 = .ok (.iload_n 0, 1) := by decide +kernel
theorem d20_1 : decode jdk_41_method_11_code 1 = .ok (.ifCond .lt 8, 3) := by decide +kernel
theorem d20_4 : decode jdk_41_method_11_code 4 = .ok (.iload_n 0, 1) := by decide +kernel
theorem d20_5 : decode jdk_41_method_11_code 5 = .ok (.iload_n 1, 1) := by decide +kernel
theorem d20_6 : decode jdk_41_method_11_code 6 = .ok (.if_icmp .lt 10, 3) := by decide +kernel
theorem d20_16 : decode jdk_41_method_11_code 16 = .ok (.iload_n 0, 1) := by decide +kernel
theorem d20_17 : decode jdk_41_method_11_code 17 = .ok (.ireturn, 1) := by decide +kernel
theorem pn_20 : plainName "jdk/internal/util/Preconditions" = true := by first | (simp [plainName, overriddenIn]; done) | decide +kernel
theorem ef_20 (m : MethodId) (x0 : Int32) (x1 : Int32) (x2 : Value) (hx2 : x2.isRef = true) : entryFrame m #[(.int x0), (.int x1), x2] 3 = mkF m 0 #[.val (.int x0), .val (.int x1), .val x2] [] := by
  rcases XT.refc hx2 with rfl | ⟨_, rfl⟩ <;>
  rfl
def Q20 (Z : State) (p1 : Int32) (p2 : Int32) (v3 : Value) (h0 : Heap) (n0 : Nat) (v : Option Value) (h : Heap) (L : List Loc) : Prop := v = some (.int p1) ∧ Fr n0 L ∧ h = h0
theorem rm20 (l : Launch) (Z : State) (a0 : Array Value) (hw : own_H a0 Z) (ws : List Jvm.Cond) (p1 : Int32) (p2 : Int32) (v3 : Value) (h0 : Heap) (n0 : Nat) (Z0 : n0 ≤ h0.size) (hv : v3.isRef = true) (h1 : ¬ p1 < (0 : Int32)) (h2 : p1 < p2) :
    own_M l Z (⟨"jdk/internal/util/Preconditions", "checkIndex", "(IILjava/util/function/BiFunction;)I"⟩ : MethodName) jdk_41_method_11_code 3 (some .int) ws ({ frames := 0, cells := 0, slots := 0, locals := 0 } : Room) #[(.int p1), (.int p2), v3] h0 (Q20 Z p1 p2 v3 h0 n0) := by
  refine own_bd (n0 := n0) (plainFor_of_name pn_20) fun p e s m below meth c s₁ Bd hZ hx hby hml hown X0 e0 N0 => ?_
  have pre0 := own_p0 (tb := p.tables) (e := e) (below := below) (s := s₁) (ef_20 m p1 p2 v3 hv)
  have pre268 := own_go pre0 (s₁.setTop (mkF m 17 #[iv p1, iv p2, .val v3] [(.int p1)])) fun t kt => by
    refine XS.iloadN X0.here hx rfl (hb hby d20_0) rfl ?_
    refine XS.ifNo X0.here hx rfl (hb hby d20_1) rfl ((if0 _ _).trans (flt (h1 : ¬ (p1 < (0 : Int32)))).1) ?_
    refine XS.iloadN X0.here hx rfl (hb hby d20_4) rfl ?_
    refine XS.iloadN X0.here hx rfl (hb hby d20_5) rfl ?_
    refine XS.icmpYes X0.here hx rfl (pc0 := 6) (pc' := 16) rfl (hb hby d20_6) rfl (tlt (h2 : p1 < p2)).1 (by decide) (by decide) ?_
    refine XS.iloadN X0.here hx rfl (hb hby d20_16) rfl ?_
    exact kt
  refine own_lv X0 Bd.notSynchronized (v := some (.int p1)) (own_nv Bd.returns) pre268 (fun fs hr => retI X0 hx Bd.returns (hb hby d20_17) hr) ?_
  show Q20 Z p1 p2 v3 h0 n0 _ s₁.heap _
  rw [e0]
  exact ⟨rfl, N0, rfl⟩
theorem pd_1 : parseMethodDescriptor "(IILjava/util/function/BiFunction;)I" = some ⟨[.int, .int, (.object "java/util/function/BiFunction")], some .int⟩ := by decide +kernel
theorem d19_0 : decode jdk_42_method_155_code 0 = .ok (.iload_n 0, 1) := by decide +kernel
theorem d19_1 : decode jdk_42_method_155_code 1 = .ok (.iload_n 1, 1) := by decide +kernel
theorem d19_2 : decode jdk_42_method_155_code 2 = .ok (.getstatic 1053, 3) := by decide +kernel
theorem d19_5 : decode jdk_42_method_155_code 5 = .ok (.invokestatic 1059, 3) := by decide +kernel
theorem d19_8 : decode jdk_42_method_155_code 8 = .ok (.pop, 1) := by decide +kernel
theorem d19_9 : decode jdk_42_method_155_code 9 = .ok (.return_, 1) := by decide +kernel
theorem pn_19 : plainName "java/lang/String" = true := by first | (simp [plainName, overriddenIn]; done) | decide +kernel
theorem ef_19 (m : MethodId) (x0 : Int32) (x1 : Int32) : entryFrame m #[(.int x0), (.int x1)] 2 = mkF m 0 #[.val (.int x0), .val (.int x1)] [] := by first | (simp [entryFrame, mkF, argsToLocals, Value.category]; done) | rfl
def Q19 (Z : State) (p1 : Int32) (p2 : Int32) (vf : Value) (h0 : Heap) (n0 : Nat) (v : Option Value) (h : Heap) (L : List Loc) : Prop := v = none ∧ Fr n0 L ∧ h = h0
theorem rm19 (l : Launch) (Z : State) (a0 : Array Value) (hw : own_H a0 Z) (ws : List Jvm.Cond) (p1 : Int32) (p2 : Int32) (vf : Value) (h0 : Heap) (n0 : Nat) (Z0 : n0 ≤ h0.size) (SF : Sta Z h0 "jdk/internal/util/Preconditions" "SIOOBE_FORMATTER" "Ljava/util/function/BiFunction;" vf) (hvf : vf.isRef = true) (h1 : ¬ p1 < (0 : Int32)) (h2 : p1 < p2) :
    own_M l Z (⟨"java/lang/String", "checkIndex", "(II)V"⟩ : MethodName) jdk_42_method_155_code 2 none ws ({ frames := 1, cells := 0, slots := 0, locals := 14 } : Room) #[(.int p1), (.int p2)] h0 (Q19 Z p1 p2 vf h0 n0) := by
  refine own_bd (n0 := n0) (plainFor_of_name pn_19) fun p e s m below meth c s₁ Bd hZ hx hby hml hown X0 e0 N0 => ?_
  have pre0 := own_p0 (tb := p.tables) (e := e) (below := below) (s := s₁) (ef_19 m p1 p2)
  obtain ⟨T269, X269, e269, st269⟩ := getS2 X0 hx hZ hown (host := "") (Or.inl (ow hw 85 rfl)) Via.refl e0 SF (g := (mkF m 2 #[iv p1, iv p2] [(.int p2), (.int p1)])) rfl (hb hby d19_2)
  obtain ⟨T270, L270, X270, e270, N270, st270⟩ := own_pS X269 hx hZ hml hown N0 (ow hw 87 rfl) (ow hw 88 rfl) (ow hw 86 rfl) (ow hw 89 rfl) e269 (rm20 l Z a0 hw [] p1 p2 vf h0 n0 Z0 hvf h1 h2) (W := 0) (g := (mkF m 5 #[iv p1, iv p2] [vf, (.int p2), (.int p1)])) (argsL := [(.int p1), (.int p2), vf]) (rest := []) (lenOf pd_1 rfl) (hb hby d19_5)
  have pre271 := own_go pre0 (T270.setTop (mkF m 9 #[iv p1, iv p2] [])) fun t kt => by
    refine XS.iloadN X0.here hx rfl (hb hby d19_0) rfl ?_
    refine XS.iloadN X0.here hx rfl (hb hby d19_1) rfl ?_
    refine st269 _ ?_
    refine st270 _ ?_
    refine XS.pop X270.here hx rfl (hb hby d19_8) rfl rfl ?_
    exact kt
  refine own_lv X270 Bd.notSynchronized (v := none) (fun _ => rfl) pre271 (fun fs hr => X270.returnOut hx Bd.returns (hb hby d19_9) hr) ?_
  show Q19 Z p1 p2 vf h0 n0 _ T270.heap _
  rw [e270]
  exact ⟨rfl, N270, rfl⟩
theorem pd_2 : parseMethodDescriptor "(II)V" = some ⟨[.int, .int], none⟩ := by decide +kernel
theorem d18_0 : decode jdk_43_method_2_code 0 = .ok (.iload_n 1, 1) := by decide +kernel
theorem d18_1 : decode jdk_43_method_2_code 1 = .ok (.aload_n 0, 1) := by decide +kernel
theorem d18_2 : decode jdk_43_method_2_code 2 = .ok (.arraylength, 1) := by decide +kernel
theorem d18_3 : decode jdk_43_method_2_code 3 = .ok (.invokestatic 9, 3) := by decide +kernel
theorem d18_6 : decode jdk_43_method_2_code 6 = .ok (.aload_n 0, 1) := by decide +kernel
theorem d18_7 : decode jdk_43_method_2_code 7 = .ok (.iload_n 1, 1) := by decide +kernel
theorem d18_8 : decode jdk_43_method_2_code 8 = .ok (.baload, 1) := by decide +kernel
theorem d18_9 : decode jdk_43_method_2_code 9 = .ok (.sipush 255, 3) := by decide +kernel
theorem d18_12 : decode jdk_43_method_2_code 12 = .ok (.iand, 1) := by decide +kernel
theorem d18_13 : decode jdk_43_method_2_code 13 = .ok (.i2c, 1) := by decide +kernel
theorem d18_14 : decode jdk_43_method_2_code 14 = .ok (.ireturn, 1) := by decide +kernel
theorem pn_18 : plainName "java/lang/StringLatin1" = true := by first | (simp [plainName, overriddenIn]; done) | decide +kernel
theorem ef_18 (m : MethodId) (x0 : Addr) (x1 : Int32) : entryFrame m #[(.ref x0), (.int x1)] 2 = mkF m 0 #[.val (.ref x0), .val (.int x1)] [] := by first | (simp [entryFrame, mkF, argsToLocals, Value.category]; done) | rfl
def Q18 (Z : State) (a1 : Addr) (p2 : Int32) (cl : Cell) (zz : Int32) (w : Int32) (vf : Value) (h0 : Heap) (n0 : Nat) (v : Option Value) (h : Heap) (L : List Loc) : Prop := v = some (.int (own_chr w)) ∧ Fr n0 L ∧ h = h0
theorem rm18 (l : Launch) (Z : State) (a0 : Array Value) (hw : own_H a0 Z) (ws : List Jvm.Cond) (a1 : Addr) (p2 : Int32) (cl : Cell) (zz : Int32) (w : Int32) (vf : Value) (h0 : Heap) (n0 : Nat) (Z0 : n0 ≤ h0.size) (Ar : Arr Z h0 a1 cl .byte) (Sz : cl.slots.size = zz.toNatClampNeg) (Nz : ¬ zz < (0 : Int32)) (h1 : ¬ p2 < (0 : Int32)) (h2 : p2 < zz) (hat : cl.slots[p2.toNatClampNeg]? = some (.int w)) (SF : Sta Z h0 "jdk/internal/util/Preconditions" "SIOOBE_FORMATTER" "Ljava/util/function/BiFunction;" vf) (hvf : vf.isRef = true) :
    own_M l Z (⟨"java/lang/StringLatin1", "charAt", "([BI)C"⟩ : MethodName) jdk_43_method_2_code 2 (some .char) ws ({ frames := 2, cells := 0, slots := 0, locals := 27 } : Room) #[(.ref a1), (.int p2)] h0 (Q18 Z a1 p2 cl zz w vf h0 n0) := by
  refine own_bd (n0 := n0) (plainFor_of_name pn_18) fun p e s m below meth c s₁ Bd hZ hx hby hml hown X0 e0 N0 => ?_
  have pre0 := own_p0 (tb := p.tables) (e := e) (below := below) (s := s₁) (ef_18 m a1 p2)
  obtain ⟨T272, L272, X272, e272, N272, st272⟩ := own_pS X0 hx hZ hml hown N0 (ow hw 82 rfl) (ow hw 83 rfl) (ow hw 22 rfl) (ow hw 84 rfl) e0 (rm19 l Z a0 hw [] p2 zz vf h0 n0 Z0 SF hvf h1 h2) (W := 0) (g := (mkF m 3 #[rv a1, iv p2] [(.int zz), (.int p2)])) (argsL := [(.int p2), (.int zz)]) (rest := []) (lenOf pd_2 rfl) (hb hby d18_3)
  have pre273 := own_go pre0 (T272.setTop (mkF m 14 #[rv a1, iv p2] [(.int ((w &&& (255 : Int32)).toUInt32.toUInt16.toUInt32.toInt32))])) fun t kt => by
    refine XS.iloadN X0.here hx rfl (hb hby d18_0) rfl ?_
    refine XS.aloadN X0.here hx rfl (hb hby d18_1) rfl rfl ?_
    refine X0.arraylength hx (by rw [e0]; exact Ar.1) (State.isArrayOf_alike hZ.alike Ar.2.1) (g := (mkF m 2 #[rv a1, iv p2] [(.ref a1), (.int p2)])) rfl rfl (hb hby d18_2) _ ?_
    rw [len_of Sz Nz]
    refine st272 _ ?_
    refine XS.aloadN X272.here hx rfl (hb hby d18_6) rfl rfl ?_
    refine XS.iloadN X272.here hx rfl (hb hby d18_7) rfl ?_
    refine X272.baloadBytes hx (j := p2) (v := .int w) (by rw [e272]; exact Ar.1) (State.isArrayOf_alike hZ.alike Ar.2.1) Ar.2.2 (inb_of Sz ⟨h1, h2⟩) hat (g := (mkF m 8 #[rv a1, iv p2] [(.int p2), (.ref a1)])) rfl rfl (hb hby d18_8) _ ?_
    refine XS.sipush X272.here hx rfl (hb hby d18_9) ?_
    refine XS.iand X272.here hx rfl (hb hby d18_12) rfl ?_
    refine XS.i2c X272.here hx rfl (hb hby d18_13) rfl ?_
    exact kt
  refine own_lv X272 Bd.notSynchronized (v := some (.int (nar .char ((w &&& (255 : Int32)).toUInt32.toUInt16.toUInt32.toInt32)))) (own_nv Bd.returns) pre273 (fun fs hr => retN X272 hx (t := .char) Bd.returns (by simp) (hb hby d18_14) hr) ?_
  show Q18 Z a1 p2 cl zz w vf h0 n0 _ T272.heap _
  rw [e272]
  exact ⟨rfl, N272, rfl⟩
theorem d17_0 : decode jdk_42_method_154_code 0 = .ok (.getstatic 38, 3) := by decide +kernel
theorem d17_3 : decode jdk_42_method_154_code 3 = .ok (.ifCond .eq 14, 3) := by decide +kernel
theorem d17_6 : decode jdk_42_method_154_code 6 = .ok (.aload_n 0, 1) := by decide +kernel
theorem d17_7 : decode jdk_42_method_154_code 7 = .ok (.getfield 15, 3) := by decide +kernel
theorem d17_10 : decode jdk_42_method_154_code 10 = .ok (.ifCond .ne 7, 3) := by decide +kernel
theorem d17_13 : decode jdk_42_method_154_code 13 = .ok (.iconst 1, 1) := by decide +kernel
theorem d17_14 : decode jdk_42_method_154_code 14 = .ok (.goto 4, 3) := by decide +kernel
theorem d17_18 : decode jdk_42_method_154_code 18 = .ok (.ireturn, 1) := by decide +kernel
theorem pn_17 : plainName "java/lang/String" = true := by first | (simp [plainName, overriddenIn]; done) | decide +kernel
theorem ef_17L (m : MethodId) (x0 : Addr) : entryFrame m #[(.ref x0)] 1 = mkF m 0 #[.val (.ref x0)] [] := by first | (simp [entryFrame, mkF, argsToLocals, Value.category]; done) | rfl
def Q17L (Z : State) (a1 : Addr) (cs : Int32) (h0 : Heap) (n0 : Nat) (v : Option Value) (h : Heap) (L : List Loc) : Prop := v = some (.int 1) ∧ Fr n0 L ∧ h = h0
theorem rm17L (l : Launch) (Z : State) (a0 : Array Value) (hw : own_H a0 Z) (ws : List Jvm.Cond) (a1 : Addr) (cs : Int32) (h0 : Heap) (n0 : Nat) (Z0 : n0 ≤ h0.size) (SC : own_SC Z h0 cs) (hcs : ¬ cs = (0 : Int32)) (FC : Fld Z h0 a1 "java/lang/String" "coder" "B" (.int (0 : Int32))) :
    own_M l Z (⟨"java/lang/String", "isLatin1", "()Z"⟩ : MethodName) jdk_42_method_154_code 1 (some .boolean) ws ({ frames := 0, cells := 0, slots := 0, locals := 0 } : Room) #[(.ref a1)] h0 (Q17L Z a1 cs h0 n0) := by
  refine own_bd (n0 := n0) (plainFor_of_name pn_17) fun p e s m below meth c s₁ Bd hZ hx hby hml hown X0 e0 N0 => ?_
  have pre0 := own_p0 (tb := p.tables) (e := e) (below := below) (s := s₁) (ef_17L m a1)
  obtain ⟨T274, X274, e274, st274⟩ := getS2 X0 hx hZ hown (host := "") (Or.inl (ow hw 33 rfl)) Via.refl e0 SC (g := (mkF m 0 #[rv a1] [])) rfl (hb hby d17_0)
  obtain ⟨T275, X275, e275, st275⟩ := getF X274 hx hZ hown (host := "") (Or.inl (ow hw 45 rfl)) Via.refl e274 FC (g := (mkF m 7 #[rv a1] [(.ref a1)])) rfl rfl (hb hby d17_7)
  have pre276 := own_go pre0 (T275.setTop (mkF m 18 #[rv a1] [(.int 1)])) fun t kt => by
    refine st274 _ ?_
    refine XS.ifNo X274.here hx rfl (hb hby d17_3) rfl ((if0 _ _).trans (feq (hcs : ¬ (cs = (0 : Int32)))).1) ?_
    refine XS.aloadN X274.here hx rfl (hb hby d17_6) rfl rfl ?_
    refine st275 _ ?_
    refine XS.ifNo X275.here hx rfl (hb hby d17_10) rfl ((if0 _ _).trans (teq (by decide : (0 : Int32) = (0 : Int32))).2) ?_
    refine XS.iconst X275.here hx rfl (hb hby d17_13) ?_
    refine XS.goto X275.here hx rfl (pc0 := 14) (pc' := 18) rfl (hb hby d17_14) (by decide) (by decide) ?_
    exact kt
  refine own_lv X275 Bd.notSynchronized (v := some (.int 1)) (own_nv Bd.returns) pre276 (fun fs hr => retN X275 hx (t := .boolean) Bd.returns (by simp) (hb hby d17_18) hr) ?_
  show Q17L Z a1 cs h0 n0 _ T275.heap _
  rw [e275]
  exact ⟨rfl, N0, rfl⟩
theorem d17_17 : decode jdk_42_method_154_code 17 = .ok (.iconst 0, 1) := by decide +kernel
def Q17U (Z : State) (a1 : Addr) (cs : Int32) (h0 : Heap) (n0 : Nat) (v : Option Value) (h : Heap) (L : List Loc) : Prop := v = some (.int 0) ∧ Fr n0 L ∧ h = h0
theorem rm17U (l : Launch) (Z : State) (a0 : Array Value) (hw : own_H a0 Z) (ws : List Jvm.Cond) (a1 : Addr) (cs : Int32) (h0 : Heap) (n0 : Nat) (Z0 : n0 ≤ h0.size) (SC : own_SC Z h0 cs) (hcs : ¬ cs = (0 : Int32)) (FC : Fld Z h0 a1 "java/lang/String" "coder" "B" (.int (1 : Int32))) :
    own_M l Z (⟨"java/lang/String", "isLatin1", "()Z"⟩ : MethodName) jdk_42_method_154_code 1 (some .boolean) ws ({ frames := 0, cells := 0, slots := 0, locals := 0 } : Room) #[(.ref a1)] h0 (Q17U Z a1 cs h0 n0) := by
  refine own_bd (n0 := n0) (plainFor_of_name pn_17) fun p e s m below meth c s₁ Bd hZ hx hby hml hown X0 e0 N0 => ?_
  have pre0 := own_p0 (tb := p.tables) (e := e) (below := below) (s := s₁) (ef_17L m a1)
  obtain ⟨T277, X277, e277, st277⟩ := getS2 X0 hx hZ hown (host := "") (Or.inl (ow hw 33 rfl)) Via.refl e0 SC (g := (mkF m 0 #[rv a1] [])) rfl (hb hby d17_0)
  obtain ⟨T278, X278, e278, st278⟩ := getF X277 hx hZ hown (host := "") (Or.inl (ow hw 45 rfl)) Via.refl e277 FC (g := (mkF m 7 #[rv a1] [(.ref a1)])) rfl rfl (hb hby d17_7)
  have pre279 := own_go pre0 (T278.setTop (mkF m 18 #[rv a1] [(.int 0)])) fun t kt => by
    refine st277 _ ?_
    refine XS.ifNo X277.here hx rfl (hb hby d17_3) rfl ((if0 _ _).trans (feq (hcs : ¬ (cs = (0 : Int32)))).1) ?_
    refine XS.aloadN X277.here hx rfl (hb hby d17_6) rfl rfl ?_
    refine st278 _ ?_
    refine XS.ifYes X278.here hx rfl (pc0 := 10) (pc' := 17) rfl (hb hby d17_10) rfl ((if0 _ _).trans (feq (by decide : ¬ ((1 : Int32) = (0 : Int32)))).2) (by decide) (by decide) ?_
    refine XS.iconst X278.here hx rfl (hb hby d17_17) ?_
    exact kt
  refine own_lv X278 Bd.notSynchronized (v := some (.int 0)) (own_nv Bd.returns) pre279 (fun fs hr => retN X278 hx (t := .boolean) Bd.returns (by simp) (hb hby d17_18) hr) ?_
  show Q17U Z a1 cs h0 n0 _ T278.heap _
  rw [e278]
  exact ⟨rfl, N0, rfl⟩
theorem pd_3 : parseMethodDescriptor "()Z" = some ⟨[], some .boolean⟩ := by decide +kernel
theorem pd_4 : parseMethodDescriptor "([BI)C" = some ⟨[(.array .byte), .int], some .char⟩ := by decide +kernel
theorem d16_0 : decode jdk_42_method_56_code 0 = .ok (.aload_n 0, 1) := by decide +kernel
theorem d16_1 : decode jdk_42_method_56_code 1 = .ok (.invokevirtual 492, 3) := by decide +kernel
theorem d16_4 : decode jdk_42_method_56_code 4 = .ok (.ifCond .eq 12, 3) := by decide +kernel
theorem d16_7 : decode jdk_42_method_56_code 7 = .ok (.aload_n 0, 1) := by decide +kernel
theorem d16_8 : decode jdk_42_method_56_code 8 = .ok (.getfield 9, 3) := by decide +kernel
theorem d16_11 : decode jdk_42_method_56_code 11 = .ok (.iload_n 1, 1) := by decide +kernel
theorem d16_12 : decode jdk_42_method_56_code 12 = .ok (.invokestatic 495, 3) := by decide +kernel
theorem d16_15 : decode jdk_42_method_56_code 15 = .ok (.ireturn, 1) := by decide +kernel
theorem pn_16 : plainName "java/lang/String" = true := by first | (simp [plainName, overriddenIn]; done) | decide +kernel
theorem ef_16L (m : MethodId) (x0 : Addr) (x1 : Int32) : entryFrame m #[(.ref x0), (.int x1)] 2 = mkF m 0 #[.val (.ref x0), .val (.int x1)] [] := by first | (simp [entryFrame, mkF, argsToLocals, Value.category]; done) | rfl
def Q16L (Z : State) (a1 : Addr) (p2 : Int32) (wb : Addr) (cl : Cell) (zz : Int32) (w : Int32) (cs : Int32) (vf : Value) (h0 : Heap) (n0 : Nat) (v : Option Value) (h : Heap) (L : List Loc) : Prop := v = some (.int (nar .char (own_chr w))) ∧ Fr n0 L ∧ h = h0
theorem rm16L (l : Launch) (Z : State) (a0 : Array Value) (hw : own_H a0 Z) (ws : List Jvm.Cond) (a1 : Addr) (p2 : Int32) (wb : Addr) (cl : Cell) (zz : Int32) (w : Int32) (cs : Int32) (vf : Value) (h0 : Heap) (n0 : Nat) (Z0 : n0 ≤ h0.size) (E1 : Exa Z h0 a1 "java/lang/String") (FC : Fld Z h0 a1 "java/lang/String" "coder" "B" (.int (0 : Int32))) (FV : Fld Z h0 a1 "java/lang/String" "value" "[B" (.ref wb)) (Ar : Arr Z h0 wb cl .byte) (Sz : cl.slots.size = zz.toNatClampNeg) (Nz : ¬ zz < (0 : Int32)) (h1 : ¬ p2 < (0 : Int32)) (h2 : p2 < zz) (hat : cl.slots[p2.toNatClampNeg]? = some (.int w)) (SC : own_SC Z h0 cs) (hcs : ¬ cs = (0 : Int32)) (SF : Sta Z h0 "jdk/internal/util/Preconditions" "SIOOBE_FORMATTER" "Ljava/util/function/BiFunction;" vf) (hvf : vf.isRef = true) :
    own_M l Z (⟨"java/lang/String", "charAt", "(I)C"⟩ : MethodName) jdk_42_method_56_code 2 (some .char) ws ({ frames := 4, cells := 0, slots := 0, locals := 53 } : Room) #[(.ref a1), (.int p2)] h0 (Q16L Z a1 p2 wb cl zz w cs vf h0 n0) := by
  refine own_bd (n0 := n0) (plainFor_of_name pn_16) fun p e s m below meth c s₁ Bd hZ hx hby hml hown X0 e0 N0 => ?_
  have pre0 := own_p0 (tb := p.tables) (e := e) (below := below) (s := s₁) (ef_16L m a1 p2)
  obtain ⟨T280, L280, X280, e280, N280, st280⟩ := own_pV X0 hx hZ hml hown N0 (ow hw 73 rfl) (ow hw 74 rfl) (notFace_of_selects (args := #[]) (mvT hZ (ow hw 76 rfl))) (ow hw 76 rfl) (ow hw 75 rfl) (ow hw 22 rfl) (ow hw 77 rfl) e0 (rm17L l Z a0 hw [] a1 cs h0 n0 Z0 SC hcs FC) E1 (W := 0) (g := (mkF m 1 #[rv a1, iv p2] [(.ref a1)])) (argsL := []) (rest := []) (lenOf pd_3 rfl) (hb hby d16_1)
  obtain ⟨T281, X281, e281, st281⟩ := getF X280 hx hZ hown (host := "") (Or.inl (ow hw 47 rfl)) Via.refl e280 FV (g := (mkF m 8 #[rv a1, iv p2] [(.ref a1)])) rfl rfl (hb hby d16_8)
  obtain ⟨T282, L282, X282, e282, N282, st282⟩ := own_pS X281 hx hZ hml hown N280 (ow hw 78 rfl) (ow hw 79 rfl) (ow hw 80 rfl) (ow hw 81 rfl) e281 (rm18 l Z a0 hw [] wb p2 cl zz w vf h0 n0 Z0 Ar Sz Nz h1 h2 hat SF hvf) (W := 0) (g := (mkF m 12 #[rv a1, iv p2] [(.int p2), (.ref wb)])) (argsL := [(.ref wb), (.int p2)]) (rest := []) (lenOf pd_4 rfl) (hb hby d16_12)
  have pre283 := own_go pre0 (T282.setTop (mkF m 15 #[rv a1, iv p2] [(.int (own_chr w))])) fun t kt => by
    refine XS.aloadN X0.here hx rfl (hb hby d16_0) rfl rfl ?_
    refine st280 _ ?_
    refine XS.ifNo X280.here hx rfl (hb hby d16_4) rfl ((if0 _ _).trans (feq (by decide : ¬ ((1 : Int32) = (0 : Int32)))).1) ?_
    refine XS.aloadN X280.here hx rfl (hb hby d16_7) rfl rfl ?_
    refine st281 _ ?_
    refine XS.iloadN X281.here hx rfl (hb hby d16_11) rfl ?_
    refine st282 _ ?_
    exact kt
  refine own_lv X282 Bd.notSynchronized (v := some (.int (nar .char (own_chr w)))) (own_nv Bd.returns) pre283 (fun fs hr => retN X282 hx (t := .char) Bd.returns (by simp) (hb hby d16_15) hr) ?_
  show Q16L Z a1 p2 wb cl zz w cs vf h0 n0 _ T282.heap _
  rw [e282]
  exact ⟨rfl, N282, rfl⟩
theorem d31_0 : decode jdk_52_method_6_code 0 = .ok (.aload_n 0, 1) := by decide +kernel
theorem d31_1 : decode jdk_52_method_6_code 1 = .ok (.arraylength, 1) := by decide +kernel
theorem d31_2 : decode jdk_52_method_6_code 2 = .ok (.iconst 1, 1) := by decide +kernel
theorem d31_3 : decode jdk_52_method_6_code 3 = .ok (.ishr, 1) := by decide +kernel
theorem d31_4 : decode jdk_52_method_6_code 4 = .ok (.ireturn, 1) := by decide +kernel
theorem pn_31 : plainName "java/lang/StringUTF16" = true := by first | (simp [plainName, overriddenIn]; done) | decide +kernel
theorem ef_31 (m : MethodId) (x0 : Addr) : entryFrame m #[(.ref x0)] 1 = mkF m 0 #[.val (.ref x0)] [] := by first | (simp [entryFrame, mkF, argsToLocals, Value.category]; done) | rfl
def Q31 (Z : State) (a1 : Addr) (cl : Cell) (zz : Int32) (h0 : Heap) (n0 : Nat) (v : Option Value) (h : Heap) (L : List Loc) : Prop := v = some (.int (zz >>> ((1 : Int32) &&& 31))) ∧ Fr n0 L ∧ h = h0
theorem rm31 (l : Launch) (Z : State) (a0 : Array Value) (hw : own_H a0 Z) (ws : List Jvm.Cond) (a1 : Addr) (cl : Cell) (zz : Int32) (h0 : Heap) (n0 : Nat) (Z0 : n0 ≤ h0.size) (Ar : Arr Z h0 a1 cl .byte) (Sz : cl.slots.size = zz.toNatClampNeg) (Nz : ¬ zz < (0 : Int32)) :
    own_M l Z (⟨"java/lang/StringUTF16", "length", "([B)I"⟩ : MethodName) jdk_52_method_6_code 1 (some .int) ws ({ frames := 0, cells := 0, slots := 0, locals := 0 } : Room) #[(.ref a1)] h0 (Q31 Z a1 cl zz h0 n0) := by
  refine own_bd (n0 := n0) (plainFor_of_name pn_31) fun p e s m below meth c s₁ Bd hZ hx hby hml hown X0 e0 N0 => ?_
  have pre0 := own_p0 (tb := p.tables) (e := e) (below := below) (s := s₁) (ef_31 m a1)
  have pre284 := own_go pre0 (s₁.setTop (mkF m 4 #[rv a1] [(.int (zz >>> ((1 : Int32) &&& 31)))])) fun t kt => by
    refine XS.aloadN X0.here hx rfl (hb hby d31_0) rfl rfl ?_
    refine X0.arraylength hx (by rw [e0]; exact Ar.1) (State.isArrayOf_alike hZ.alike Ar.2.1) (g := (mkF m 1 #[rv a1] [(.ref a1)])) rfl rfl (hb hby d31_1) _ ?_
    rw [len_of Sz Nz]
    refine XS.iconst X0.here hx rfl (hb hby d31_2) ?_
    refine XS.ishr X0.here hx rfl (hb hby d31_3) rfl ?_
    exact kt
  refine own_lv X0 Bd.notSynchronized (v := some (.int (zz >>> ((1 : Int32) &&& 31)))) (own_nv Bd.returns) pre284 (fun fs hr => retI X0 hx Bd.returns (hb hby d31_4) hr) ?_
  show Q31 Z a1 cl zz h0 n0 _ s₁.heap _
  rw [e0]
  exact ⟨rfl, N0, rfl⟩
theorem pd_5 : parseMethodDescriptor "([B)I" = some ⟨[(.array .byte)], some .int⟩ := by decide +kernel
theorem d30_0 : decode jdk_52_method_91_code 0 = .ok (.iload_n 0, 1) := by decide +kernel
theorem d30_1 : decode jdk_52_method_91_code 1 = .ok (.aload_n 1, 1) := by decide +kernel
theorem d30_2 : decode jdk_52_method_91_code 2 = .ok (.invokestatic 48, 3) := by decide +kernel
theorem d30_5 : decode jdk_52_method_91_code 5 = .ok (.invokestatic 414, 3) := by decide +kernel
theorem d30_8 : decode jdk_52_method_91_code 8 = .ok (.return_, 1) := by decide +kernel
theorem pn_30 : plainName "java/lang/StringUTF16" = true := by first | (simp [plainName, overriddenIn]; done) | decide +kernel
theorem ef_30 (m : MethodId) (x0 : Int32) (x1 : Addr) : entryFrame m #[(.int x0), (.ref x1)] 2 = mkF m 0 #[.val (.int x0), .val (.ref x1)] [] := by first | (simp [entryFrame, mkF, argsToLocals, Value.category]; done) | rfl
def Q30 (Z : State) (p1 : Int32) (a2 : Addr) (cl : Cell) (zz : Int32) (vf : Value) (h0 : Heap) (n0 : Nat) (v : Option Value) (h : Heap) (L : List Loc) : Prop := v = none ∧ Fr n0 L ∧ h = h0
theorem rm30 (l : Launch) (Z : State) (a0 : Array Value) (hw : own_H a0 Z) (ws : List Jvm.Cond) (p1 : Int32) (a2 : Addr) (cl : Cell) (zz : Int32) (vf : Value) (h0 : Heap) (n0 : Nat) (Z0 : n0 ≤ h0.size) (Ar : Arr Z h0 a2 cl .byte) (Sz : cl.slots.size = zz.toNatClampNeg) (Nz : ¬ zz < (0 : Int32)) (h1 : ¬ p1 < (0 : Int32)) (h2 : p1 < (zz >>> ((1 : Int32) &&& 31))) (SF : Sta Z h0 "jdk/internal/util/Preconditions" "SIOOBE_FORMATTER" "Ljava/util/function/BiFunction;" vf) (hvf : vf.isRef = true) :
    own_M l Z (⟨"java/lang/StringUTF16", "checkIndex", "(I[B)V"⟩ : MethodName) jdk_52_method_91_code 2 none ws ({ frames := 2, cells := 0, slots := 0, locals := 27 } : Room) #[(.int p1), (.ref a2)] h0 (Q30 Z p1 a2 cl zz vf h0 n0) := by
  refine own_bd (n0 := n0) (plainFor_of_name pn_30) fun p e s m below meth c s₁ Bd hZ hx hby hml hown X0 e0 N0 => ?_
  have pre0 := own_p0 (tb := p.tables) (e := e) (below := below) (s := s₁) (ef_30 m p1 a2)
  obtain ⟨T285, L285, X285, e285, N285, st285⟩ := own_pS X0 hx hZ hml hown N0 (ow hw 131 rfl) (ow hw 132 rfl) (ow hw 36 rfl) (ow hw 133 rfl) e0 (rm31 l Z a0 hw [] a2 cl zz h0 n0 Z0 Ar Sz Nz) (W := 1) (g := (mkF m 2 #[iv p1, rv a2] [(.ref a2), (.int p1)])) (argsL := [(.ref a2)]) (rest := [(.int p1)]) (lenOf pd_5 rfl) (hb hby d30_2)
  obtain ⟨T286, L286, X286, e286, N286, st286⟩ := own_pS X285 hx hZ hml hown N285 (ow hw 134 rfl) (ow hw 83 rfl) (ow hw 22 rfl) (ow hw 84 rfl) e285 (rm19 l Z a0 hw [] p1 (zz >>> ((1 : Int32) &&& 31)) vf h0 n0 Z0 SF hvf h1 h2) (W := 0) (g := (mkF m 5 #[iv p1, rv a2] [(.int (zz >>> ((1 : Int32) &&& 31))), (.int p1)])) (argsL := [(.int p1), (.int (zz >>> ((1 : Int32) &&& 31)))]) (rest := []) (lenOf pd_2 rfl) (hb hby d30_5)
  have pre287 := own_go pre0 (T286.setTop (mkF m 8 #[iv p1, rv a2] [])) fun t kt => by
    refine XS.iloadN X0.here hx rfl (hb hby d30_0) rfl ?_
    refine XS.aloadN X0.here hx rfl (hb hby d30_1) rfl rfl ?_
    refine st285 _ ?_
    refine st286 _ ?_
    exact kt
  refine own_lv X286 Bd.notSynchronized (v := none) (fun _ => rfl) pre287 (fun fs hr => X286.returnOut hx Bd.returns (hb hby d30_8) hr) ?_
  show Q30 Z p1 a2 cl zz vf h0 n0 _ T286.heap _
  rw [e286]
  exact ⟨rfl, N286, rfl⟩
theorem d28_0 : decode jdk_52_method_5_code 0 = .ok (.getstatic 44, 3) := by decide +kernel
theorem d28_3 : decode jdk_52_method_5_code 3 = .ok (.ifCond .ne 25, 3) := by decide +kernel
theorem d28_28 : decode jdk_52_method_5_code 28 = .ok (.iload_n 1, 1) := by decide +kernel
theorem d28_29 : decode jdk_52_method_5_code 29 = .ok (.iconst 1, 1) := by decide +kernel
theorem d28_30 : decode jdk_52_method_5_code 30 = .ok (.ishl, 1) := by decide +kernel
theorem d28_31 : decode jdk_52_method_5_code 31 = .ok (.istore_n 1, 1) := by decide +kernel
theorem d28_32 : decode jdk_52_method_5_code 32 = .ok (.aload_n 0, 1) := by decide +kernel
theorem d28_33 : decode jdk_52_method_5_code 33 = .ok (.iload_n 1, 1) := by decide +kernel
theorem d28_34 : decode jdk_52_method_5_code 34 = .ok (.iinc 1 1, 3) := by decide +kernel
theorem d28_37 : decode jdk_52_method_5_code 37 = .ok (.baload, 1) := by decide +kernel
theorem d28_38 : decode jdk_52_method_5_code 38 = .ok (.sipush 255, 3) := by decide +kernel
theorem d28_41 : decode jdk_52_method_5_code 41 = .ok (.iand, 1) := by decide +kernel
theorem d28_42 : decode jdk_52_method_5_code 42 = .ok (.getstatic 59, 3) := by decide +kernel
theorem d28_45 : decode jdk_52_method_5_code 45 = .ok (.ishl, 1) := by decide +kernel
theorem d28_46 : decode jdk_52_method_5_code 46 = .ok (.aload_n 0, 1) := by decide +kernel
theorem d28_47 : decode jdk_52_method_5_code 47 = .ok (.iload_n 1, 1) := by decide +kernel
theorem d28_48 : decode jdk_52_method_5_code 48 = .ok (.baload, 1) := by decide +kernel
theorem d28_49 : decode jdk_52_method_5_code 49 = .ok (.sipush 255, 3) := by decide +kernel
theorem d28_52 : decode jdk_52_method_5_code 52 = .ok (.iand, 1) := by decide +kernel
theorem d28_53 : decode jdk_52_method_5_code 53 = .ok (.getstatic 63, 3) := by decide +kernel
theorem d28_56 : decode jdk_52_method_5_code 56 = .ok (.ishl, 1) := by decide +kernel
theorem d28_57 : decode jdk_52_method_5_code 57 = .ok (.ior, 1) := by decide +kernel
theorem d28_58 : decode jdk_52_method_5_code 58 = .ok (.i2c, 1) := by decide +kernel
theorem d28_59 : decode jdk_52_method_5_code 59 = .ok (.ireturn, 1) := by decide +kernel
theorem pn_28 : plainName "java/lang/StringUTF16" = true := by first | (simp [plainName, overriddenIn]; done) | decide +kernel
theorem ef_28 (m : MethodId) (x0 : Addr) (x1 : Int32) : entryFrame m #[(.ref x0), (.int x1)] 2 = mkF m 0 #[.val (.ref x0), .val (.int x1)] [] := by first | (simp [entryFrame, mkF, argsToLocals, Value.category]; done) | rfl
def Q28 (Z : State) (a1 : Addr) (p2 : Int32) (cl : Cell) (zz : Int32) (lo : Int32) (hi : Int32) (h0 : Heap) (n0 : Nat) (v : Option Value) (h : Heap) (L : List Loc) : Prop := v = some (.int (own_gc lo hi)) ∧ Fr n0 L ∧ h = h0
theorem rm28 (l : Launch) (Z : State) (a0 : Array Value) (hw : own_H a0 Z) (ws : List Jvm.Cond) (a1 : Addr) (p2 : Int32) (cl : Cell) (zz : Int32) (lo : Int32) (hi : Int32) (h0 : Heap) (n0 : Nat) (Z0 : n0 ≤ h0.size) (Ar : Arr Z h0 a1 cl .byte) (Sz : cl.slots.size = zz.toNatClampNeg) (Nz : ¬ zz < (0 : Int32)) (in1 : ¬ ((p2 <<< ((1 : Int32) &&& 31)) < 0 ∨ cl.slots.size ≤ ((p2 <<< ((1 : Int32) &&& 31))).toNatClampNeg)) (at1 : cl.slots[((p2 <<< ((1 : Int32) &&& 31))).toNatClampNeg]? = some (.int lo)) (in2 : ¬ (((p2 <<< ((1 : Int32) &&& 31)) + (1 : Int32)) < 0 ∨ cl.slots.size ≤ (((p2 <<< ((1 : Int32) &&& 31)) + (1 : Int32))).toNatClampNeg)) (at2 : cl.slots[(((p2 <<< ((1 : Int32) &&& 31)) + (1 : Int32))).toNatClampNeg]? = some (.int hi)) (SA : own_SA Z h0) (SH : own_SH Z h0) (SL : own_SL Z h0) :
    own_M l Z (⟨"java/lang/StringUTF16", "getChar", "([BI)C"⟩ : MethodName) jdk_52_method_5_code 2 (some .char) ws ({ frames := 0, cells := 0, slots := 0, locals := 0 } : Room) #[(.ref a1), (.int p2)] h0 (Q28 Z a1 p2 cl zz lo hi h0 n0) := by
  refine own_bd (n0 := n0) (plainFor_of_name pn_28) fun p e s m below meth c s₁ Bd hZ hx hby hml hown X0 e0 N0 => ?_
  have pre0 := own_p0 (tb := p.tables) (e := e) (below := below) (s := s₁) (ef_28 m a1 p2)
  obtain ⟨T288, X288, e288, st288⟩ := getS2 X0 hx hZ hown (host := "") (Or.inl (ow hw 119 rfl)) Via.refl e0 SA (g := (mkF m 0 #[rv a1, iv p2] [])) rfl (hb hby d28_0)
  obtain ⟨T289, X289, e289, st289⟩ := getS2 X288 hx hZ hown (host := "") (Or.inl (ow hw 120 rfl)) Via.refl e288 SH (g := (mkF m 42 #[rv a1, iv ((p2 <<< ((1 : Int32) &&& 31)) + (1 : Int32))] [(.int (lo &&& (255 : Int32)))])) rfl (hb hby d28_42)
  obtain ⟨T290, X290, e290, st290⟩ := getS2 X289 hx hZ hown (host := "") (Or.inl (ow hw 121 rfl)) Via.refl e289 SL (g := (mkF m 53 #[rv a1, iv ((p2 <<< ((1 : Int32) &&& 31)) + (1 : Int32))] [(.int (hi &&& (255 : Int32))), (.int ((lo &&& (255 : Int32)) <<< ((0 : Int32) &&& 31)))])) rfl (hb hby d28_53)
  have pre291 := own_go pre0 (T290.setTop (mkF m 59 #[rv a1, iv ((p2 <<< ((1 : Int32) &&& 31)) + (1 : Int32))] [(.int ((((lo &&& (255 : Int32)) <<< ((0 : Int32) &&& 31)) ||| ((hi &&& (255 : Int32)) <<< ((8 : Int32) &&& 31))).toUInt32.toUInt16.toUInt32.toInt32))])) fun t kt => by
    refine st288 _ ?_
    refine XS.ifYes X288.here hx rfl (pc0 := 3) (pc' := 28) rfl (hb hby d28_3) rfl ((if0 _ _).trans (feq (by decide : ¬ ((1 : Int32) = (0 : Int32)))).2) (by decide) (by decide) ?_
    refine XS.iloadN X288.here hx rfl (hb hby d28_28) rfl ?_
    refine XS.iconst X288.here hx rfl (hb hby d28_29) ?_
    refine XS.ishl X288.here hx rfl (hb hby d28_30) rfl ?_
    refine XS.istoreN X288.here hx rfl (hb hby d28_31) rfl (l' := #[rv a1, iv (p2 <<< ((1 : Int32) &&& 31))]) rfl ?_
    refine XS.aloadN X288.here hx rfl (hb hby d28_32) rfl rfl ?_
    refine XS.iloadN X288.here hx rfl (hb hby d28_33) rfl ?_
    refine XS.iinc X288.here hx rfl (hb hby d28_34) rfl (l' := #[rv a1, iv ((p2 <<< ((1 : Int32) &&& 31)) + (1 : Int32))]) rfl ?_
    refine X288.baloadBytes hx (j := (p2 <<< ((1 : Int32) &&& 31))) (v := .int lo) (by rw [e288]; exact Ar.1) (State.isArrayOf_alike hZ.alike Ar.2.1) Ar.2.2 in1 at1 (g := (mkF m 37 #[rv a1, iv ((p2 <<< ((1 : Int32) &&& 31)) + (1 : Int32))] [(.int (p2 <<< ((1 : Int32) &&& 31))), (.ref a1)])) rfl rfl (hb hby d28_37) _ ?_
    refine XS.sipush X288.here hx rfl (hb hby d28_38) ?_
    refine XS.iand X288.here hx rfl (hb hby d28_41) rfl ?_
    refine st289 _ ?_
    refine XS.ishl X289.here hx rfl (hb hby d28_45) rfl ?_
    refine XS.aloadN X289.here hx rfl (hb hby d28_46) rfl rfl ?_
    refine XS.iloadN X289.here hx rfl (hb hby d28_47) rfl ?_
    refine X289.baloadBytes hx (j := ((p2 <<< ((1 : Int32) &&& 31)) + (1 : Int32))) (v := .int hi) (by rw [e289]; exact Ar.1) (State.isArrayOf_alike hZ.alike Ar.2.1) Ar.2.2 in2 at2 (g := (mkF m 48 #[rv a1, iv ((p2 <<< ((1 : Int32) &&& 31)) + (1 : Int32))] [(.int ((p2 <<< ((1 : Int32) &&& 31)) + (1 : Int32))), (.ref a1), (.int ((lo &&& (255 : Int32)) <<< ((0 : Int32) &&& 31)))])) rfl rfl (hb hby d28_48) _ ?_
    refine XS.sipush X289.here hx rfl (hb hby d28_49) ?_
    refine XS.iand X289.here hx rfl (hb hby d28_52) rfl ?_
    refine st290 _ ?_
    refine XS.ishl X290.here hx rfl (hb hby d28_56) rfl ?_
    refine XS.ior X290.here hx rfl (hb hby d28_57) rfl ?_
    refine XS.i2c X290.here hx rfl (hb hby d28_58) rfl ?_
    exact kt
  refine own_lv X290 Bd.notSynchronized (v := some (.int (nar .char ((((lo &&& (255 : Int32)) <<< ((0 : Int32) &&& 31)) ||| ((hi &&& (255 : Int32)) <<< ((8 : Int32) &&& 31))).toUInt32.toUInt16.toUInt32.toInt32)))) (own_nv Bd.returns) pre291 (fun fs hr => retN X290 hx (t := .char) Bd.returns (by simp) (hb hby d28_59) hr) ?_
  show Q28 Z a1 p2 cl zz lo hi h0 n0 _ T290.heap _
  rw [e290]
  exact ⟨rfl, N0, rfl⟩
theorem pd_6 : parseMethodDescriptor "(I[B)V" = some ⟨[.int, (.array .byte)], none⟩ := by decide +kernel
theorem d29_0 : decode jdk_52_method_83_code 0 = .ok (.iload_n 1, 1) := by decide +kernel
theorem d29_1 : decode jdk_52_method_83_code 1 = .ok (.aload_n 0, 1) := by decide +kernel
theorem d29_2 : decode jdk_52_method_83_code 2 = .ok (.invokestatic 67, 3) := by decide +kernel
theorem d29_5 : decode jdk_52_method_83_code 5 = .ok (.aload_n 0, 1) := by decide +kernel
theorem d29_6 : decode jdk_52_method_83_code 6 = .ok (.iload_n 1, 1) := by decide +kernel
theorem d29_7 : decode jdk_52_method_83_code 7 = .ok (.invokestatic 71, 3) := by decide +kernel
theorem d29_10 : decode jdk_52_method_83_code 10 = .ok (.ireturn, 1) := by decide +kernel
theorem pn_29 : plainName "java/lang/StringUTF16" = true := by first | (simp [plainName, overriddenIn]; done) | decide +kernel
theorem ef_29 (m : MethodId) (x0 : Addr) (x1 : Int32) : entryFrame m #[(.ref x0), (.int x1)] 2 = mkF m 0 #[.val (.ref x0), .val (.int x1)] [] := by first | (simp [entryFrame, mkF, argsToLocals, Value.category]; done) | rfl
def Q29 (Z : State) (a1 : Addr) (p2 : Int32) (cl : Cell) (zz : Int32) (lo : Int32) (hi : Int32) (vf : Value) (h0 : Heap) (n0 : Nat) (v : Option Value) (h : Heap) (L : List Loc) : Prop := v = some (.int (nar .char (own_gc lo hi))) ∧ Fr n0 L ∧ h = h0
theorem rm29 (l : Launch) (Z : State) (a0 : Array Value) (hw : own_H a0 Z) (ws : List Jvm.Cond) (a1 : Addr) (p2 : Int32) (cl : Cell) (zz : Int32) (lo : Int32) (hi : Int32) (vf : Value) (h0 : Heap) (n0 : Nat) (Z0 : n0 ≤ h0.size) (Ar : Arr Z h0 a1 cl .byte) (Sz : cl.slots.size = zz.toNatClampNeg) (Nz : ¬ zz < (0 : Int32)) (h1 : ¬ p2 < (0 : Int32)) (h2 : p2 < (zz >>> ((1 : Int32) &&& 31))) (in1 : ¬ ((p2 <<< ((1 : Int32) &&& 31)) < 0 ∨ cl.slots.size ≤ ((p2 <<< ((1 : Int32) &&& 31))).toNatClampNeg)) (at1 : cl.slots[((p2 <<< ((1 : Int32) &&& 31))).toNatClampNeg]? = some (.int lo)) (in2 : ¬ (((p2 <<< ((1 : Int32) &&& 31)) + (1 : Int32)) < 0 ∨ cl.slots.size ≤ (((p2 <<< ((1 : Int32) &&& 31)) + (1 : Int32))).toNatClampNeg)) (at2 : cl.slots[(((p2 <<< ((1 : Int32) &&& 31)) + (1 : Int32))).toNatClampNeg]? = some (.int hi)) (SA : own_SA Z h0) (SH : own_SH Z h0) (SL : own_SL Z h0) (SF : Sta Z h0 "jdk/internal/util/Preconditions" "SIOOBE_FORMATTER" "Ljava/util/function/BiFunction;" vf) (hvf : vf.isRef = true) :
    own_M l Z (⟨"java/lang/StringUTF16", "charAt", "([BI)C"⟩ : MethodName) jdk_52_method_83_code 2 (some .char) ws ({ frames := 3, cells := 0, slots := 0, locals := 40 } : Room) #[(.ref a1), (.int p2)] h0 (Q29 Z a1 p2 cl zz lo hi vf h0 n0) := by
  refine own_bd (n0 := n0) (plainFor_of_name pn_29) fun p e s m below meth c s₁ Bd hZ hx hby hml hown X0 e0 N0 => ?_
  have pre0 := own_p0 (tb := p.tables) (e := e) (below := below) (s := s₁) (ef_29 m a1 p2)
  obtain ⟨T292, L292, X292, e292, N292, st292⟩ := own_pS X0 hx hZ hml hown N0 (ow hw 128 rfl) (ow hw 129 rfl) (ow hw 36 rfl) (ow hw 130 rfl) e0 (rm30 l Z a0 hw [] p2 a1 cl zz vf h0 n0 Z0 Ar Sz Nz h1 h2 SF hvf) (W := 0) (g := (mkF m 2 #[rv a1, iv p2] [(.ref a1), (.int p2)])) (argsL := [(.int p2), (.ref a1)]) (rest := []) (lenOf pd_6 rfl) (hb hby d29_2)
  obtain ⟨T293, L293, X293, e293, N293, st293⟩ := own_pS X292 hx hZ hml hown N292 (ow hw 122 rfl) (ow hw 123 rfl) (ow hw 36 rfl) (ow hw 124 rfl) e292 (rm28 l Z a0 hw [] a1 p2 cl zz lo hi h0 n0 Z0 Ar Sz Nz in1 at1 in2 at2 SA SH SL) (W := 0) (g := (mkF m 7 #[rv a1, iv p2] [(.int p2), (.ref a1)])) (argsL := [(.ref a1), (.int p2)]) (rest := []) (lenOf pd_4 rfl) (hb hby d29_7)
  have pre294 := own_go pre0 (T293.setTop (mkF m 10 #[rv a1, iv p2] [(.int (own_gc lo hi))])) fun t kt => by
    refine XS.iloadN X0.here hx rfl (hb hby d29_0) rfl ?_
    refine XS.aloadN X0.here hx rfl (hb hby d29_1) rfl rfl ?_
    refine st292 _ ?_
    refine XS.aloadN X292.here hx rfl (hb hby d29_5) rfl rfl ?_
    refine XS.iloadN X292.here hx rfl (hb hby d29_6) rfl ?_
    refine st293 _ ?_
    exact kt
  refine own_lv X293 Bd.notSynchronized (v := some (.int (nar .char (own_gc lo hi)))) (own_nv Bd.returns) pre294 (fun fs hr => retN X293 hx (t := .char) Bd.returns (by simp) (hb hby d29_10) hr) ?_
  show Q29 Z a1 p2 cl zz lo hi vf h0 n0 _ T293.heap _
  rw [e293]
  exact ⟨rfl, N293, rfl⟩
theorem d16_16 : decode jdk_42_method_56_code 16 = .ok (.aload_n 0, 1) := by decide +kernel
theorem d16_17 : decode jdk_42_method_56_code 17 = .ok (.getfield 9, 3) := by decide +kernel
theorem d16_20 : decode jdk_42_method_56_code 20 = .ok (.iload_n 1, 1) := by decide +kernel
theorem d16_21 : decode jdk_42_method_56_code 21 = .ok (.invokestatic 498, 3) := by decide +kernel
theorem d16_24 : decode jdk_42_method_56_code 24 = .ok (.ireturn, 1) := by decide +kernel
def Q16U (Z : State) (a1 : Addr) (p2 : Int32) (wb : Addr) (cl : Cell) (zz : Int32) (lo : Int32) (hi : Int32) (vf : Value) (cs : Int32) (h0 : Heap) (n0 : Nat) (v : Option Value) (h : Heap) (L : List Loc) : Prop := v = some (.int (nar .char (nar .char (own_gc lo hi)))) ∧ Fr n0 L ∧ h = h0
theorem rm16U (l : Launch) (Z : State) (a0 : Array Value) (hw : own_H a0 Z) (ws : List Jvm.Cond) (a1 : Addr) (p2 : Int32) (wb : Addr) (cl : Cell) (zz : Int32) (lo : Int32) (hi : Int32) (vf : Value) (cs : Int32) (h0 : Heap) (n0 : Nat) (Z0 : n0 ≤ h0.size) (E1 : Exa Z h0 a1 "java/lang/String") (FC : Fld Z h0 a1 "java/lang/String" "coder" "B" (.int (1 : Int32))) (FV : Fld Z h0 a1 "java/lang/String" "value" "[B" (.ref wb)) (Ar : Arr Z h0 wb cl .byte) (Sz : cl.slots.size = zz.toNatClampNeg) (Nz : ¬ zz < (0 : Int32)) (h1 : ¬ p2 < (0 : Int32)) (h2 : p2 < (zz >>> ((1 : Int32) &&& 31))) (in1 : ¬ ((p2 <<< ((1 : Int32) &&& 31)) < 0 ∨ cl.slots.size ≤ ((p2 <<< ((1 : Int32) &&& 31))).toNatClampNeg)) (at1 : cl.slots[((p2 <<< ((1 : Int32) &&& 31))).toNatClampNeg]? = some (.int lo)) (in2 : ¬ (((p2 <<< ((1 : Int32) &&& 31)) + (1 : Int32)) < 0 ∨ cl.slots.size ≤ (((p2 <<< ((1 : Int32) &&& 31)) + (1 : Int32))).toNatClampNeg)) (at2 : cl.slots[(((p2 <<< ((1 : Int32) &&& 31)) + (1 : Int32))).toNatClampNeg]? = some (.int hi)) (SA : own_SA Z h0) (SH : own_SH Z h0) (SL : own_SL Z h0) (SF : Sta Z h0 "jdk/internal/util/Preconditions" "SIOOBE_FORMATTER" "Ljava/util/function/BiFunction;" vf) (hvf : vf.isRef = true) (SC : own_SC Z h0 cs) (hcs : ¬ cs = (0 : Int32)) :
    own_M l Z (⟨"java/lang/String", "charAt", "(I)C"⟩ : MethodName) jdk_42_method_56_code 2 (some .char) ws ({ frames := 4, cells := 0, slots := 0, locals := 53 } : Room) #[(.ref a1), (.int p2)] h0 (Q16U Z a1 p2 wb cl zz lo hi vf cs h0 n0) := by
  refine own_bd (n0 := n0) (plainFor_of_name pn_16) fun p e s m below meth c s₁ Bd hZ hx hby hml hown X0 e0 N0 => ?_
  have pre0 := own_p0 (tb := p.tables) (e := e) (below := below) (s := s₁) (ef_16L m a1 p2)
  obtain ⟨T295, L295, X295, e295, N295, st295⟩ := own_pV X0 hx hZ hml hown N0 (ow hw 73 rfl) (ow hw 74 rfl) (notFace_of_selects (args := #[]) (mvT hZ (ow hw 76 rfl))) (ow hw 76 rfl) (ow hw 75 rfl) (ow hw 22 rfl) (ow hw 77 rfl) e0 (rm17U l Z a0 hw [] a1 cs h0 n0 Z0 SC hcs FC) E1 (W := 0) (g := (mkF m 1 #[rv a1, iv p2] [(.ref a1)])) (argsL := []) (rest := []) (lenOf pd_3 rfl) (hb hby d16_1)
  obtain ⟨T296, X296, e296, st296⟩ := getF X295 hx hZ hown (host := "") (Or.inl (ow hw 47 rfl)) Via.refl e295 FV (g := (mkF m 17 #[rv a1, iv p2] [(.ref a1)])) rfl rfl (hb hby d16_17)
  obtain ⟨T297, L297, X297, e297, N297, st297⟩ := own_pS X296 hx hZ hml hown N295 (ow hw 125 rfl) (ow hw 126 rfl) (ow hw 36 rfl) (ow hw 127 rfl) e296 (rm29 l Z a0 hw [] wb p2 cl zz lo hi vf h0 n0 Z0 Ar Sz Nz h1 h2 in1 at1 in2 at2 SA SH SL SF hvf) (W := 0) (g := (mkF m 21 #[rv a1, iv p2] [(.int p2), (.ref wb)])) (argsL := [(.ref wb), (.int p2)]) (rest := []) (lenOf pd_4 rfl) (hb hby d16_21)
  have pre298 := own_go pre0 (T297.setTop (mkF m 24 #[rv a1, iv p2] [(.int (nar .char (own_gc lo hi)))])) fun t kt => by
    refine XS.aloadN X0.here hx rfl (hb hby d16_0) rfl rfl ?_
    refine st295 _ ?_
    refine XS.ifYes X295.here hx rfl (pc0 := 4) (pc' := 16) rfl (hb hby d16_4) rfl ((if0 _ _).trans (teq (by decide : (0 : Int32) = (0 : Int32))).1) (by decide) (by decide) ?_
    refine XS.aloadN X295.here hx rfl (hb hby d16_16) rfl rfl ?_
    refine st296 _ ?_
    refine XS.iloadN X296.here hx rfl (hb hby d16_20) rfl ?_
    refine st297 _ ?_
    exact kt
  refine own_lv X297 Bd.notSynchronized (v := some (.int (nar .char (nar .char (own_gc lo hi))))) (own_nv Bd.returns) pre298 (fun fs hr => retN X297 hx (t := .char) Bd.returns (by simp) (hb hby d16_24) hr) ?_
  show Q16U Z a1 p2 wb cl zz lo hi vf cs h0 n0 _ T297.heap _
  rw [e297]
  exact ⟨rfl, N297, rfl⟩
theorem d15_0 : decode jdk_42_method_152_code 0 = .ok (.getstatic 38, 3) := by decide +kernel
theorem d15_3 : decode jdk_42_method_152_code 3 = .ok (.ifCond .eq 10, 3) := by decide +kernel
theorem d15_6 : decode jdk_42_method_152_code 6 = .ok (.aload_n 0, 1) := by decide +kernel
theorem d15_7 : decode jdk_42_method_152_code 7 = .ok (.getfield 15, 3) := by decide +kernel
theorem d15_10 : decode jdk_42_method_152_code 10 = .ok (.goto 4, 3) := by decide +kernel
theorem d15_14 : decode jdk_42_method_152_code 14 = .ok (.ireturn, 1) := by decide +kernel
theorem pn_15 : plainName "java/lang/String" = true := by first | (simp [plainName, overriddenIn]; done) | decide +kernel
theorem ef_15L (m : MethodId) (x0 : Addr) : entryFrame m #[(.ref x0)] 1 = mkF m 0 #[.val (.ref x0)] [] := by first | (simp [entryFrame, mkF, argsToLocals, Value.category]; done) | rfl
def Q15L (Z : State) (a1 : Addr) (cs : Int32) (h0 : Heap) (n0 : Nat) (v : Option Value) (h : Heap) (L : List Loc) : Prop := v = some (.int 0) ∧ Fr n0 L ∧ h = h0
theorem rm15L (l : Launch) (Z : State) (a0 : Array Value) (hw : own_H a0 Z) (ws : List Jvm.Cond) (a1 : Addr) (cs : Int32) (h0 : Heap) (n0 : Nat) (Z0 : n0 ≤ h0.size) (SC : own_SC Z h0 cs) (hcs : ¬ cs = (0 : Int32)) (FC : Fld Z h0 a1 "java/lang/String" "coder" "B" (.int (0 : Int32))) :
    own_M l Z (⟨"java/lang/String", "coder", "()B"⟩ : MethodName) jdk_42_method_152_code 1 (some .byte) ws ({ frames := 0, cells := 0, slots := 0, locals := 0 } : Room) #[(.ref a1)] h0 (Q15L Z a1 cs h0 n0) := by
  refine own_bd (n0 := n0) (plainFor_of_name pn_15) fun p e s m below meth c s₁ Bd hZ hx hby hml hown X0 e0 N0 => ?_
  have pre0 := own_p0 (tb := p.tables) (e := e) (below := below) (s := s₁) (ef_15L m a1)
  obtain ⟨T299, X299, e299, st299⟩ := getS2 X0 hx hZ hown (host := "") (Or.inl (ow hw 33 rfl)) Via.refl e0 SC (g := (mkF m 0 #[rv a1] [])) rfl (hb hby d15_0)
  obtain ⟨T300, X300, e300, st300⟩ := getF X299 hx hZ hown (host := "") (Or.inl (ow hw 45 rfl)) Via.refl e299 FC (g := (mkF m 7 #[rv a1] [(.ref a1)])) rfl rfl (hb hby d15_7)
  have pre301 := own_go pre0 (T300.setTop (mkF m 14 #[rv a1] [(.int 0)])) fun t kt => by
    refine st299 _ ?_
    refine XS.ifNo X299.here hx rfl (hb hby d15_3) rfl ((if0 _ _).trans (feq (hcs : ¬ (cs = (0 : Int32)))).1) ?_
    refine XS.aloadN X299.here hx rfl (hb hby d15_6) rfl rfl ?_
    refine st300 _ ?_
    refine XS.goto X300.here hx rfl (pc0 := 10) (pc' := 14) rfl (hb hby d15_10) (by decide) (by decide) ?_
    exact kt
  refine own_lv X300 Bd.notSynchronized (v := some (.int 0)) (own_nv Bd.returns) pre301 (fun fs hr => retN X300 hx (t := .byte) Bd.returns (by simp) (hb hby d15_14) hr) ?_
  show Q15L Z a1 cs h0 n0 _ T300.heap _
  rw [e300]
  exact ⟨rfl, N0, rfl⟩
def Q15U (Z : State) (a1 : Addr) (cs : Int32) (h0 : Heap) (n0 : Nat) (v : Option Value) (h : Heap) (L : List Loc) : Prop := v = some (.int 1) ∧ Fr n0 L ∧ h = h0
theorem rm15U (l : Launch) (Z : State) (a0 : Array Value) (hw : own_H a0 Z) (ws : List Jvm.Cond) (a1 : Addr) (cs : Int32) (h0 : Heap) (n0 : Nat) (Z0 : n0 ≤ h0.size) (SC : own_SC Z h0 cs) (hcs : ¬ cs = (0 : Int32)) (FC : Fld Z h0 a1 "java/lang/String" "coder" "B" (.int (1 : Int32))) :
    own_M l Z (⟨"java/lang/String", "coder", "()B"⟩ : MethodName) jdk_42_method_152_code 1 (some .byte) ws ({ frames := 0, cells := 0, slots := 0, locals := 0 } : Room) #[(.ref a1)] h0 (Q15U Z a1 cs h0 n0) := by
  refine own_bd (n0 := n0) (plainFor_of_name pn_15) fun p e s m below meth c s₁ Bd hZ hx hby hml hown X0 e0 N0 => ?_
  have pre0 := own_p0 (tb := p.tables) (e := e) (below := below) (s := s₁) (ef_15L m a1)
  obtain ⟨T302, X302, e302, st302⟩ := getS2 X0 hx hZ hown (host := "") (Or.inl (ow hw 33 rfl)) Via.refl e0 SC (g := (mkF m 0 #[rv a1] [])) rfl (hb hby d15_0)
  obtain ⟨T303, X303, e303, st303⟩ := getF X302 hx hZ hown (host := "") (Or.inl (ow hw 45 rfl)) Via.refl e302 FC (g := (mkF m 7 #[rv a1] [(.ref a1)])) rfl rfl (hb hby d15_7)
  have pre304 := own_go pre0 (T303.setTop (mkF m 14 #[rv a1] [(.int 1)])) fun t kt => by
    refine st302 _ ?_
    refine XS.ifNo X302.here hx rfl (hb hby d15_3) rfl ((if0 _ _).trans (feq (hcs : ¬ (cs = (0 : Int32)))).1) ?_
    refine XS.aloadN X302.here hx rfl (hb hby d15_6) rfl rfl ?_
    refine st303 _ ?_
    refine XS.goto X303.here hx rfl (pc0 := 10) (pc' := 14) rfl (hb hby d15_10) (by decide) (by decide) ?_
    exact kt
  refine own_lv X303 Bd.notSynchronized (v := some (.int 1)) (own_nv Bd.returns) pre304 (fun fs hr => retN X303 hx (t := .byte) Bd.returns (by simp) (hb hby d15_14) hr) ?_
  show Q15U Z a1 cs h0 n0 _ T303.heap _
  rw [e303]
  exact ⟨rfl, N0, rfl⟩
theorem pd_7 : parseMethodDescriptor "()B" = some ⟨[], some .byte⟩ := by decide +kernel
theorem d14_0 : decode jdk_42_method_54_code 0 = .ok (.aload_n 0, 1) := by decide +kernel
theorem d14_1 : decode jdk_42_method_54_code 1 = .ok (.getfield 9, 3) := by decide +kernel
theorem d14_4 : decode jdk_42_method_54_code 4 = .ok (.arraylength, 1) := by decide +kernel
theorem d14_5 : decode jdk_42_method_54_code 5 = .ok (.aload_n 0, 1) := by decide +kernel
theorem d14_6 : decode jdk_42_method_54_code 6 = .ok (.invokevirtual 335, 3) := by decide +kernel
theorem d14_9 : decode jdk_42_method_54_code 9 = .ok (.ishr, 1) := by decide +kernel
theorem d14_10 : decode jdk_42_method_54_code 10 = .ok (.ireturn, 1) := by decide +kernel
theorem pn_14 : plainName "java/lang/String" = true := by first | (simp [plainName, overriddenIn]; done) | decide +kernel
theorem ef_14L (m : MethodId) (x0 : Addr) : entryFrame m #[(.ref x0)] 1 = mkF m 0 #[.val (.ref x0)] [] := by first | (simp [entryFrame, mkF, argsToLocals, Value.category]; done) | rfl
def Q14L (Z : State) (a1 : Addr) (wb : Addr) (cl : Cell) (zz : Int32) (cs : Int32) (h0 : Heap) (n0 : Nat) (v : Option Value) (h : Heap) (L : List Loc) : Prop := v = some (.int (zz >>> ((0 : Int32) &&& 31))) ∧ Fr n0 L ∧ h = h0
theorem rm14L (l : Launch) (Z : State) (a0 : Array Value) (hw : own_H a0 Z) (ws : List Jvm.Cond) (a1 : Addr) (wb : Addr) (cl : Cell) (zz : Int32) (cs : Int32) (h0 : Heap) (n0 : Nat) (Z0 : n0 ≤ h0.size) (E1 : Exa Z h0 a1 "java/lang/String") (FC : Fld Z h0 a1 "java/lang/String" "coder" "B" (.int (0 : Int32))) (FV : Fld Z h0 a1 "java/lang/String" "value" "[B" (.ref wb)) (Ar : Arr Z h0 wb cl .byte) (Sz : cl.slots.size = zz.toNatClampNeg) (Nz : ¬ zz < (0 : Int32)) (SC : own_SC Z h0 cs) (hcs : ¬ cs = (0 : Int32)) :
    own_M l Z (⟨"java/lang/String", "length", "()I"⟩ : MethodName) jdk_42_method_54_code 1 (some .int) ws ({ frames := 1, cells := 0, slots := 0, locals := 13 } : Room) #[(.ref a1)] h0 (Q14L Z a1 wb cl zz cs h0 n0) := by
  refine own_bd (n0 := n0) (plainFor_of_name pn_14) fun p e s m below meth c s₁ Bd hZ hx hby hml hown X0 e0 N0 => ?_
  have pre0 := own_p0 (tb := p.tables) (e := e) (below := below) (s := s₁) (ef_14L m a1)
  obtain ⟨T305, X305, e305, st305⟩ := getF X0 hx hZ hown (host := "") (Or.inl (ow hw 47 rfl)) Via.refl e0 FV (g := (mkF m 1 #[rv a1] [(.ref a1)])) rfl rfl (hb hby d14_1)
  obtain ⟨T306, L306, X306, e306, N306, st306⟩ := own_pV X305 hx hZ hml hown N0 (ow hw 63 rfl) (ow hw 64 rfl) (notFace_of_selects (args := #[]) (mvT hZ (ow hw 66 rfl))) (ow hw 66 rfl) (ow hw 65 rfl) (ow hw 22 rfl) (ow hw 67 rfl) e305 (rm15L l Z a0 hw [] a1 cs h0 n0 Z0 SC hcs FC) E1 (W := 1) (g := (mkF m 6 #[rv a1] [(.ref a1), (.int zz)])) (argsL := []) (rest := [(.int zz)]) (lenOf pd_7 rfl) (hb hby d14_6)
  have pre307 := own_go pre0 (T306.setTop (mkF m 10 #[rv a1] [(.int (zz >>> ((0 : Int32) &&& 31)))])) fun t kt => by
    refine XS.aloadN X0.here hx rfl (hb hby d14_0) rfl rfl ?_
    refine st305 _ ?_
    refine X305.arraylength hx (by rw [e305]; exact Ar.1) (State.isArrayOf_alike hZ.alike Ar.2.1) (g := (mkF m 4 #[rv a1] [(.ref wb)])) rfl rfl (hb hby d14_4) _ ?_
    rw [len_of Sz Nz]
    refine XS.aloadN X305.here hx rfl (hb hby d14_5) rfl rfl ?_
    refine st306 _ ?_
    refine XS.ishr X306.here hx rfl (hb hby d14_9) rfl ?_
    exact kt
  refine own_lv X306 Bd.notSynchronized (v := some (.int (zz >>> ((0 : Int32) &&& 31)))) (own_nv Bd.returns) pre307 (fun fs hr => retI X306 hx Bd.returns (hb hby d14_10) hr) ?_
  show Q14L Z a1 wb cl zz cs h0 n0 _ T306.heap _
  rw [e306]
  exact ⟨rfl, N306, rfl⟩
def Q14U (Z : State) (a1 : Addr) (wb : Addr) (cl : Cell) (zz : Int32) (cs : Int32) (h0 : Heap) (n0 : Nat) (v : Option Value) (h : Heap) (L : List Loc) : Prop := v = some (.int (zz >>> ((1 : Int32) &&& 31))) ∧ Fr n0 L ∧ h = h0
theorem rm14U (l : Launch) (Z : State) (a0 : Array Value) (hw : own_H a0 Z) (ws : List Jvm.Cond) (a1 : Addr) (wb : Addr) (cl : Cell) (zz : Int32) (cs : Int32) (h0 : Heap) (n0 : Nat) (Z0 : n0 ≤ h0.size) (E1 : Exa Z h0 a1 "java/lang/String") (FC : Fld Z h0 a1 "java/lang/String" "coder" "B" (.int (1 : Int32))) (FV : Fld Z h0 a1 "java/lang/String" "value" "[B" (.ref wb)) (Ar : Arr Z h0 wb cl .byte) (Sz : cl.slots.size = zz.toNatClampNeg) (Nz : ¬ zz < (0 : Int32)) (SC : own_SC Z h0 cs) (hcs : ¬ cs = (0 : Int32)) :
    own_M l Z (⟨"java/lang/String", "length", "()I"⟩ : MethodName) jdk_42_method_54_code 1 (some .int) ws ({ frames := 1, cells := 0, slots := 0, locals := 13 } : Room) #[(.ref a1)] h0 (Q14U Z a1 wb cl zz cs h0 n0) := by
  refine own_bd (n0 := n0) (plainFor_of_name pn_14) fun p e s m below meth c s₁ Bd hZ hx hby hml hown X0 e0 N0 => ?_
  have pre0 := own_p0 (tb := p.tables) (e := e) (below := below) (s := s₁) (ef_14L m a1)
  obtain ⟨T308, X308, e308, st308⟩ := getF X0 hx hZ hown (host := "") (Or.inl (ow hw 47 rfl)) Via.refl e0 FV (g := (mkF m 1 #[rv a1] [(.ref a1)])) rfl rfl (hb hby d14_1)
  obtain ⟨T309, L309, X309, e309, N309, st309⟩ := own_pV X308 hx hZ hml hown N0 (ow hw 63 rfl) (ow hw 64 rfl) (notFace_of_selects (args := #[]) (mvT hZ (ow hw 66 rfl))) (ow hw 66 rfl) (ow hw 65 rfl) (ow hw 22 rfl) (ow hw 67 rfl) e308 (rm15U l Z a0 hw [] a1 cs h0 n0 Z0 SC hcs FC) E1 (W := 1) (g := (mkF m 6 #[rv a1] [(.ref a1), (.int zz)])) (argsL := []) (rest := [(.int zz)]) (lenOf pd_7 rfl) (hb hby d14_6)
  have pre310 := own_go pre0 (T309.setTop (mkF m 10 #[rv a1] [(.int (zz >>> ((1 : Int32) &&& 31)))])) fun t kt => by
    refine XS.aloadN X0.here hx rfl (hb hby d14_0) rfl rfl ?_
    refine st308 _ ?_
    refine X308.arraylength hx (by rw [e308]; exact Ar.1) (State.isArrayOf_alike hZ.alike Ar.2.1) (g := (mkF m 4 #[rv a1] [(.ref wb)])) rfl rfl (hb hby d14_4) _ ?_
    rw [len_of Sz Nz]
    refine XS.aloadN X308.here hx rfl (hb hby d14_5) rfl rfl ?_
    refine st309 _ ?_
    refine XS.ishr X309.here hx rfl (hb hby d14_9) rfl ?_
    exact kt
  refine own_lv X309 Bd.notSynchronized (v := some (.int (zz >>> ((1 : Int32) &&& 31)))) (own_nv Bd.returns) pre310 (fun fs hr => retI X309 hx Bd.returns (hb hby d14_10) hr) ?_
  show Q14U Z a1 wb cl zz cs h0 n0 _ T309.heap _
  rw [e309]
  exact ⟨rfl, N309, rfl⟩
theorem d13_0 : decode jdk_42_method_55_code 0 = .ok (.aload_n 0, 1) := by decide +kernel
theorem d13_1 : decode jdk_42_method_55_code 1 = .ok (.getfield 9, 3) := by decide +kernel
theorem d13_4 : decode jdk_42_method_55_code 4 = .ok (.arraylength, 1) := by decide +kernel
theorem d13_5 : decode jdk_42_method_55_code 5 = .ok (.ifCond .ne 7, 3) := by decide +kernel
theorem d13_12 : decode jdk_42_method_55_code 12 = .ok (.iconst 0, 1) := by decide +kernel
theorem d13_13 : decode jdk_42_method_55_code 13 = .ok (.ireturn, 1) := by decide +kernel
theorem pn_13 : plainName "java/lang/String" = true := by first | (simp [plainName, overriddenIn]; done) | decide +kernel
theorem ef_13 (m : MethodId) (x0 : Addr) : entryFrame m #[(.ref x0)] 1 = mkF m 0 #[.val (.ref x0)] [] := by first | (simp [entryFrame, mkF, argsToLocals, Value.category]; done) | rfl
def Q13 (Z : State) (a1 : Addr) (wb : Addr) (cl : Cell) (zz : Int32) (h0 : Heap) (n0 : Nat) (v : Option Value) (h : Heap) (L : List Loc) : Prop := v = some (.int 0) ∧ Fr n0 L ∧ h = h0
theorem rm13 (l : Launch) (Z : State) (a0 : Array Value) (hw : own_H a0 Z) (ws : List Jvm.Cond) (a1 : Addr) (wb : Addr) (cl : Cell) (zz : Int32) (h0 : Heap) (n0 : Nat) (Z0 : n0 ≤ h0.size) (FV : Fld Z h0 a1 "java/lang/String" "value" "[B" (.ref wb)) (Ar : Arr Z h0 wb cl .byte) (Sz : cl.slots.size = zz.toNatClampNeg) (Nz : ¬ zz < (0 : Int32)) (hz : ¬ zz = (0 : Int32)) :
    own_M l Z (⟨"java/lang/String", "isEmpty", "()Z"⟩ : MethodName) jdk_42_method_55_code 1 (some .boolean) ws ({ frames := 0, cells := 0, slots := 0, locals := 0 } : Room) #[(.ref a1)] h0 (Q13 Z a1 wb cl zz h0 n0) := by
  refine own_bd (n0 := n0) (plainFor_of_name pn_13) fun p e s m below meth c s₁ Bd hZ hx hby hml hown X0 e0 N0 => ?_
  have pre0 := own_p0 (tb := p.tables) (e := e) (below := below) (s := s₁) (ef_13 m a1)
  obtain ⟨T311, X311, e311, st311⟩ := getF X0 hx hZ hown (host := "") (Or.inl (ow hw 47 rfl)) Via.refl e0 FV (g := (mkF m 1 #[rv a1] [(.ref a1)])) rfl rfl (hb hby d13_1)
  have pre312 := own_go pre0 (T311.setTop (mkF m 13 #[rv a1] [(.int 0)])) fun t kt => by
    refine XS.aloadN X0.here hx rfl (hb hby d13_0) rfl rfl ?_
    refine st311 _ ?_
    refine X311.arraylength hx (by rw [e311]; exact Ar.1) (State.isArrayOf_alike hZ.alike Ar.2.1) (g := (mkF m 4 #[rv a1] [(.ref wb)])) rfl rfl (hb hby d13_4) _ ?_
    rw [len_of Sz Nz]
    refine XS.ifYes X311.here hx rfl (pc0 := 5) (pc' := 12) rfl (hb hby d13_5) rfl ((if0 _ _).trans (feq (hz : ¬ (zz = (0 : Int32)))).2) (by decide) (by decide) ?_
    refine XS.iconst X311.here hx rfl (hb hby d13_12) ?_
    exact kt
  refine own_lv X311 Bd.notSynchronized (v := some (.int 0)) (own_nv Bd.returns) pre312 (fun fs hr => retN X311 hx (t := .boolean) Bd.returns (by simp) (hb hby d13_13) hr) ?_
  show Q13 Z a1 wb cl zz h0 n0 _ T311.heap _
  rw [e311]
  exact ⟨rfl, N0, rfl⟩
theorem d27_0 : decode jdk_52_method_4_code 0 = .ok (.getstatic 44, 3) := by decide +kernel
theorem d27_3 : decode jdk_52_method_4_code 3 = .ok (.ifCond .ne 25, 3) := by decide +kernel
theorem d27_28 : decode jdk_52_method_4_code 28 = .ok (.iload_n 1, 1) := by decide +kernel
theorem d27_29 : decode jdk_52_method_4_code 29 = .ok (.iconst 1, 1) := by decide +kernel
theorem d27_30 : decode jdk_52_method_4_code 30 = .ok (.ishl, 1) := by decide +kernel
theorem d27_31 : decode jdk_52_method_4_code 31 = .ok (.istore_n 1, 1) := by decide +kernel
theorem d27_32 : decode jdk_52_method_4_code 32 = .ok (.aload_n 0, 1) := by decide +kernel
theorem d27_33 : decode jdk_52_method_4_code 33 = .ok (.iload_n 1, 1) := by decide +kernel
theorem d27_34 : decode jdk_52_method_4_code 34 = .ok (.iinc 1 1, 3) := by decide +kernel
theorem d27_37 : decode jdk_52_method_4_code 37 = .ok (.iload_n 2, 1) := by decide +kernel
theorem d27_38 : decode jdk_52_method_4_code 38 = .ok (.getstatic 59, 3) := by decide +kernel
theorem d27_41 : decode jdk_52_method_4_code 41 = .ok (.ishr, 1) := by decide +kernel
theorem d27_42 : decode jdk_52_method_4_code 42 = .ok (.i2b, 1) := by decide +kernel
theorem d27_43 : decode jdk_52_method_4_code 43 = .ok (.bastore, 1) := by decide +kernel
theorem d27_44 : decode jdk_52_method_4_code 44 = .ok (.aload_n 0, 1) := by decide +kernel
theorem d27_45 : decode jdk_52_method_4_code 45 = .ok (.iload_n 1, 1) := by decide +kernel
theorem d27_46 : decode jdk_52_method_4_code 46 = .ok (.iload_n 2, 1) := by decide +kernel
theorem d27_47 : decode jdk_52_method_4_code 47 = .ok (.getstatic 63, 3) := by decide +kernel
theorem d27_50 : decode jdk_52_method_4_code 50 = .ok (.ishr, 1) := by decide +kernel
theorem d27_51 : decode jdk_52_method_4_code 51 = .ok (.i2b, 1) := by decide +kernel
theorem d27_52 : decode jdk_52_method_4_code 52 = .ok (.bastore, 1) := by decide +kernel
theorem d27_53 : decode jdk_52_method_4_code 53 = .ok (.return_, 1) := by decide +kernel
theorem pn_27 : plainName "java/lang/StringUTF16" = true := by first | (simp [plainName, overriddenIn]; done) | decide +kernel
theorem ef_27_10 (m : MethodId) (x0 : Addr) (x2 : Int32) : entryFrame m #[(.ref x0), (.int 0), (.int x2)] 3 = mkF m 0 #[.val (.ref x0), .val (.int 0), .val (.int x2)] [] := by first | (simp [entryFrame, mkF, argsToLocals, Value.category]; done) | rfl
def Q27_10 (Z : State) (a1 : Addr) (p3 : Int32) (kb : ClassId) (y0 : Int32) (y1 : Int32) (h0 : Heap) (n0 : Nat) (v : Option Value) (h : Heap) (L : List Loc) : Prop := v = none ∧ Fr n0 L ∧ Keep h0 h [a1] ∧ Arv Z h a1 kb .byte (2 : Int32) [(.int (own_lo p3)), (.int (own_hi p3))] (.int (0 : Int32))
theorem rm27_10 (l : Launch) (Z : State) (a0 : Array Value) (hw : own_H a0 Z) (ws : List Jvm.Cond) (a1 : Addr) (p3 : Int32) (kb : ClassId) (y0 : Int32) (y1 : Int32) (h0 : Heap) (n0 : Nat) (Z0 : n0 ≤ h0.size) (P0 : Arv Z h0 a1 kb .byte (2 : Int32) [(.int y0), (.int y1)] (.int (0 : Int32))) (P1 : Old Z n0 h0) (R2 : Sta Z Z.heap "java/lang/StringUTF16" "$assertionsDisabled" "Z" (.int 1)) (R3 : Sta Z Z.heap "java/lang/StringUTF16" "HI_BYTE_SHIFT" "I" (.int 0)) (R4 : Sta Z Z.heap "java/lang/StringUTF16" "LO_BYTE_SHIFT" "I" (.int 8)) (g_a1 : n0 ≤ a1) :
    own_M l Z (⟨"java/lang/StringUTF16", "putChar", "([BII)V"⟩ : MethodName) jdk_52_method_4_code 3 none ws ({ frames := 0, cells := 0, slots := 0, locals := 0 } : Room) #[(.ref a1), (.int 0), (.int p3)] h0 (Q27_10 Z a1 p3 kb y0 y1 h0 n0) := by
  refine own_bd (n0 := n0) (plainFor_of_name pn_27) fun p e s m below meth c s₁ Bd hZ hx hby hml hown X0 e0 N0 => ?_
  have pre0 := own_p0 (tb := p.tables) (e := e) (below := below) (s := s₁) (ef_27_10 m a1 p3)
  obtain ⟨T313, X313, e313, st313⟩ := getS2 X0 hx hZ hown (host := "") (Or.inl (ow hw 119 rfl)) Via.refl e0 (R2.ext P1.2) (g := (mkF m 0 #[rv a1, iv 0, iv p3] [])) rfl (hb hby d27_0)
  obtain ⟨T314, X314, e314, st314⟩ := getS2 X313 hx hZ hown (host := "") (Or.inl (ow hw 120 rfl)) Via.refl e313 (R3.ext P1.2) (g := (mkF m 38 #[rv a1, iv 1, iv p3] [(.int p3), (.int 0), (.ref a1)])) rfl (hb hby d27_38)
  obtain ⟨cl315, Ar315, q315, S315, N315z, H315, G315⟩ := id P0
  obtain ⟨T315, h315, X315, e315, W315, st315⟩ := stB X314 hx hZ e314 Ar315 (j := (0 : Int32)) (inb_of S315 ⟨by decide, by decide⟩) (g := (mkF m 43 #[rv a1, iv 1, iv p3] [(.int ((p3 >>> ((0 : Int32) &&& 31)).toInt8.toInt32)), (.int 0), (.ref a1)])) rfl rfl (hb hby d27_43)
  have V315 : Arv Z h315 a1 kb .byte (2 : Int32) [(.int (nar .byte ((p3 >>> ((0 : Int32) &&& 31)).toInt8.toInt32))), (.int y1)] (.int (0 : Int32)) := Arv.set Ar315 q315 S315 N315z H315 G315 (fits_nar_byte _) W315 0 rfl (Nat.le_of_ble_eq_true rfl)
  have N315 := Fr.snoc X315 N0 g_a1
  have K315 : Keep h0 h315 [a1] := (Keep.refl h0 [a1]).wr W315 (Or.inl (by simp))
  have z316 : n0 ≤ h315.size := (Nat.le_trans Z0 (Keep.of_wr W315).1)
  obtain ⟨T317, X317, e317, st317⟩ := getS2 X315 hx hZ hown (host := "") (Or.inl (ow hw 121 rfl)) Via.refl e315 (R4.ext (P1.wr W315 g_a1).2) (g := (mkF m 47 #[rv a1, iv 1, iv p3] [(.int p3), (.int 1), (.ref a1)])) rfl (hb hby d27_47)
  obtain ⟨cl318, Ar318, q318, S318, N318z, H318, G318⟩ := id V315
  obtain ⟨T318, h318, X318, e318, W318, st318⟩ := stB X317 hx hZ e317 Ar318 (j := (1 : Int32)) (inb_of S318 ⟨by decide, by decide⟩) (g := (mkF m 52 #[rv a1, iv 1, iv p3] [(.int ((p3 >>> ((8 : Int32) &&& 31)).toInt8.toInt32)), (.int 1), (.ref a1)])) rfl rfl (hb hby d27_52)
  have V318 : Arv Z h318 a1 kb .byte (2 : Int32) [(.int (nar .byte ((p3 >>> ((0 : Int32) &&& 31)).toInt8.toInt32))), (.int (nar .byte ((p3 >>> ((8 : Int32) &&& 31)).toInt8.toInt32)))] (.int (0 : Int32)) := Arv.set Ar318 q318 S318 N318z H318 G318 (fits_nar_byte _) W318 1 rfl (Nat.le_of_ble_eq_true rfl)
  have N318 := Fr.snoc X318 N315 g_a1
  have K318 : Keep h0 h318 [a1] := K315.wr W318 (Or.inl (by simp))
  have f319 := ((P1.wr W315 g_a1).wr W318 g_a1)
  have z320 : n0 ≤ h318.size := (Nat.le_trans z316 (Keep.of_wr W318).1)
  have V321 : Arv Z h318 a1 kb .byte (2 : Int32) [(.int (own_lo p3)), (.int (own_hi p3))] (.int (0 : Int32)) := V318
  have pre322 := own_go pre0 (T318.setTop (mkF m 53 #[rv a1, iv 1, iv p3] [])) fun t kt => by
    refine st313 _ ?_
    refine XS.ifYes X313.here hx rfl (pc0 := 3) (pc' := 28) rfl (hb hby d27_3) rfl ((if0 _ _).trans (feq (by decide : ¬ ((1 : Int32) = (0 : Int32)))).2) (by decide) (by decide) ?_
    refine XS.iloadN X313.here hx rfl (hb hby d27_28) rfl ?_
    refine XS.iconst X313.here hx rfl (hb hby d27_29) ?_
    refine XS.ishl X313.here hx rfl (hb hby d27_30) rfl ?_
    refine XS.istoreN X313.here hx rfl (hb hby d27_31) rfl (l' := #[rv a1, iv 0, iv p3]) rfl ?_
    refine XS.aloadN X313.here hx rfl (hb hby d27_32) rfl rfl ?_
    refine XS.iloadN X313.here hx rfl (hb hby d27_33) rfl ?_
    refine XS.iinc X313.here hx rfl (hb hby d27_34) rfl (l' := #[rv a1, iv 1, iv p3]) rfl ?_
    refine XS.iloadN X313.here hx rfl (hb hby d27_37) rfl ?_
    refine st314 _ ?_
    refine XS.ishr X314.here hx rfl (hb hby d27_41) rfl ?_
    refine XS.i2b X314.here hx rfl (hb hby d27_42) rfl ?_
    refine st315 _ ?_
    refine XS.aloadN X315.here hx rfl (hb hby d27_44) rfl rfl ?_
    refine XS.iloadN X315.here hx rfl (hb hby d27_45) rfl ?_
    refine XS.iloadN X315.here hx rfl (hb hby d27_46) rfl ?_
    refine st317 _ ?_
    refine XS.ishr X317.here hx rfl (hb hby d27_50) rfl ?_
    refine XS.i2b X317.here hx rfl (hb hby d27_51) rfl ?_
    refine st318 _ ?_
    exact kt
  refine own_lv X318 Bd.notSynchronized (v := none) (fun _ => rfl) pre322 (fun fs hr => X318.returnOut hx Bd.returns (hb hby d27_53) hr) ?_
  show Q27_10 Z a1 p3 kb y0 y1 h0 n0 _ T318.heap _
  rw [e318]
  exact ⟨rfl, N318, K318, V321⟩
theorem d26_0 : decode jdk_52_method_3_code 0 = .ok (.iload_n 0, 1) := by decide +kernel
theorem d26_1 : decode jdk_52_method_3_code 1 = .ok (.ifCond .ge 11, 3) := by decide +kernel
theorem d26_12 : decode jdk_52_method_3_code 12 = .ok (.iload_n 0, 1) := by decide +kernel
theorem d26_13 : decode jdk_52_method_3_code 13 = .ok (.ldc 20, 2) := by decide +kernel
theorem d26_15 : decode jdk_52_method_3_code 15 = .ok (.if_icmp .lt 40, 3) := by decide +kernel
theorem d26_55 : decode jdk_52_method_3_code 55 = .ok (.iload_n 0, 1) := by decide +kernel
theorem d26_56 : decode jdk_52_method_3_code 56 = .ok (.iconst 1, 1) := by decide +kernel
theorem d26_57 : decode jdk_52_method_3_code 57 = .ok (.ishl, 1) := by decide +kernel
theorem d26_58 : decode jdk_52_method_3_code 58 = .ok (.ireturn, 1) := by decide +kernel
theorem pn_26 : plainName "java/lang/StringUTF16" = true := by first | (simp [plainName, overriddenIn]; done) | decide +kernel
theorem ef_26_1 (m : MethodId)  : entryFrame m #[(.int 1)] 1 = mkF m 0 #[.val (.int 1)] [] := by first | (simp [entryFrame, mkF, argsToLocals, Value.category]; done) | rfl
def Q26_1 (Z : State)  (h0 : Heap) (n0 : Nat) (v : Option Value) (h : Heap) (L : List Loc) : Prop := v = some (.int 2) ∧ Fr n0 L ∧ h = h0
theorem rm26_1 (l : Launch) (Z : State) (a0 : Array Value) (hw : own_H a0 Z) (ws : List Jvm.Cond)  (h0 : Heap) (n0 : Nat) (Z0 : n0 ≤ h0.size) :
    own_M l Z (⟨"java/lang/StringUTF16", "newBytesLength", "(I)I"⟩ : MethodName) jdk_52_method_3_code 1 (some .int) ws ({ frames := 0, cells := 0, slots := 0, locals := 0 } : Room) #[(.int 1)] h0 (Q26_1 Z  h0 n0) := by
  refine own_bd (n0 := n0) (plainFor_of_name pn_26) fun p e s m below meth c s₁ Bd hZ hx hby hml hown X0 e0 N0 => ?_
  have pre0 := own_p0 (tb := p.tables) (e := e) (below := below) (s := s₁) (ef_26_1 m )
  have pre323 := own_go pre0 (s₁.setTop (mkF m 58 #[iv 1] [(.int 2)])) fun t kt => by
    refine XS.iloadN X0.here hx rfl (hb hby d26_0) rfl ?_
    refine XS.ifYes X0.here hx rfl (pc0 := 1) (pc' := 12) rfl (hb hby d26_1) rfl ((if0 _ _).trans (flt (by decide : ¬ ((1 : Int32) < (0 : Int32)))).2.1) (by decide) (by decide) ?_
    refine XS.iloadN X0.here hx rfl (hb hby d26_12) rfl ?_
    refine X0.ldcInt hx hown (mvT hZ (ow hw 115 rfl)) (g := (mkF m 13 #[iv 1] [(.int 1)])) rfl (hb hby d26_13) _ ?_
    refine XS.icmpYes X0.here hx rfl (pc0 := 15) (pc' := 55) rfl (hb hby d26_15) rfl (tlt (by decide : (1 : Int32) < (1073741823 : Int32))).1 (by decide) (by decide) ?_
    refine XS.iloadN X0.here hx rfl (hb hby d26_55) rfl ?_
    refine XS.iconst X0.here hx rfl (hb hby d26_56) ?_
    refine XS.ishl X0.here hx rfl (hb hby d26_57) rfl ?_
    exact kt
  refine own_lv X0 Bd.notSynchronized (v := some (.int 2)) (own_nv Bd.returns) pre323 (fun fs hr => retI X0 hx Bd.returns (hb hby d26_58) hr) ?_
  show Q26_1 Z  h0 n0 _ s₁.heap _
  rw [e0]
  exact ⟨rfl, N0, rfl⟩
theorem pd_8 : parseMethodDescriptor "(I)I" = some ⟨[.int], some .int⟩ := by decide +kernel
theorem d25_0 : decode jdk_52_method_2_code 0 = .ok (.iload_n 0, 1) := by decide +kernel
theorem d25_1 : decode jdk_52_method_2_code 1 = .ok (.invokestatic 11, 3) := by decide +kernel
theorem d25_4 : decode jdk_52_method_2_code 4 = .ok (.newarray .byte, 2) := by decide +kernel
theorem d25_6 : decode jdk_52_method_2_code 6 = .ok (.areturn, 1) := by decide +kernel
theorem pn_25 : plainName "java/lang/StringUTF16" = true := by first | (simp [plainName, overriddenIn]; done) | decide +kernel
theorem ef_25_1 (m : MethodId)  : entryFrame m #[(.int 1)] 1 = mkF m 0 #[.val (.int 1)] [] := by first | (simp [entryFrame, mkF, argsToLocals, Value.category]; done) | rfl
def Q25_1 (Z : State)  (h0 : Heap) (n0 : Nat) (v : Option Value) (h : Heap) (L : List Loc) : Prop := ∃ (x1 : Addr) (kx1 : ClassId), v = some (.ref x1) ∧ Fr n0 L ∧ Keep h0 h [] ∧ n0 ≤ x1 ∧ h0.size ≤ x1 ∧ Arv Z h x1 kx1 .byte (2 : Int32) [(.int 0), (.int 0)] (.int (0 : Int32))
theorem rm25_1 (l : Launch) (Z : State) (a0 : Array Value) (hw : own_H a0 Z) (ws : List Jvm.Cond)  (h0 : Heap) (n0 : Nat) (Z0 : n0 ≤ h0.size) :
    own_M l Z (⟨"java/lang/StringUTF16", "newBytesFor", "(I)[B"⟩ : MethodName) jdk_52_method_2_code 1 (some (.array .byte)) ws ({ frames := 1, cells := 1, slots := 2, locals := 12 } : Room) #[(.int 1)] h0 (Q25_1 Z  h0 n0) := by
  refine own_bd (n0 := n0) (plainFor_of_name pn_25) fun p e s m below meth c s₁ Bd hZ hx hby hml hown X0 e0 N0 => ?_
  have pre0 := own_p0 (tb := p.tables) (e := e) (below := below) (s := s₁) (ef_25_1 m )
  obtain ⟨T324, L324, X324, e324, N324, st324⟩ := own_pS X0 hx hZ hml hown N0 (ow hw 112 rfl) (ow hw 113 rfl) (ow hw 36 rfl) (ow hw 114 rfl) e0 (rm26_1 l Z a0 hw []  h0 n0 Z0) (W := 0) (g := (mkF m 1 #[iv 1] [(.int 1)])) (argsL := [(.int 1)]) (rest := []) (lenOf pd_8 rfl) (hb hby d25_1)
  obtain ⟨T325, h325, k325, X325, e325, E325, A325, st325⟩ := newP X324 hx hZ (ow hw 38 rfl) e324 (g := (mkF m 4 #[iv 1] [(.int 2)])) rfl (hb hby d25_4) rfl (by decide) (cap := 2) (by decide) (by decide) (by decide) (by decide)
  obtain ⟨b325, g325⟩ : ∃ z, z = h0.size := ⟨_, rfl⟩
  rw [← g325] at A325 st325
  have g_b325 : n0 ≤ b325 := Nat.le_trans Z0 (Nat.le_of_eq g325.symm)
  have sz_b325 : h0.size ≤ b325 := Nat.le_trans (Keep.refl h0 []).1 (Nat.le_of_eq g325.symm)
  have K325 : Keep h0 h325 [] := (Keep.refl h0 []).ext E325
  have V325 : Arv Z h325 b325 k325 .byte (2 : Int32) [(.int 0), (.int 0)] (.int (0 : Int32)) := (Arv.new A325 (by decide)).pad (pad_rep [] (.int (0 : Int32)) 2)
  have pre326 := own_go pre0 (T325.setTop (mkF m 6 #[iv 1] [(.ref b325)])) fun t kt => by
    refine XS.iloadN X0.here hx rfl (hb hby d25_0) rfl ?_
    refine st324 _ ?_
    refine st325 _ ?_
    exact kt
  refine own_lv X325 Bd.notSynchronized (v := some (.ref b325)) (own_nv Bd.returns) pre326 (fun fs hr => retOut X325 hx Bd.returns (own_nref _ rfl) (Or.inr (Or.inr (Or.inr (Or.inr ⟨rfl, rfl, rfl⟩)))) (hb hby d25_6) hr) ?_
  show Q25_1 Z  h0 n0 _ T325.heap _
  rw [e325]
  exact ⟨b325, k325, rfl, N324, K325, g_b325, sz_b325, V325⟩
theorem pd_9 : parseMethodDescriptor "(I)[B" = some ⟨[.int], some (.array .byte)⟩ := by decide +kernel
theorem pd_10 : parseMethodDescriptor "([BII)V" = some ⟨[(.array .byte), .int, .int], none⟩ := by decide +kernel
theorem d24_0 : decode jdk_52_method_14_code 0 = .ok (.iload_n 2, 1) := by decide +kernel
theorem d24_1 : decode jdk_52_method_14_code 1 = .ok (.invokestatic 107, 3) := by decide +kernel
theorem d24_4 : decode jdk_52_method_14_code 4 = .ok (.astore_n 3, 1) := by decide +kernel
theorem d24_5 : decode jdk_52_method_14_code 5 = .ok (.iconst 0, 1) := by decide +kernel
theorem d24_6 : decode jdk_52_method_14_code 6 = .ok (.istore 4, 2) := by decide +kernel
theorem d24_8 : decode jdk_52_method_14_code 8 = .ok (.iload 4, 2) := by decide +kernel
theorem d24_10 : decode jdk_52_method_14_code 10 = .ok (.iload_n 2, 1) := by decide +kernel
theorem d24_11 : decode jdk_52_method_14_code 11 = .ok (.if_icmp .ge 21, 3) := by decide +kernel
theorem d24_14 : decode jdk_52_method_14_code 14 = .ok (.aload_n 3, 1) := by decide +kernel
theorem d24_15 : decode jdk_52_method_14_code 15 = .ok (.iload 4, 2) := by decide +kernel
theorem d24_17 : decode jdk_52_method_14_code 17 = .ok (.aload_n 0, 1) := by decide +kernel
theorem d24_18 : decode jdk_52_method_14_code 18 = .ok (.iload_n 1, 1) := by decide +kernel
theorem d24_19 : decode jdk_52_method_14_code 19 = .ok (.caload, 1) := by decide +kernel
theorem d24_20 : decode jdk_52_method_14_code 20 = .ok (.invokestatic 111, 3) := by decide +kernel
theorem d24_23 : decode jdk_52_method_14_code 23 = .ok (.iinc 1 1, 3) := by decide +kernel
theorem d24_26 : decode jdk_52_method_14_code 26 = .ok (.iinc 4 1, 3) := by decide +kernel
theorem d24_29 : decode jdk_52_method_14_code 29 = .ok (.goto (-21), 3) := by decide +kernel
theorem d24_32 : decode jdk_52_method_14_code 32 = .ok (.aload_n 3, 1) := by decide +kernel
theorem d24_33 : decode jdk_52_method_14_code 33 = .ok (.areturn, 1) := by decide +kernel
theorem pn_24 : plainName "java/lang/StringUTF16" = true := by first | (simp [plainName, overriddenIn]; done) | decide +kernel
theorem ef_24_1 (m : MethodId) (x0 : Addr) : entryFrame m #[(.ref x0), (.int 0), (.int 1)] 5 = mkF m 0 #[.val (.ref x0), .val (.int 0), .val (.int 1), .unset, .unset] [] := by first | (simp [entryFrame, mkF, argsToLocals, Value.category]; done) | rfl
def Q24_1 (Z : State) (a1 : Addr) (kc : ClassId) (c0 : Int32) (h0 : Heap) (n0 : Nat) (v : Option Value) (h : Heap) (L : List Loc) : Prop := ∃ (x1 : Addr) (kx1 : ClassId), v = some (.ref x1) ∧ Fr n0 L ∧ Keep h0 h [] ∧ n0 ≤ x1 ∧ h0.size ≤ x1 ∧ Arv Z h x1 kx1 .byte (2 : Int32) [(.int (own_lo c0)), (.int (own_hi c0))] (.int (0 : Int32))
theorem rm24_1 (l : Launch) (Z : State) (a0 : Array Value) (hw : own_H a0 Z) (ws : List Jvm.Cond) (a1 : Addr) (kc : ClassId) (c0 : Int32) (h0 : Heap) (n0 : Nat) (Z0 : n0 ≤ h0.size) (P0 : Arv Z h0 a1 kc .char (1 : Int32) [(.int c0)] (.int (0 : Int32))) (P1 : Old Z n0 h0) (R2 : Sta Z Z.heap "java/lang/StringUTF16" "$assertionsDisabled" "Z" (.int 1)) (R3 : Sta Z Z.heap "java/lang/StringUTF16" "HI_BYTE_SHIFT" "I" (.int 0)) (R4 : Sta Z Z.heap "java/lang/StringUTF16" "LO_BYTE_SHIFT" "I" (.int 8)) :
    own_M l Z (⟨"java/lang/StringUTF16", "toBytes", "([CII)[B"⟩ : MethodName) jdk_52_method_14_code 5 (some (.array .byte)) ws ({ frames := 2, cells := 1, slots := 2, locals := 24 } : Room) #[(.ref a1), (.int 0), (.int 1)] h0 (Q24_1 Z a1 kc c0 h0 n0) := by
  refine own_bd (n0 := n0) (plainFor_of_name pn_24) fun p e s m below meth c s₁ Bd hZ hx hby hml hown X0 e0 N0 => ?_
  have pre0 := own_p0 (tb := p.tables) (e := e) (below := below) (s := s₁) (ef_24_1 m a1)
  obtain ⟨_, T327, L327, X327, hQ327, st327⟩ := own_cS X0 hx hZ hml hown (ow hw 109 rfl) (ow hw 110 rfl) (ow hw 36 rfl) (ow hw 111 rfl) e0 (rm25_1 l Z a0 hw []  h0 n0 Z0) (W := 0) (g := (mkF m 1 #[rv a1, iv 0, iv 1, .unset, .unset] [(.int 1)])) (argsL := [(.int 1)]) (rest := []) (lenOf pd_9 rfl) (hb hby d24_1)
  obtain ⟨b327_0, kk327_0, rfl, N327q, K327q, ga327_0, gz327_0, q327_0⟩ := hQ327
  have N327 := Fr.app N0 N327q
  have ne328 : a1 ≠ b327_0 := Nat.ne_of_lt (Nat.lt_of_lt_of_le P0.lt gz327_0)
  have g_b327_0 : n0 ≤ b327_0 := ga327_0
  have sz_b327_0 : h0.size ≤ b327_0 := Nat.le_trans (Keep.refl h0 []).1 gz327_0
  have K327 : Keep h0 T327.heap [] := (Keep.refl h0 []).trans K327q all0
  have z329 : n0 ≤ T327.heap.size := (Nat.le_trans Z0 (own_ke K327q).1)
  obtain ⟨cl330, Ar330, -, Sz330, Nz330, Hs330, -⟩ := id (P0.ext (own_ke K327q))
  have in330 : ¬ ((0 : Int32) < 0 ∨ cl330.slots.size ≤ ((0 : Int32)).toNatClampNeg) := inb_of Sz330 ⟨by decide, by decide⟩
  have at330 : cl330.slots[((0 : Int32)).toNatClampNeg]? = some (.int c0) := Has.at Hs330 in330 rfl
  obtain ⟨_, T331, L331, X331, hQ331, st331⟩ := own_cS X327 hx hZ hml hown (ow hw 116 rfl) (ow hw 117 rfl) (ow hw 36 rfl) (ow hw 118 rfl) rfl (rm27_10 l Z a0 hw [] b327_0 c0 kk327_0 (0 : Int32) (0 : Int32) T327.heap n0 z329 q327_0 (P1.ext (own_ke K327q)) R2 R3 R4 g_b327_0) (W := 0) (g := (mkF m 20 #[rv a1, iv 0, iv 1, rv b327_0, iv 0] [(.int c0), (.int 0), (.ref b327_0)])) (argsL := [(.ref b327_0), (.int 0), (.int c0)]) (rest := []) (lenOf pd_10 rfl) (hb hby d24_20)
  obtain ⟨rfl, N331q, K331q, q331_0⟩ := hQ331
  have N331 := Fr.app N327 N331q
  have K331 : Keep h0 T331.heap [] := K327.trans K331q (allS (Or.inr sz_b327_0) all0)
  have f332 := ((P0.ext (own_ke K327q)).keep K331q (ninS ne328 nin0))
  have f333 := ((P1.ext (own_ke K327q)).keep K331q (allS g_b327_0 all0))
  have pre334 := own_go pre0 (T331.setTop (mkF m 33 #[rv a1, iv 1, iv 1, rv b327_0, iv 1] [(.ref b327_0)])) fun t kt => by
    refine XS.iloadN X0.here hx rfl (hb hby d24_0) rfl ?_
    refine st327 _ ?_
    refine XS.astoreN X327.here hx rfl (hb hby d24_4) rfl rfl (l' := #[rv a1, iv 0, iv 1, rv b327_0, .unset]) rfl ?_
    refine XS.iconst X327.here hx rfl (hb hby d24_5) ?_
    refine XS.istore X327.here hx rfl (hb hby d24_6) rfl (l' := #[rv a1, iv 0, iv 1, rv b327_0, iv 0]) rfl ?_
    refine XS.iload X327.here hx rfl (hb hby d24_8) rfl ?_
    refine XS.iloadN X327.here hx rfl (hb hby d24_10) rfl ?_
    refine XS.icmpNo X327.here hx rfl (hb hby d24_11) rfl (tlt (by decide : (0 : Int32) < (1 : Int32))).2.1 ?_
    refine XS.aloadN X327.here hx rfl (hb hby d24_14) rfl rfl ?_
    refine XS.iload X327.here hx rfl (hb hby d24_15) rfl ?_
    refine XS.aloadN X327.here hx rfl (hb hby d24_17) rfl rfl ?_
    refine XS.iloadN X327.here hx rfl (hb hby d24_18) rfl ?_
    refine X327.caload hx (j := (0 : Int32)) (v := (.int c0)) (by exact Ar330.1) (State.isArrayOf_alike hZ.alike Ar330.2.1) Ar330.2.2 in330 at330 (g := (mkF m 19 #[rv a1, iv 0, iv 1, rv b327_0, iv 0] [(.int 0), (.ref a1), (.int 0), (.ref b327_0)])) rfl rfl (hb hby d24_19) _ ?_
    refine st331 _ ?_
    refine XS.iinc X331.here hx rfl (hb hby d24_23) rfl (l' := #[rv a1, iv 1, iv 1, rv b327_0, iv 0]) rfl ?_
    refine XS.iinc X331.here hx rfl (hb hby d24_26) rfl (l' := #[rv a1, iv 1, iv 1, rv b327_0, iv 1]) rfl ?_
    refine XS.goto X331.here hx rfl (pc0 := 29) (pc' := 8) rfl (hb hby d24_29) (by decide) (by decide) ?_
    refine XS.iload X331.here hx rfl (hb hby d24_8) rfl ?_
    refine XS.iloadN X331.here hx rfl (hb hby d24_10) rfl ?_
    refine XS.icmpYes X331.here hx rfl (pc0 := 11) (pc' := 32) rfl (hb hby d24_11) rfl (flt (by decide : ¬ ((1 : Int32) < (1 : Int32)))).2.1 (by decide) (by decide) ?_
    refine XS.aloadN X331.here hx rfl (hb hby d24_32) rfl rfl ?_
    exact kt
  refine own_lv X331 Bd.notSynchronized (v := some (.ref b327_0)) (own_nv Bd.returns) pre334 (fun fs hr => retOut X331 hx Bd.returns (own_nref _ rfl) (Or.inr (Or.inr (Or.inr (Or.inr ⟨rfl, rfl, rfl⟩)))) (hb hby d24_33) hr) ?_
  show Q24_1 Z a1 kc c0 h0 n0 _ T331.heap _
  exact ⟨b327_0, kk327_0, rfl, N331, K331, g_b327_0, sz_b327_0, q331_0⟩
theorem d10_0 : decode jdk_52_method_21_code 0 = .ok (.iconst 0, 1) := by decide +kernel
theorem d10_1 : decode jdk_52_method_21_code 1 = .ok (.istore 5, 2) := by decide +kernel
theorem d10_3 : decode jdk_52_method_21_code 3 = .ok (.iload 5, 2) := by decide +kernel
theorem d10_5 : decode jdk_52_method_21_code 5 = .ok (.iload 4, 2) := by decide +kernel
theorem d10_7 : decode jdk_52_method_21_code 7 = .ok (.if_icmp .ge 37, 3) := by decide +kernel
theorem d10_10 : decode jdk_52_method_21_code 10 = .ok (.aload_n 0, 1) := by decide +kernel
theorem d10_11 : decode jdk_52_method_21_code 11 = .ok (.iload_n 1, 1) := by decide +kernel
theorem d10_12 : decode jdk_52_method_21_code 12 = .ok (.caload, 1) := by decide +kernel
theorem d10_13 : decode jdk_52_method_21_code 13 = .ok (.istore 6, 2) := by decide +kernel
theorem d10_15 : decode jdk_52_method_21_code 15 = .ok (.iload 6, 2) := by decide +kernel
theorem d10_17 : decode jdk_52_method_21_code 17 = .ok (.sipush 255, 3) := by decide +kernel
theorem d10_20 : decode jdk_52_method_21_code 20 = .ok (.if_icmp .le 6, 3) := by decide +kernel
theorem d10_26 : decode jdk_52_method_21_code 26 = .ok (.aload_n 2, 1) := by decide +kernel
theorem d10_27 : decode jdk_52_method_21_code 27 = .ok (.iload_n 3, 1) := by decide +kernel
theorem d10_28 : decode jdk_52_method_21_code 28 = .ok (.iload 6, 2) := by decide +kernel
theorem d10_30 : decode jdk_52_method_21_code 30 = .ok (.i2b, 1) := by decide +kernel
theorem d10_31 : decode jdk_52_method_21_code 31 = .ok (.bastore, 1) := by decide +kernel
theorem d10_32 : decode jdk_52_method_21_code 32 = .ok (.iinc 1 1, 3) := by decide +kernel
theorem d10_35 : decode jdk_52_method_21_code 35 = .ok (.iinc 3 1, 3) := by decide +kernel
theorem d10_38 : decode jdk_52_method_21_code 38 = .ok (.iinc 5 1, 3) := by decide +kernel
theorem d10_41 : decode jdk_52_method_21_code 41 = .ok (.goto (-38), 3) := by decide +kernel
theorem d10_44 : decode jdk_52_method_21_code 44 = .ok (.iload 4, 2) := by decide +kernel
theorem d10_46 : decode jdk_52_method_21_code 46 = .ok (.ireturn, 1) := by decide +kernel
theorem pn_10 : plainName "java/lang/StringUTF16" = true := by first | (simp [plainName, overriddenIn]; done) | decide +kernel
theorem ef_10_1L (m : MethodId) (x0 : Addr) (x2 : Addr) : entryFrame m #[(.ref x0), (.int 0), (.ref x2), (.int 0), (.int 1)] 7 = mkF m 0 #[.val (.ref x0), .val (.int 0), .val (.ref x2), .val (.int 0), .val (.int 1), .unset, .unset] [] := by first | (simp [entryFrame, mkF, argsToLocals, Value.category]; done) | rfl
def Q10_1L (Z : State) (a1 : Addr) (a3 : Addr) (kc : ClassId) (kb : ClassId) (c0 : Int32) (h0 : Heap) (n0 : Nat) (v : Option Value) (h : Heap) (L : List Loc) : Prop := v = some (.int 1) ∧ Fr n0 L ∧ Keep h0 h [a3] ∧ Arv Z h a3 kb .byte (1 : Int32) [(.int (own_by c0))] (.int (0 : Int32))
theorem rm10_1L (l : Launch) (Z : State) (a0 : Array Value) (hw : own_H a0 Z) (ws : List Jvm.Cond) (a1 : Addr) (a3 : Addr) (kc : ClassId) (kb : ClassId) (c0 : Int32) (h0 : Heap) (n0 : Nat) (Z0 : n0 ≤ h0.size) (P0 : Arv Z h0 a1 kc .char (1 : Int32) [(.int c0)] (.int (0 : Int32))) (P1 : Arv Z h0 a3 kb .byte (1 : Int32) [(.int 0)] (.int (0 : Int32))) (ne_a1_a3 : a1 ≠ a3) (g_a3 : n0 ≤ a3) (u0 : ¬ (255 : Int32) < c0) :
    own_M l Z (⟨"java/lang/StringUTF16", "compress", "([CI[BII)I"⟩ : MethodName) jdk_52_method_21_code 7 (some .int) ws ({ frames := 0, cells := 0, slots := 0, locals := 0 } : Room) #[(.ref a1), (.int 0), (.ref a3), (.int 0), (.int 1)] h0 (Q10_1L Z a1 a3 kc kb c0 h0 n0) := by
  refine own_bd (n0 := n0) (plainFor_of_name pn_10) fun p e s m below meth c s₁ Bd hZ hx hby hml hown X0 e0 N0 => ?_
  have pre0 := own_p0 (tb := p.tables) (e := e) (below := below) (s := s₁) (ef_10_1L m a1 a3)
  obtain ⟨cl335, Ar335, -, Sz335, Nz335, Hs335, -⟩ := id P0
  have in335 : ¬ ((0 : Int32) < 0 ∨ cl335.slots.size ≤ ((0 : Int32)).toNatClampNeg) := inb_of Sz335 ⟨by decide, by decide⟩
  have at335 : cl335.slots[((0 : Int32)).toNatClampNeg]? = some (.int c0) := Has.at Hs335 in335 rfl
  obtain ⟨cl336, Ar336, q336, S336, N336z, H336, G336⟩ := id P1
  obtain ⟨T336, h336, X336, e336, W336, st336⟩ := stB X0 hx hZ e0 Ar336 (j := (0 : Int32)) (inb_of S336 ⟨by decide, by decide⟩) (g := (mkF m 31 #[rv a1, iv 0, rv a3, iv 0, iv 1, iv 0, iv c0] [(.int (c0.toInt8.toInt32)), (.int 0), (.ref a3)])) rfl rfl (hb hby d10_31)
  have V336 : Arv Z h336 a3 kb .byte (1 : Int32) [(.int (nar .byte (c0.toInt8.toInt32)))] (.int (0 : Int32)) := Arv.set Ar336 q336 S336 N336z H336 G336 (fits_nar_byte _) W336 0 rfl (Nat.le_of_ble_eq_true rfl)
  have N336 := Fr.snoc X336 N0 g_a3
  have K336 : Keep h0 h336 [a3] := (Keep.refl h0 [a3]).wr W336 (Or.inl (by simp))
  have z337 : n0 ≤ h336.size := (Nat.le_trans Z0 (Keep.of_wr W336).1)
  have V338 : Arv Z h336 a3 kb .byte (1 : Int32) [(.int (own_by c0))] (.int (0 : Int32)) := V336
  have pre339 := own_go pre0 (T336.setTop (mkF m 46 #[rv a1, iv 1, rv a3, iv 1, iv 1, iv 1, iv c0] [(.int 1)])) fun t kt => by
    refine XS.iconst X0.here hx rfl (hb hby d10_0) ?_
    refine XS.istore X0.here hx rfl (hb hby d10_1) rfl (l' := #[rv a1, iv 0, rv a3, iv 0, iv 1, iv 0, .unset]) rfl ?_
    refine XS.iload X0.here hx rfl (hb hby d10_3) rfl ?_
    refine XS.iload X0.here hx rfl (hb hby d10_5) rfl ?_
    refine XS.icmpNo X0.here hx rfl (hb hby d10_7) rfl (tlt (by decide : (0 : Int32) < (1 : Int32))).2.1 ?_
    refine XS.aloadN X0.here hx rfl (hb hby d10_10) rfl rfl ?_
    refine XS.iloadN X0.here hx rfl (hb hby d10_11) rfl ?_
    refine X0.caload hx (j := (0 : Int32)) (v := (.int c0)) (by rw [e0]; exact Ar335.1) (State.isArrayOf_alike hZ.alike Ar335.2.1) Ar335.2.2 in335 at335 (g := (mkF m 12 #[rv a1, iv 0, rv a3, iv 0, iv 1, iv 0, .unset] [(.int 0), (.ref a1)])) rfl rfl (hb hby d10_12) _ ?_
    refine XS.istore X0.here hx rfl (hb hby d10_13) rfl (l' := #[rv a1, iv 0, rv a3, iv 0, iv 1, iv 0, iv c0]) rfl ?_
    refine XS.iload X0.here hx rfl (hb hby d10_15) rfl ?_
    refine XS.sipush X0.here hx rfl (hb hby d10_17) ?_
    refine XS.icmpYes X0.here hx rfl (pc0 := 20) (pc' := 26) rfl (hb hby d10_20) rfl (flt (u0 : ¬ ((255 : Int32) < c0))).2.2.2 (by decide) (by decide) ?_
    refine XS.aloadN X0.here hx rfl (hb hby d10_26) rfl rfl ?_
    refine XS.iloadN X0.here hx rfl (hb hby d10_27) rfl ?_
    refine XS.iload X0.here hx rfl (hb hby d10_28) rfl ?_
    refine XS.i2b X0.here hx rfl (hb hby d10_30) rfl ?_
    refine st336 _ ?_
    refine XS.iinc X336.here hx rfl (hb hby d10_32) rfl (l' := #[rv a1, iv 1, rv a3, iv 0, iv 1, iv 0, iv c0]) rfl ?_
    refine XS.iinc X336.here hx rfl (hb hby d10_35) rfl (l' := #[rv a1, iv 1, rv a3, iv 1, iv 1, iv 0, iv c0]) rfl ?_
    refine XS.iinc X336.here hx rfl (hb hby d10_38) rfl (l' := #[rv a1, iv 1, rv a3, iv 1, iv 1, iv 1, iv c0]) rfl ?_
    refine XS.goto X336.here hx rfl (pc0 := 41) (pc' := 3) rfl (hb hby d10_41) (by decide) (by decide) ?_
    refine XS.iload X336.here hx rfl (hb hby d10_3) rfl ?_
    refine XS.iload X336.here hx rfl (hb hby d10_5) rfl ?_
    refine XS.icmpYes X336.here hx rfl (pc0 := 7) (pc' := 44) rfl (hb hby d10_7) rfl (flt (by decide : ¬ ((1 : Int32) < (1 : Int32)))).2.1 (by decide) (by decide) ?_
    refine XS.iload X336.here hx rfl (hb hby d10_44) rfl ?_
    exact kt
  refine own_lv X336 Bd.notSynchronized (v := some (.int 1)) (own_nv Bd.returns) pre339 (fun fs hr => retI X336 hx Bd.returns (hb hby d10_46) hr) ?_
  show Q10_1L Z a1 a3 kc kb c0 h0 n0 _ T336.heap _
  rw [e336]
  exact ⟨rfl, N336, K336, V338⟩
theorem d10_23 : decode jdk_52_method_21_code 23 = .ok (.iload 5, 2) := by decide +kernel
theorem d10_25 : decode jdk_52_method_21_code 25 = .ok (.ireturn, 1) := by decide +kernel
def Q10_1U0 (Z : State) (a1 : Addr) (a3 : Addr) (kc : ClassId) (kb : ClassId) (c0 : Int32) (h0 : Heap) (n0 : Nat) (v : Option Value) (h : Heap) (L : List Loc) : Prop := v = some (.int 0) ∧ Fr n0 L ∧ Keep h0 h [a3]
theorem rm10_1U0 (l : Launch) (Z : State) (a0 : Array Value) (hw : own_H a0 Z) (ws : List Jvm.Cond) (a1 : Addr) (a3 : Addr) (kc : ClassId) (kb : ClassId) (c0 : Int32) (h0 : Heap) (n0 : Nat) (Z0 : n0 ≤ h0.size) (P0 : Arv Z h0 a1 kc .char (1 : Int32) [(.int c0)] (.int (0 : Int32))) (P1 : Arv Z h0 a3 kb .byte (1 : Int32) [(.int 0)] (.int (0 : Int32))) (ne_a1_a3 : a1 ≠ a3) (g_a3 : n0 ≤ a3) (u0 : (255 : Int32) < c0) :
    own_M l Z (⟨"java/lang/StringUTF16", "compress", "([CI[BII)I"⟩ : MethodName) jdk_52_method_21_code 7 (some .int) ws ({ frames := 0, cells := 0, slots := 0, locals := 0 } : Room) #[(.ref a1), (.int 0), (.ref a3), (.int 0), (.int 1)] h0 (Q10_1U0 Z a1 a3 kc kb c0 h0 n0) := by
  refine own_bd (n0 := n0) (plainFor_of_name pn_10) fun p e s m below meth c s₁ Bd hZ hx hby hml hown X0 e0 N0 => ?_
  have pre0 := own_p0 (tb := p.tables) (e := e) (below := below) (s := s₁) (ef_10_1L m a1 a3)
  obtain ⟨cl340, Ar340, -, Sz340, Nz340, Hs340, -⟩ := id P0
  have in340 : ¬ ((0 : Int32) < 0 ∨ cl340.slots.size ≤ ((0 : Int32)).toNatClampNeg) := inb_of Sz340 ⟨by decide, by decide⟩
  have at340 : cl340.slots[((0 : Int32)).toNatClampNeg]? = some (.int c0) := Has.at Hs340 in340 rfl
  have pre341 := own_go pre0 (s₁.setTop (mkF m 25 #[rv a1, iv 0, rv a3, iv 0, iv 1, iv 0, iv c0] [(.int 0)])) fun t kt => by
    refine XS.iconst X0.here hx rfl (hb hby d10_0) ?_
    refine XS.istore X0.here hx rfl (hb hby d10_1) rfl (l' := #[rv a1, iv 0, rv a3, iv 0, iv 1, iv 0, .unset]) rfl ?_
    refine XS.iload X0.here hx rfl (hb hby d10_3) rfl ?_
    refine XS.iload X0.here hx rfl (hb hby d10_5) rfl ?_
    refine XS.icmpNo X0.here hx rfl (hb hby d10_7) rfl (tlt (by decide : (0 : Int32) < (1 : Int32))).2.1 ?_
    refine XS.aloadN X0.here hx rfl (hb hby d10_10) rfl rfl ?_
    refine XS.iloadN X0.here hx rfl (hb hby d10_11) rfl ?_
    refine X0.caload hx (j := (0 : Int32)) (v := (.int c0)) (by rw [e0]; exact Ar340.1) (State.isArrayOf_alike hZ.alike Ar340.2.1) Ar340.2.2 in340 at340 (g := (mkF m 12 #[rv a1, iv 0, rv a3, iv 0, iv 1, iv 0, .unset] [(.int 0), (.ref a1)])) rfl rfl (hb hby d10_12) _ ?_
    refine XS.istore X0.here hx rfl (hb hby d10_13) rfl (l' := #[rv a1, iv 0, rv a3, iv 0, iv 1, iv 0, iv c0]) rfl ?_
    refine XS.iload X0.here hx rfl (hb hby d10_15) rfl ?_
    refine XS.sipush X0.here hx rfl (hb hby d10_17) ?_
    refine XS.icmpNo X0.here hx rfl (hb hby d10_20) rfl (tlt (u0 : (255 : Int32) < c0)).2.2.2 ?_
    refine XS.iload X0.here hx rfl (hb hby d10_23) rfl ?_
    exact kt
  refine own_lv X0 Bd.notSynchronized (v := some (.int 0)) (own_nv Bd.returns) pre341 (fun fs hr => retI X0 hx Bd.returns (hb hby d10_25) hr) ?_
  show Q10_1U0 Z a1 a3 kc kb c0 h0 n0 _ s₁.heap _
  rw [e0]
  exact ⟨rfl, N0, (Keep.refl h0 [a3])⟩
theorem pd_11 : parseMethodDescriptor "([CI[BII)I" = some ⟨[(.array .char), .int, (.array .byte), .int, .int], some .int⟩ := by decide +kernel
theorem d9_0 : decode jdk_52_method_16_code 0 = .ok (.iload_n 2, 1) := by decide +kernel
theorem d9_1 : decode jdk_52_method_16_code 1 = .ok (.newarray .byte, 2) := by decide +kernel
theorem d9_3 : decode jdk_52_method_16_code 3 = .ok (.astore_n 3, 1) := by decide +kernel
theorem d9_4 : decode jdk_52_method_16_code 4 = .ok (.aload_n 0, 1) := by decide +kernel
theorem d9_5 : decode jdk_52_method_16_code 5 = .ok (.iload_n 1, 1) := by decide +kernel
theorem d9_6 : decode jdk_52_method_16_code 6 = .ok (.aload_n 3, 1) := by decide +kernel
theorem d9_7 : decode jdk_52_method_16_code 7 = .ok (.iconst 0, 1) := by decide +kernel
theorem d9_8 : decode jdk_52_method_16_code 8 = .ok (.iload_n 2, 1) := by decide +kernel
theorem d9_9 : decode jdk_52_method_16_code 9 = .ok (.invokestatic 115, 3) := by decide +kernel
theorem d9_12 : decode jdk_52_method_16_code 12 = .ok (.istore 4, 2) := by decide +kernel
theorem d9_14 : decode jdk_52_method_16_code 14 = .ok (.iload 4, 2) := by decide +kernel
theorem d9_16 : decode jdk_52_method_16_code 16 = .ok (.iload_n 2, 1) := by decide +kernel
theorem d9_17 : decode jdk_52_method_16_code 17 = .ok (.if_icmp .eq 40, 3) := by decide +kernel
theorem d9_57 : decode jdk_52_method_16_code 57 = .ok (.aload_n 3, 1) := by decide +kernel
theorem d9_58 : decode jdk_52_method_16_code 58 = .ok (.areturn, 1) := by decide +kernel
theorem pn_9 : plainName "java/lang/StringUTF16" = true := by first | (simp [plainName, overriddenIn]; done) | decide +kernel
theorem ef_9_1L (m : MethodId) (x0 : Addr) : entryFrame m #[(.ref x0), (.int 0), (.int 1)] 6 = mkF m 0 #[.val (.ref x0), .val (.int 0), .val (.int 1), .unset, .unset, .unset] [] := by first | (simp [entryFrame, mkF, argsToLocals, Value.category]; done) | rfl
def Q9_1L (Z : State) (a1 : Addr) (kc : ClassId) (c0 : Int32) (h0 : Heap) (n0 : Nat) (v : Option Value) (h : Heap) (L : List Loc) : Prop := ∃ (x1 : Addr) (kx1 : ClassId), v = some (.ref x1) ∧ Fr n0 L ∧ Keep h0 h [] ∧ n0 ≤ x1 ∧ h0.size ≤ x1 ∧ Arv Z h x1 kx1 .byte (1 : Int32) [(.int (own_by c0))] (.int (0 : Int32))
theorem rm9_1L (l : Launch) (Z : State) (a0 : Array Value) (hw : own_H a0 Z) (ws : List Jvm.Cond) (a1 : Addr) (kc : ClassId) (c0 : Int32) (h0 : Heap) (n0 : Nat) (Z0 : n0 ≤ h0.size) (P0 : Arv Z h0 a1 kc .char (1 : Int32) [(.int c0)] (.int (0 : Int32))) (u0 : ¬ (255 : Int32) < c0) :
    own_M l Z (⟨"java/lang/StringUTF16", "compress", "([CII)[B"⟩ : MethodName) jdk_52_method_16_code 6 (some (.array .byte)) ws ({ frames := 1, cells := 1, slots := 1, locals := 18 } : Room) #[(.ref a1), (.int 0), (.int 1)] h0 (Q9_1L Z a1 kc c0 h0 n0) := by
  refine own_bd (n0 := n0) (plainFor_of_name pn_9) fun p e s m below meth c s₁ Bd hZ hx hby hml hown X0 e0 N0 => ?_
  have pre0 := own_p0 (tb := p.tables) (e := e) (below := below) (s := s₁) (ef_9_1L m a1)
  obtain ⟨T342, h342, k342, X342, e342, E342, A342, st342⟩ := newP X0 hx hZ (ow hw 38 rfl) e0 (g := (mkF m 1 #[rv a1, iv 0, iv 1, .unset, .unset, .unset] [(.int 1)])) rfl (hb hby d9_1) rfl (by decide) (cap := 1) (by decide) (by decide) (by decide) (by decide)
  obtain ⟨b342, g342⟩ : ∃ z, z = h0.size := ⟨_, rfl⟩
  rw [← g342] at A342 st342
  have ne343 : a1 ≠ b342 := Nat.ne_of_lt (Nat.lt_of_lt_of_le P0.lt (Nat.le_of_eq g342.symm))
  have g_b342 : n0 ≤ b342 := Nat.le_trans Z0 (Nat.le_of_eq g342.symm)
  have sz_b342 : h0.size ≤ b342 := Nat.le_trans (Keep.refl h0 []).1 (Nat.le_of_eq g342.symm)
  have K342 : Keep h0 h342 [] := (Keep.refl h0 []).ext E342
  have V342 : Arv Z h342 b342 k342 .byte (1 : Int32) [(.int 0)] (.int (0 : Int32)) := (Arv.new A342 (by decide)).pad (pad_rep [] (.int (0 : Int32)) 1)
  obtain ⟨_, T344, L344, X344, hQ344, st344⟩ := own_cS X342 hx hZ hml hown (ow hw 39 rfl) (ow hw 40 rfl) (ow hw 36 rfl) (ow hw 41 rfl) e342 (rm10_1L l Z a0 hw [] a1 b342 kc k342 c0 h342 n0 (Nat.le_trans Z0 E342.1) (P0.ext E342) V342 ne343 g_b342 u0) (W := 0) (g := (mkF m 9 #[rv a1, iv 0, iv 1, rv b342, .unset, .unset] [(.int 1), (.int 0), (.ref b342), (.int 0), (.ref a1)])) (argsL := [(.ref a1), (.int 0), (.ref b342), (.int 0), (.int 1)]) (rest := []) (lenOf pd_11 rfl) (hb hby d9_9)
  obtain ⟨rfl, N344q, K344q, q344_0⟩ := hQ344
  have N344 := Fr.app N0 N344q
  have K344 : Keep h0 T344.heap [] := K342.trans K344q (allS (Or.inr sz_b342) all0)
  have f345 := ((P0.ext E342).keep K344q (ninS ne343 nin0))
  have z346 : n0 ≤ T344.heap.size := (Nat.le_trans (Nat.le_trans Z0 E342.1) K344q.1)
  have pre347 := own_go pre0 (T344.setTop (mkF m 58 #[rv a1, iv 0, iv 1, rv b342, iv 1, .unset] [(.ref b342)])) fun t kt => by
    refine XS.iloadN X0.here hx rfl (hb hby d9_0) rfl ?_
    refine st342 _ ?_
    refine XS.astoreN X342.here hx rfl (hb hby d9_3) rfl rfl (l' := #[rv a1, iv 0, iv 1, rv b342, .unset, .unset]) rfl ?_
    refine XS.aloadN X342.here hx rfl (hb hby d9_4) rfl rfl ?_
    refine XS.iloadN X342.here hx rfl (hb hby d9_5) rfl ?_
    refine XS.aloadN X342.here hx rfl (hb hby d9_6) rfl rfl ?_
    refine XS.iconst X342.here hx rfl (hb hby d9_7) ?_
    refine XS.iloadN X342.here hx rfl (hb hby d9_8) rfl ?_
    refine st344 _ ?_
    refine XS.istore X344.here hx rfl (hb hby d9_12) rfl (l' := #[rv a1, iv 0, iv 1, rv b342, iv 1, .unset]) rfl ?_
    refine XS.iload X344.here hx rfl (hb hby d9_14) rfl ?_
    refine XS.iloadN X344.here hx rfl (hb hby d9_16) rfl ?_
    refine XS.icmpYes X344.here hx rfl (pc0 := 17) (pc' := 57) rfl (hb hby d9_17) rfl (teq (by decide : (1 : Int32) = (1 : Int32))).1 (by decide) (by decide) ?_
    refine XS.aloadN X344.here hx rfl (hb hby d9_57) rfl rfl ?_
    exact kt
  refine own_lv X344 Bd.notSynchronized (v := some (.ref b342)) (own_nv Bd.returns) pre347 (fun fs hr => retOut X344 hx Bd.returns (own_nref _ rfl) (Or.inr (Or.inr (Or.inr (Or.inr ⟨rfl, rfl, rfl⟩)))) (hb hby d9_58) hr) ?_
  show Q9_1L Z a1 kc c0 h0 n0 _ T344.heap _
  exact ⟨b342, k342, rfl, N344, K344, g_b342, sz_b342, q344_0⟩
theorem pd_12 : parseMethodDescriptor "([CII)[B" = some ⟨[(.array .char), .int, .int], some (.array .byte)⟩ := by decide +kernel
theorem d9_20 : decode jdk_52_method_16_code 20 = .ok (.aload_n 0, 1) := by decide +kernel
theorem d9_21 : decode jdk_52_method_16_code 21 = .ok (.iload_n 1, 1) := by decide +kernel
theorem d9_22 : decode jdk_52_method_16_code 22 = .ok (.iload_n 2, 1) := by decide +kernel
theorem d9_23 : decode jdk_52_method_16_code 23 = .ok (.invokestatic 119, 3) := by decide +kernel
theorem d9_26 : decode jdk_52_method_16_code 26 = .ok (.astore 5, 2) := by decide +kernel
theorem d9_28 : decode jdk_52_method_16_code 28 = .ok (.aload 5, 2) := by decide +kernel
theorem d9_30 : decode jdk_52_method_16_code 30 = .ok (.iload 4, 2) := by decide +kernel
theorem d9_32 : decode jdk_52_method_16_code 32 = .ok (.invokestatic 71, 3) := by decide +kernel
theorem d9_35 : decode jdk_52_method_16_code 35 = .ok (.sipush 255, 3) := by decide +kernel
theorem d9_38 : decode jdk_52_method_16_code 38 = .ok (.if_icmp .gt 16, 3) := by decide +kernel
theorem d9_54 : decode jdk_52_method_16_code 54 = .ok (.aload 5, 2) := by decide +kernel
theorem d9_56 : decode jdk_52_method_16_code 56 = .ok (.areturn, 1) := by decide +kernel
def Q9_1U (Z : State) (a1 : Addr) (kc : ClassId) (c0 : Int32) (h0 : Heap) (n0 : Nat) (v : Option Value) (h : Heap) (L : List Loc) : Prop := ∃ (x1 : Addr) (kx1 : ClassId), v = some (.ref x1) ∧ Fr n0 L ∧ Keep h0 h [] ∧ n0 ≤ x1 ∧ h0.size ≤ x1 ∧ Arv Z h x1 kx1 .byte (2 : Int32) [(.int (own_lo c0)), (.int (own_hi c0))] (.int (0 : Int32))
theorem rm9_1U (l : Launch) (Z : State) (a0 : Array Value) (hw : own_H a0 Z) (ws : List Jvm.Cond) (a1 : Addr) (kc : ClassId) (c0 : Int32) (h0 : Heap) (n0 : Nat) (Z0 : n0 ≤ h0.size) (P0 : Arv Z h0 a1 kc .char (1 : Int32) [(.int c0)] (.int (0 : Int32))) (P1 : Old Z n0 h0) (R2 : Sta Z Z.heap "java/lang/StringUTF16" "$assertionsDisabled" "Z" (.int 1)) (R3 : Sta Z Z.heap "java/lang/StringUTF16" "HI_BYTE_SHIFT" "I" (.int 0)) (R4 : Sta Z Z.heap "java/lang/StringUTF16" "LO_BYTE_SHIFT" "I" (.int 8)) (hU : (255 : Int32) < c0) (hr0 : ¬ c0 < (0 : Int32) ∧ ¬ (65535 : Int32) < c0) :
    own_M l Z (⟨"java/lang/StringUTF16", "compress", "([CII)[B"⟩ : MethodName) jdk_52_method_16_code 6 (some (.array .byte)) ws ({ frames := 3, cells := 2, slots := 3, locals := 40 } : Room) #[(.ref a1), (.int 0), (.int 1)] h0 (Q9_1U Z a1 kc c0 h0 n0) := by
  refine own_bd (n0 := n0) (plainFor_of_name pn_9) fun p e s m below meth c s₁ Bd hZ hx hby hml hown X0 e0 N0 => ?_
  have pre0 := own_p0 (tb := p.tables) (e := e) (below := below) (s := s₁) (ef_9_1L m a1)
  obtain ⟨T348, h348, k348, X348, e348, E348, A348, st348⟩ := newP X0 hx hZ (ow hw 38 rfl) e0 (g := (mkF m 1 #[rv a1, iv 0, iv 1, .unset, .unset, .unset] [(.int 1)])) rfl (hb hby d9_1) rfl (by decide) (cap := 1) (by decide) (by decide) (by decide) (by decide)
  obtain ⟨b348, g348⟩ : ∃ z, z = h0.size := ⟨_, rfl⟩
  rw [← g348] at A348 st348
  have ne349 : a1 ≠ b348 := Nat.ne_of_lt (Nat.lt_of_lt_of_le P0.lt (Nat.le_of_eq g348.symm))
  have g_b348 : n0 ≤ b348 := Nat.le_trans Z0 (Nat.le_of_eq g348.symm)
  have sz_b348 : h0.size ≤ b348 := Nat.le_trans (Keep.refl h0 []).1 (Nat.le_of_eq g348.symm)
  have K348 : Keep h0 h348 [] := (Keep.refl h0 []).ext E348
  have V348 : Arv Z h348 b348 k348 .byte (1 : Int32) [(.int 0)] (.int (0 : Int32)) := (Arv.new A348 (by decide)).pad (pad_rep [] (.int (0 : Int32)) 1)
  have pre350 := own_go pre0 (T348.setTop (mkF m 9 #[rv a1, iv 0, iv 1, rv b348, .unset, .unset] [(.int 1), (.int 0), (.ref b348), (.int 0), (.ref a1)])) fun t kt => by
    refine XS.iloadN X0.here hx rfl (hb hby d9_0) rfl ?_
    refine st348 _ ?_
    refine XS.astoreN X348.here hx rfl (hb hby d9_3) rfl rfl (l' := #[rv a1, iv 0, iv 1, rv b348, .unset, .unset]) rfl ?_
    refine XS.aloadN X348.here hx rfl (hb hby d9_4) rfl rfl ?_
    refine XS.iloadN X348.here hx rfl (hb hby d9_5) rfl ?_
    refine XS.aloadN X348.here hx rfl (hb hby d9_6) rfl rfl ?_
    refine XS.iconst X348.here hx rfl (hb hby d9_7) ?_
    refine XS.iloadN X348.here hx rfl (hb hby d9_8) rfl ?_
    exact kt
  by_cases hk351 : (255 : Int32) < c0
  · obtain ⟨_, T352, L352, X352, hQ352, st352⟩ := own_cS X348 hx hZ hml hown (ow hw 39 rfl) (ow hw 40 rfl) (ow hw 36 rfl) (ow hw 41 rfl) e348 (rm10_1U0 l Z a0 hw [] a1 b348 kc k348 c0 h348 n0 (Nat.le_trans Z0 E348.1) (P0.ext E348) V348 ne349 g_b348 hk351) (W := 0) (g := (mkF m 9 #[rv a1, iv 0, iv 1, rv b348, .unset, .unset] [(.int 1), (.int 0), (.ref b348), (.int 0), (.ref a1)])) (argsL := [(.ref a1), (.int 0), (.ref b348), (.int 0), (.int 1)]) (rest := []) (lenOf pd_11 rfl) (hb hby d9_9)
    obtain ⟨rfl, N352q, K352q⟩ := hQ352
    have N352 := Fr.app N0 N352q
    have K352 : Keep h0 T352.heap [] := K348.trans K352q (allS (Or.inr sz_b348) all0)
    have f353 := ((P0.ext E348).keep K352q (ninS ne349 nin0))
    have f354 := ((P1.ext E348).keep K352q (allS g_b348 all0))
    have z355 : n0 ≤ T352.heap.size := (Nat.le_trans (Nat.le_trans Z0 E348.1) K352q.1)
    obtain ⟨_, T356, L356, X356, hQ356, st356⟩ := own_cS X352 hx hZ hml hown (ow hw 106 rfl) (ow hw 107 rfl) (ow hw 36 rfl) (ow hw 108 rfl) rfl (rm24_1 l Z a0 hw [] a1 kc c0 T352.heap n0 z355 f353 f354 R2 R3 R4) (W := 0) (g := (mkF m 23 #[rv a1, iv 0, iv 1, rv b348, iv 0, .unset] [(.int 1), (.int 0), (.ref a1)])) (argsL := [(.ref a1), (.int 0), (.int 1)]) (rest := []) (lenOf pd_12 rfl) (hb hby d9_23)
    obtain ⟨b356_0, kk356_0, rfl, N356q, K356q, ga356_0, gz356_0, q356_0⟩ := hQ356
    have N356 := Fr.app N352 N356q
    have ne357 : a1 ≠ b356_0 := Nat.ne_of_lt (Nat.lt_of_lt_of_le f353.lt gz356_0)
    have g_b356_0 : n0 ≤ b356_0 := ga356_0
    have sz_b356_0 : h0.size ≤ b356_0 := Nat.le_trans K352.1 gz356_0
    have K356 : Keep h0 T356.heap [] := K352.trans K356q all0
    have z358 : n0 ≤ T356.heap.size := (Nat.le_trans z355 (own_ke K356q).1)
    obtain ⟨cl359, Ar359, -, Sz359, Nz359, Hs359, -⟩ := id q356_0
    obtain ⟨T360, L360, X360, e360, N360, st360⟩ := own_pS X356 hx hZ hml hown N356 (ow hw 122 rfl) (ow hw 123 rfl) (ow hw 36 rfl) (ow hw 124 rfl) rfl (rm28 l Z a0 hw [] b356_0 (0 : Int32) cl359 (2 : Int32) (own_lo c0) (own_hi c0) T356.heap n0 z358 Ar359 Sz359 Nz359 (inb_of Sz359 ⟨by decide, by decide⟩) (Has.at Hs359 (inb_of Sz359 ⟨by decide, by decide⟩) rfl) (inb_of Sz359 ⟨by decide, by decide⟩) (Has.at Hs359 (inb_of Sz359 ⟨by decide, by decide⟩) rfl) (R2.ext (f354.ext (own_ke K356q)).2) (R3.ext (f354.ext (own_ke K356q)).2) (R4.ext (f354.ext (own_ke K356q)).2)) (W := 0) (g := (mkF m 32 #[rv a1, iv 0, iv 1, rv b348, iv 0, rv b356_0] [(.int 0), (.ref b356_0)])) (argsL := [(.ref b356_0), (.int 0)]) (rest := []) (lenOf pd_4 rfl) (hb hby d9_32)
    have pre361 := own_go pre350 (T360.setTop (mkF m 56 #[rv a1, iv 0, iv 1, rv b348, iv 0, rv b356_0] [(.ref b356_0)])) fun t kt => by
      refine st352 _ ?_
      refine XS.istore X352.here hx rfl (hb hby d9_12) rfl (l' := #[rv a1, iv 0, iv 1, rv b348, iv 0, .unset]) rfl ?_
      refine XS.iload X352.here hx rfl (hb hby d9_14) rfl ?_
      refine XS.iloadN X352.here hx rfl (hb hby d9_16) rfl ?_
      refine XS.icmpNo X352.here hx rfl (hb hby d9_17) rfl (feq (by decide : ¬ ((0 : Int32) = (1 : Int32)))).1 ?_
      refine XS.aloadN X352.here hx rfl (hb hby d9_20) rfl rfl ?_
      refine XS.iloadN X352.here hx rfl (hb hby d9_21) rfl ?_
      refine XS.iloadN X352.here hx rfl (hb hby d9_22) rfl ?_
      refine st356 _ ?_
      refine XS.astore X356.here hx rfl (hb hby d9_26) rfl rfl (l' := #[rv a1, iv 0, iv 1, rv b348, iv 0, rv b356_0]) rfl ?_
      refine XS.aload X356.here hx rfl (hb hby d9_28) rfl rfl ?_
      refine XS.iload X356.here hx rfl (hb hby d9_30) rfl ?_
      refine st360 _ ?_
      refine XS.sipush X360.here hx rfl (hb hby d9_35) ?_
      refine XS.icmpYes X360.here hx rfl (pc0 := 38) (pc' := 54) rfl (hb hby d9_38) rfl (tlt ((by rw [own_rtU hr0]; exact hk351) : (255 : Int32) < (own_gc (own_lo c0) (own_hi c0)))).2.2.1 (by decide) (by decide) ?_
      refine XS.aload X360.here hx rfl (hb hby d9_54) rfl rfl ?_
      exact kt
    refine own_lv X360 Bd.notSynchronized (v := some (.ref b356_0)) (own_nv Bd.returns) pre361 (fun fs hr => retOut X360 hx Bd.returns (own_nref _ rfl) (Or.inr (Or.inr (Or.inr (Or.inr ⟨rfl, rfl, rfl⟩)))) (hb hby d9_56) hr) ?_
    show Q9_1U Z a1 kc c0 h0 n0 _ T360.heap _
    rw [e360]
    exact ⟨b356_0, kk356_0, rfl, N360, K356, g_b356_0, sz_b356_0, q356_0⟩
  · exact absurd hU (by simp [hk351])
theorem d11_0 : decode jdk_52_method_15_code 0 = .ok (.iload_n 1, 1) := by decide +kernel
theorem d11_1 : decode jdk_52_method_15_code 1 = .ok (.aload_n 0, 1) := by decide +kernel
theorem d11_2 : decode jdk_52_method_15_code 2 = .ok (.arraylength, 1) := by decide +kernel
theorem d11_3 : decode jdk_52_method_15_code 3 = .ok (.isub, 1) := by decide +kernel
theorem d11_4 : decode jdk_52_method_15_code 4 = .ok (.bipush 31, 2) := by decide +kernel
theorem d11_6 : decode jdk_52_method_15_code 6 = .ok (.iushr, 1) := by decide +kernel
theorem d11_7 : decode jdk_52_method_15_code 7 = .ok (.i2b, 1) := by decide +kernel
theorem d11_8 : decode jdk_52_method_15_code 8 = .ok (.ireturn, 1) := by decide +kernel
theorem pn_11 : plainName "java/lang/StringUTF16" = true := by first | (simp [plainName, overriddenIn]; done) | decide +kernel
theorem ef_11_1U (m : MethodId) (x0 : Addr) : entryFrame m #[(.ref x0), (.int 1)] 2 = mkF m 0 #[.val (.ref x0), .val (.int 1)] [] := by first | (simp [entryFrame, mkF, argsToLocals, Value.category]; done) | rfl
def Q11_1U (Z : State) (a1 : Addr) (kb : ClassId) (y0 : Int32) (y1 : Int32) (h0 : Heap) (n0 : Nat) (v : Option Value) (h : Heap) (L : List Loc) : Prop := v = some (.int 1) ∧ Fr n0 L ∧ h = h0
theorem rm11_1U (l : Launch) (Z : State) (a0 : Array Value) (hw : own_H a0 Z) (ws : List Jvm.Cond) (a1 : Addr) (kb : ClassId) (y0 : Int32) (y1 : Int32) (h0 : Heap) (n0 : Nat) (Z0 : n0 ≤ h0.size) (P0 : Arv Z h0 a1 kb .byte (2 : Int32) [(.int y0), (.int y1)] (.int (0 : Int32))) :
    own_M l Z (⟨"java/lang/StringUTF16", "coderFromArrayLen", "([BI)B"⟩ : MethodName) jdk_52_method_15_code 2 (some .byte) ws ({ frames := 0, cells := 0, slots := 0, locals := 0 } : Room) #[(.ref a1), (.int 1)] h0 (Q11_1U Z a1 kb y0 y1 h0 n0) := by
  refine own_bd (n0 := n0) (plainFor_of_name pn_11) fun p e s m below meth c s₁ Bd hZ hx hby hml hown X0 e0 N0 => ?_
  have pre0 := own_p0 (tb := p.tables) (e := e) (below := below) (s := s₁) (ef_11_1U m a1)
  obtain ⟨cl362, Ar362, -, Sz362, Nz362, -, -⟩ := id P0
  have pre363 := own_go pre0 (s₁.setTop (mkF m 8 #[rv a1, iv 1] [(.int 1)])) fun t kt => by
    refine XS.iloadN X0.here hx rfl (hb hby d11_0) rfl ?_
    refine XS.aloadN X0.here hx rfl (hb hby d11_1) rfl rfl ?_
    refine X0.arraylength hx (by rw [e0]; exact Ar362.1) (State.isArrayOf_alike hZ.alike Ar362.2.1) (g := (mkF m 2 #[rv a1, iv 1] [(.ref a1), (.int 1)])) rfl rfl (hb hby d11_2) _ ?_
    rw [len_of Sz362 Nz362]
    refine XS.isub X0.here hx rfl (hb hby d11_3) rfl ?_
    refine XS.bipush X0.here hx rfl (hb hby d11_4) ?_
    refine XS.iushr X0.here hx rfl (hb hby d11_6) rfl ?_
    refine XS.i2b X0.here hx rfl (hb hby d11_7) rfl ?_
    exact kt
  refine own_lv X0 Bd.notSynchronized (v := some (.int 1)) (own_nv Bd.returns) pre363 (fun fs hr => retN X0 hx (t := .byte) Bd.returns (by simp) (hb hby d11_8) hr) ?_
  show Q11_1U Z a1 kb y0 y1 h0 n0 _ s₁.heap _
  rw [e0]
  exact ⟨rfl, N0, rfl⟩
theorem pd_13 : parseMethodDescriptor "([BI)B" = some ⟨[(.array .byte), .int], some .byte⟩ := by decide +kernel
theorem d7_0 : decode jdk_42_method_149_code 0 = .ok (.aload_n 0, 1) := by decide +kernel
theorem d7_1 : decode jdk_42_method_149_code 1 = .ok (.invokespecial 1, 3) := by decide +kernel
theorem d7_4 : decode jdk_42_method_149_code 4 = .ok (.iload_n 3, 1) := by decide +kernel
theorem d7_5 : decode jdk_42_method_149_code 5 = .ok (.ifCond .ne 22, 3) := by decide +kernel
theorem d7_27 : decode jdk_42_method_149_code 27 = .ok (.getstatic 38, 3) := by decide +kernel
theorem d7_30 : decode jdk_42_method_149_code 30 = .ok (.ifCond .eq 28, 3) := by decide +kernel
theorem d7_33 : decode jdk_42_method_149_code 33 = .ok (.aload_n 1, 1) := by decide +kernel
theorem d7_34 : decode jdk_42_method_149_code 34 = .ok (.iload_n 2, 1) := by decide +kernel
theorem d7_35 : decode jdk_42_method_149_code 35 = .ok (.iload_n 3, 1) := by decide +kernel
theorem d7_36 : decode jdk_42_method_149_code 36 = .ok (.invokestatic 177, 3) := by decide +kernel
theorem d7_39 : decode jdk_42_method_149_code 39 = .ok (.astore 5, 2) := by decide +kernel
theorem d7_41 : decode jdk_42_method_149_code 41 = .ok (.aload_n 0, 1) := by decide +kernel
theorem d7_42 : decode jdk_42_method_149_code 42 = .ok (.aload 5, 2) := by decide +kernel
theorem d7_44 : decode jdk_42_method_149_code 44 = .ok (.iload_n 3, 1) := by decide +kernel
theorem d7_45 : decode jdk_42_method_149_code 45 = .ok (.invokestatic 47, 3) := by decide +kernel
theorem d7_48 : decode jdk_42_method_149_code 48 = .ok (.putfield 15, 3) := by decide +kernel
theorem d7_51 : decode jdk_42_method_149_code 51 = .ok (.aload_n 0, 1) := by decide +kernel
theorem d7_52 : decode jdk_42_method_149_code 52 = .ok (.aload 5, 2) := by decide +kernel
theorem d7_54 : decode jdk_42_method_149_code 54 = .ok (.putfield 9, 3) := by decide +kernel
theorem d7_57 : decode jdk_42_method_149_code 57 = .ok (.return_, 1) := by decide +kernel
theorem pn_7 : plainName "java/lang/String" = true := by first | (simp [plainName, overriddenIn]; done) | decide +kernel
theorem ef_7_1U (m : MethodId) (x0 : Addr) (x1 : Addr) : entryFrame m #[(.ref x0), (.ref x1), (.int 0), (.int 1), .null] 6 = mkF m 0 #[.val (.ref x0), .val (.ref x1), .val (.int 0), .val (.int 1), .val .null, .unset] [] := by first | (simp [entryFrame, mkF, argsToLocals, Value.category]; done) | rfl
def Q7_1U (Z : State) (a1 : Addr) (a2 : Addr) (kc : ClassId) (c0 : Int32) (cs : Int32) (h0 : Heap) (n0 : Nat) (v : Option Value) (h : Heap) (L : List Loc) : Prop := ∃ (x1 : Addr) (kx1 : ClassId), v = none ∧ Fr n0 L ∧ Keep h0 h [a1] ∧ n0 ≤ x1 ∧ h0.size ≤ x1 ∧ Exa Z h a1 "java/lang/String" ∧ Fld Z h a1 "java/lang/String" "value" "[B" (.ref x1) ∧ Fld Z h a1 "java/lang/String" "coder" "B" (.int 1) ∧ Arv Z h x1 kx1 .byte (2 : Int32) [(.int (own_lo c0)), (.int (own_hi c0))] (.int (0 : Int32))
theorem rm7_1U (l : Launch) (Z : State) (a0 : Array Value) (hw : own_H a0 Z) (ws : List Jvm.Cond) (a1 : Addr) (a2 : Addr) (kc : ClassId) (c0 : Int32) (cs : Int32) (h0 : Heap) (n0 : Nat) (Z0 : n0 ≤ h0.size) (P0 : Exa Z h0 a1 "java/lang/String") (P1 : Fld Z h0 a1 "java/lang/String" "value" "[B" .null) (P2 : Fld Z h0 a1 "java/lang/String" "coder" "B" (.int 0)) (P3 : Arv Z h0 a2 kc .char (1 : Int32) [(.int c0)] (.int (0 : Int32))) (P4 : Old Z n0 h0) (R5 : own_SC Z Z.heap cs) (R6 : Sta Z Z.heap "java/lang/StringUTF16" "$assertionsDisabled" "Z" (.int 1)) (R7 : Sta Z Z.heap "java/lang/StringUTF16" "HI_BYTE_SHIFT" "I" (.int 0)) (R8 : Sta Z Z.heap "java/lang/StringUTF16" "LO_BYTE_SHIFT" "I" (.int 8)) (ne_a2_a1 : a2 ≠ a1) (g_a1 : n0 ≤ a1) (hcs : ¬ cs = (0 : Int32)) (hU : (255 : Int32) < c0) (hr0 : ¬ c0 < (0 : Int32) ∧ ¬ (65535 : Int32) < c0) :
    own_M l Z (⟨"java/lang/String", "<init>", "([CIILjava/lang/Void;)V"⟩ : MethodName) jdk_42_method_149_code 6 none ws ({ frames := 4, cells := 2, slots := 3, locals := 57 } : Room) #[(.ref a1), (.ref a2), (.int 0), (.int 1), .null] h0 (Q7_1U Z a1 a2 kc c0 cs h0 n0) := by
  refine own_bd (n0 := n0) (plainFor_of_name pn_7) fun p e s m below meth c s₁ Bd hZ hx hby hml hown X0 e0 N0 => ?_
  have hnm := (name_of_methodNamed Bd.named Bd.method).1
  have pre0 := own_p0 (tb := p.tables) (e := e) (below := below) (s := s₁) (ef_7_1U m a1 a2)
  obtain ⟨T364, X364, e364, st364⟩ := initO X0 hx hZ hown (ow hw 30 rfl) (ow hw 31 rfl) (ow hw 32 rfl) e0 (g := (mkF m 1 #[rv a1, rv a2, iv 0, iv 1, .val .null, .unset] [(.ref a1)])) rfl (by rw [hml]; rfl) rfl (hb hby d7_1) (by decide) (W := 0) (by show 2 * 0 + _ ≤ _; exact Nat.le_of_eq rfl) (by decide)
  obtain ⟨T365, X365, e365, st365⟩ := getS2 X364 hx hZ hown (host := "") (Or.inl (ow hw 33 rfl)) Via.refl e364 (R5.ext P4.2) (g := (mkF m 27 #[rv a1, rv a2, iv 0, iv 1, .val .null, .unset] [])) rfl (hb hby d7_27)
  obtain ⟨_, T366, L366, X366, hQ366, st366⟩ := own_cS X365 hx hZ hml hown (ow hw 34 rfl) (ow hw 35 rfl) (ow hw 36 rfl) (ow hw 37 rfl) e365 (rm9_1U l Z a0 hw [] a2 kc c0 h0 n0 Z0 P3 P4 R6 R7 R8 hU hr0) (W := 0) (g := (mkF m 36 #[rv a1, rv a2, iv 0, iv 1, .val .null, .unset] [(.int 1), (.int 0), (.ref a2)])) (argsL := [(.ref a2), (.int 0), (.int 1)]) (rest := []) (lenOf pd_12 rfl) (hb hby d7_36)
  obtain ⟨b366_0, kk366_0, rfl, N366q, K366q, ga366_0, gz366_0, q366_0⟩ := hQ366
  have N366 := Fr.app N0 N366q
  have ne367 : a1 ≠ b366_0 := Nat.ne_of_lt (Nat.lt_of_lt_of_le P0.lt gz366_0)
  have ne368 : a2 ≠ b366_0 := Nat.ne_of_lt (Nat.lt_of_lt_of_le P3.lt gz366_0)
  have g_b366_0 : n0 ≤ b366_0 := ga366_0
  have sz_b366_0 : h0.size ≤ b366_0 := Nat.le_trans (Keep.refl h0 [a1]).1 gz366_0
  have K366 : Keep h0 T366.heap [a1] := (Keep.refl h0 [a1]).trans K366q all0
  have z369 : n0 ≤ T366.heap.size := (Nat.le_trans Z0 (own_ke K366q).1)
  obtain ⟨T370, L370, X370, e370, N370, st370⟩ := own_pS X366 hx hZ hml hown N366 (ow hw 42 rfl) (ow hw 43 rfl) (ow hw 36 rfl) (ow hw 44 rfl) rfl (rm11_1U l Z a0 hw [] b366_0 kk366_0 (own_lo c0) (own_hi c0) T366.heap n0 z369 q366_0) (W := 1) (g := (mkF m 45 #[rv a1, rv a2, iv 0, iv 1, .val .null, rv b366_0] [(.int 1), (.ref b366_0), (.ref a1)])) (argsL := [(.ref b366_0), (.int 1)]) (rest := [(.ref a1)]) (lenOf pd_13 rfl) (hb hby d7_45)
  obtain ⟨T371, h371, X371, e371, W371, st371⟩ := putFN X370 hx hZ hown (ow hw 45 rfl) Via.refl e370 (P2.ext (own_ke K366q)) (P0.ext (own_ke K366q)) (Or.inr ⟨(ow hw 46 rfl), rfl, hnm⟩) (ow hw 21 rfl) (ty := .byte) (v' := (.int (nar .byte (1 : Int32)))) (by decide) rfl (fits_nar_byte _) (g := (mkF m 48 #[rv a1, rv a2, iv 0, iv 1, .val .null, rv b366_0] [(.int 1), (.ref a1)])) rfl rfl (hb hby d7_48)
  have W371' : Wr T366.heap h371 a1 _ (.int 1) := W371
  have N371 := Fr.snoc X371 N370 g_a1
  have K371 : Keep h0 h371 [a1] := K366.wr W371' (Or.inl (by simp))
  have f372 := ((P0.ext (own_ke K366q)).wr W371')
  have f373 := ((P1.ext (own_ke K366q)).other W371' (Or.inr (slot_ne (Or.inr (ow hw 48 rfl)) (Or.inr (ow hw 46 rfl)) (by decide) (t := (.array .byte)) (t' := .byte) (by decide) (by decide))))
  have f374 := ((P3.ext (own_ke K366q)).other W371' ne_a2_a1)
  have f375 := ((P4.ext (own_ke K366q)).wr W371' g_a1)
  have f376 := (q366_0.other W371' (Ne.symm ne367))
  have f377 := ((P2.ext (own_ke K366q)).same W371')
  have z378 : n0 ≤ h371.size := (Nat.le_trans z369 (Keep.of_wr W371').1)
  obtain ⟨T379, h379, X379, e379, W379, st379⟩ := putF X371 hx hZ hown (host := "") (Or.inl (ow hw 47 rfl)) Via.refl e371 f373 f372 (Or.inr ⟨(ow hw 48 rfl), rfl, hnm⟩) (ow hw 21 rfl) (ty := (.array .byte)) (by decide) rfl rfl (g := (mkF m 54 #[rv a1, rv a2, iv 0, iv 1, .val .null, rv b366_0] [(.ref b366_0), (.ref a1)])) rfl rfl (hb hby d7_54)
  have N379 := Fr.snoc X379 N371 g_a1
  have K379 : Keep h0 h379 [a1] := K371.wr W379 (Or.inl (by simp))
  have f380 := (f376.other W379 (Ne.symm ne367))
  have f381 := (f377.other W379 (Or.inr (slot_ne (Or.inr (ow hw 46 rfl)) (Or.inr (ow hw 48 rfl)) (by decide) (t := .byte) (t' := (.array .byte)) (by decide) (by decide))))
  have z382 : n0 ≤ h379.size := (Nat.le_trans z378 (Keep.of_wr W379).1)
  have pre383 := own_go pre0 (T379.setTop (mkF m 57 #[rv a1, rv a2, iv 0, iv 1, .val .null, rv b366_0] [])) fun t kt => by
    refine XS.aloadN X0.here hx rfl (hb hby d7_0) rfl rfl ?_
    refine st364 _ ?_
    refine XS.iloadN X364.here hx rfl (hb hby d7_4) rfl ?_
    refine XS.ifYes X364.here hx rfl (pc0 := 5) (pc' := 27) rfl (hb hby d7_5) rfl ((if0 _ _).trans (feq (by decide : ¬ ((1 : Int32) = (0 : Int32)))).2) (by decide) (by decide) ?_
    refine st365 _ ?_
    refine XS.ifNo X365.here hx rfl (hb hby d7_30) rfl ((if0 _ _).trans (feq (hcs : ¬ (cs = (0 : Int32)))).1) ?_
    refine XS.aloadN X365.here hx rfl (hb hby d7_33) rfl rfl ?_
    refine XS.iloadN X365.here hx rfl (hb hby d7_34) rfl ?_
    refine XS.iloadN X365.here hx rfl (hb hby d7_35) rfl ?_
    refine st366 _ ?_
    refine XS.astore X366.here hx rfl (hb hby d7_39) rfl rfl (l' := #[rv a1, rv a2, iv 0, iv 1, .val .null, rv b366_0]) rfl ?_
    refine XS.aloadN X366.here hx rfl (hb hby d7_41) rfl rfl ?_
    refine XS.aload X366.here hx rfl (hb hby d7_42) rfl rfl ?_
    refine XS.iloadN X366.here hx rfl (hb hby d7_44) rfl ?_
    refine st370 _ ?_
    refine st371 _ ?_
    refine XS.aloadN X371.here hx rfl (hb hby d7_51) rfl rfl ?_
    refine XS.aload X371.here hx rfl (hb hby d7_52) rfl rfl ?_
    refine st379 _ ?_
    exact kt
  refine own_lv X379 Bd.notSynchronized (v := none) (fun _ => rfl) pre383 (fun fs hr => X379.returnOut hx Bd.returns (hb hby d7_57) hr) ?_
  show Q7_1U Z a1 a2 kc c0 cs h0 n0 _ T379.heap _
  rw [e379]
  exact ⟨b366_0, kk366_0, rfl, N379, K379, g_b366_0, sz_b366_0, (f372.wr W379), (f373.same W379), f381, f380⟩
theorem pd_14 : parseMethodDescriptor "([CIILjava/lang/Void;)V" = some ⟨[(.array .char), .int, .int, (.object "java/lang/Void")], none⟩ := by decide +kernel
theorem d6_0 : decode jdk_42_method_3_code 0 = .ok (.aload_n 0, 1) := by decide +kernel
theorem d6_1 : decode jdk_42_method_3_code 1 = .ok (.aload_n 1, 1) := by decide +kernel
theorem d6_2 : decode jdk_42_method_3_code 2 = .ok (.iconst 0, 1) := by decide +kernel
theorem d6_3 : decode jdk_42_method_3_code 3 = .ok (.aload_n 1, 1) := by decide +kernel
theorem d6_4 : decode jdk_42_method_3_code 4 = .ok (.arraylength, 1) := by decide +kernel
theorem d6_5 : decode jdk_42_method_3_code 5 = .ok (.aconst_null, 1) := by decide +kernel
theorem d6_6 : decode jdk_42_method_3_code 6 = .ok (.invokespecial 27, 3) := by decide +kernel
theorem d6_9 : decode jdk_42_method_3_code 9 = .ok (.return_, 1) := by decide +kernel
theorem pn_6 : plainName "java/lang/String" = true := by first | (simp [plainName, overriddenIn]; done) | decide +kernel
theorem ef_6_1U (m : MethodId) (x0 : Addr) (x1 : Addr) : entryFrame m #[(.ref x0), (.ref x1)] 2 = mkF m 0 #[.val (.ref x0), .val (.ref x1)] [] := by first | (simp [entryFrame, mkF, argsToLocals, Value.category]; done) | rfl
def Q6_1U (Z : State) (a1 : Addr) (a2 : Addr) (kc : ClassId) (c0 : Int32) (cs : Int32) (h0 : Heap) (n0 : Nat) (v : Option Value) (h : Heap) (L : List Loc) : Prop := ∃ (x1 : Addr) (kx1 : ClassId), v = none ∧ Fr n0 L ∧ Keep h0 h [a1] ∧ n0 ≤ x1 ∧ h0.size ≤ x1 ∧ Exa Z h a1 "java/lang/String" ∧ Fld Z h a1 "java/lang/String" "value" "[B" (.ref x1) ∧ Fld Z h a1 "java/lang/String" "coder" "B" (.int 1) ∧ Arv Z h x1 kx1 .byte (2 : Int32) [(.int (own_lo c0)), (.int (own_hi c0))] (.int (0 : Int32))
theorem rm6_1U (l : Launch) (Z : State) (a0 : Array Value) (hw : own_H a0 Z) (ws : List Jvm.Cond) (a1 : Addr) (a2 : Addr) (kc : ClassId) (c0 : Int32) (cs : Int32) (h0 : Heap) (n0 : Nat) (Z0 : n0 ≤ h0.size) (P0 : Exa Z h0 a1 "java/lang/String") (P1 : Fld Z h0 a1 "java/lang/String" "value" "[B" .null) (P2 : Fld Z h0 a1 "java/lang/String" "coder" "B" (.int 0)) (P3 : Arv Z h0 a2 kc .char (1 : Int32) [(.int c0)] (.int (0 : Int32))) (P4 : Old Z n0 h0) (R5 : own_SC Z Z.heap cs) (R6 : Sta Z Z.heap "java/lang/StringUTF16" "$assertionsDisabled" "Z" (.int 1)) (R7 : Sta Z Z.heap "java/lang/StringUTF16" "HI_BYTE_SHIFT" "I" (.int 0)) (R8 : Sta Z Z.heap "java/lang/StringUTF16" "LO_BYTE_SHIFT" "I" (.int 8)) (ne_a2_a1 : a2 ≠ a1) (g_a1 : n0 ≤ a1) (hcs : ¬ cs = (0 : Int32)) (hU : (255 : Int32) < c0) (hr0 : ¬ c0 < (0 : Int32) ∧ ¬ (65535 : Int32) < c0) :
    own_M l Z (⟨"java/lang/String", "<init>", "([C)V"⟩ : MethodName) jdk_42_method_3_code 2 none ws ({ frames := 5, cells := 2, slots := 3, locals := 74 } : Room) #[(.ref a1), (.ref a2)] h0 (Q6_1U Z a1 a2 kc c0 cs h0 n0) := by
  refine own_bd (n0 := n0) (plainFor_of_name pn_6) fun p e s m below meth c s₁ Bd hZ hx hby hml hown X0 e0 N0 => ?_
  have pre0 := own_p0 (tb := p.tables) (e := e) (below := below) (s := s₁) (ef_6_1U m a1 a2)
  obtain ⟨cl384, Ar384, -, Sz384, Nz384, -, -⟩ := id P3
  obtain ⟨_, T385, L385, X385, hQ385, st385⟩ := own_cI X0 hx hZ hml hown rfl (ow hw 26 rfl) (ow hw 27 rfl) (ow hw 22 rfl) (ow hw 29 rfl) e0 (rm7_1U l Z a0 hw [] a1 a2 kc c0 cs h0 n0 Z0 P0 P1 P2 P3 P4 R5 R6 R7 R8 ne_a2_a1 g_a1 hcs hU hr0) (W := 0) (g := (mkF m 6 #[rv a1, rv a2] [.null, (.int 1), (.int 0), (.ref a2), (.ref a1)])) (argsL := [(.ref a2), (.int 0), (.int 1), .null]) (rest := []) (lenOf pd_14 rfl) (hb hby d6_6)
  obtain ⟨b385_0, kk385_0, rfl, N385q, K385q, ga385_0, gz385_0, q385_0, q385_1, q385_2, q385_3⟩ := hQ385
  have N385 := Fr.app N0 N385q
  have ne386 : a1 ≠ b385_0 := Nat.ne_of_lt (Nat.lt_of_lt_of_le P0.lt gz385_0)
  have ne387 : a2 ≠ b385_0 := Nat.ne_of_lt (Nat.lt_of_lt_of_le P3.lt gz385_0)
  have g_b385_0 : n0 ≤ b385_0 := ga385_0
  have sz_b385_0 : h0.size ≤ b385_0 := Nat.le_trans (Keep.refl h0 [a1]).1 gz385_0
  have K385 : Keep h0 T385.heap [a1] := (Keep.refl h0 [a1]).trans K385q (allS (Or.inl (by simp)) all0)
  have f388 := (P3.keep K385q (ninS ne_a2_a1 nin0))
  have f389 := (P4.keep K385q (allS g_a1 all0))
  have pre390 := own_go pre0 (T385.setTop (mkF m 9 #[rv a1, rv a2] [])) fun t kt => by
    refine XS.aloadN X0.here hx rfl (hb hby d6_0) rfl rfl ?_
    refine XS.aloadN X0.here hx rfl (hb hby d6_1) rfl rfl ?_
    refine XS.iconst X0.here hx rfl (hb hby d6_2) ?_
    refine XS.aloadN X0.here hx rfl (hb hby d6_3) rfl rfl ?_
    refine X0.arraylength hx (by rw [e0]; exact Ar384.1) (State.isArrayOf_alike hZ.alike Ar384.2.1) (g := (mkF m 4 #[rv a1, rv a2] [(.ref a2), (.int 0), (.ref a2), (.ref a1)])) rfl rfl (hb hby d6_4) _ ?_
    rw [len_of Sz384 Nz384]
    refine XS.aconstNull X0.here hx rfl (hb hby d6_5) ?_
    refine st385 _ ?_
    exact kt
  refine own_lv X385 Bd.notSynchronized (v := none) (fun _ => rfl) pre390 (fun fs hr => X385.returnOut hx Bd.returns (hb hby d6_9) hr) ?_
  show Q6_1U Z a1 a2 kc c0 cs h0 n0 _ T385.heap _
  exact ⟨b385_0, kk385_0, rfl, N385, K385, g_b385_0, sz_b385_0, q385_0, q385_1, q385_2, q385_3⟩
def Q11_1L (Z : State) (a1 : Addr) (kb : ClassId) (y0 : Int32) (h0 : Heap) (n0 : Nat) (v : Option Value) (h : Heap) (L : List Loc) : Prop := v = some (.int 0) ∧ Fr n0 L ∧ h = h0
theorem rm11_1L (l : Launch) (Z : State) (a0 : Array Value) (hw : own_H a0 Z) (ws : List Jvm.Cond) (a1 : Addr) (kb : ClassId) (y0 : Int32) (h0 : Heap) (n0 : Nat) (Z0 : n0 ≤ h0.size) (P0 : Arv Z h0 a1 kb .byte (1 : Int32) [(.int y0)] (.int (0 : Int32))) :
    own_M l Z (⟨"java/lang/StringUTF16", "coderFromArrayLen", "([BI)B"⟩ : MethodName) jdk_52_method_15_code 2 (some .byte) ws ({ frames := 0, cells := 0, slots := 0, locals := 0 } : Room) #[(.ref a1), (.int 1)] h0 (Q11_1L Z a1 kb y0 h0 n0) := by
  refine own_bd (n0 := n0) (plainFor_of_name pn_11) fun p e s m below meth c s₁ Bd hZ hx hby hml hown X0 e0 N0 => ?_
  have pre0 := own_p0 (tb := p.tables) (e := e) (below := below) (s := s₁) (ef_11_1U m a1)
  obtain ⟨cl391, Ar391, -, Sz391, Nz391, -, -⟩ := id P0
  have pre392 := own_go pre0 (s₁.setTop (mkF m 8 #[rv a1, iv 1] [(.int 0)])) fun t kt => by
    refine XS.iloadN X0.here hx rfl (hb hby d11_0) rfl ?_
    refine XS.aloadN X0.here hx rfl (hb hby d11_1) rfl rfl ?_
    refine X0.arraylength hx (by rw [e0]; exact Ar391.1) (State.isArrayOf_alike hZ.alike Ar391.2.1) (g := (mkF m 2 #[rv a1, iv 1] [(.ref a1), (.int 1)])) rfl rfl (hb hby d11_2) _ ?_
    rw [len_of Sz391 Nz391]
    refine XS.isub X0.here hx rfl (hb hby d11_3) rfl ?_
    refine XS.bipush X0.here hx rfl (hb hby d11_4) ?_
    refine XS.iushr X0.here hx rfl (hb hby d11_6) rfl ?_
    refine XS.i2b X0.here hx rfl (hb hby d11_7) rfl ?_
    exact kt
  refine own_lv X0 Bd.notSynchronized (v := some (.int 0)) (own_nv Bd.returns) pre392 (fun fs hr => retN X0 hx (t := .byte) Bd.returns (by simp) (hb hby d11_8) hr) ?_
  show Q11_1L Z a1 kb y0 h0 n0 _ s₁.heap _
  rw [e0]
  exact ⟨rfl, N0, rfl⟩
def Q7_1L (Z : State) (a1 : Addr) (a2 : Addr) (kc : ClassId) (c0 : Int32) (cs : Int32) (h0 : Heap) (n0 : Nat) (v : Option Value) (h : Heap) (L : List Loc) : Prop := ∃ (x1 : Addr) (kx1 : ClassId), v = none ∧ Fr n0 L ∧ Keep h0 h [a1] ∧ n0 ≤ x1 ∧ h0.size ≤ x1 ∧ Exa Z h a1 "java/lang/String" ∧ Fld Z h a1 "java/lang/String" "value" "[B" (.ref x1) ∧ Fld Z h a1 "java/lang/String" "coder" "B" (.int 0) ∧ Arv Z h x1 kx1 .byte (1 : Int32) [(.int (own_by c0))] (.int (0 : Int32))
theorem rm7_1L (l : Launch) (Z : State) (a0 : Array Value) (hw : own_H a0 Z) (ws : List Jvm.Cond) (a1 : Addr) (a2 : Addr) (kc : ClassId) (c0 : Int32) (cs : Int32) (h0 : Heap) (n0 : Nat) (Z0 : n0 ≤ h0.size) (P0 : Exa Z h0 a1 "java/lang/String") (P1 : Fld Z h0 a1 "java/lang/String" "value" "[B" .null) (P2 : Fld Z h0 a1 "java/lang/String" "coder" "B" (.int 0)) (P3 : Arv Z h0 a2 kc .char (1 : Int32) [(.int c0)] (.int (0 : Int32))) (P4 : Old Z n0 h0) (R5 : own_SC Z Z.heap cs) (ne_a2_a1 : a2 ≠ a1) (g_a1 : n0 ≤ a1) (hcs : ¬ cs = (0 : Int32)) (u0 : ¬ (255 : Int32) < c0) :
    own_M l Z (⟨"java/lang/String", "<init>", "([CIILjava/lang/Void;)V"⟩ : MethodName) jdk_42_method_149_code 6 none ws ({ frames := 2, cells := 1, slots := 1, locals := 35 } : Room) #[(.ref a1), (.ref a2), (.int 0), (.int 1), .null] h0 (Q7_1L Z a1 a2 kc c0 cs h0 n0) := by
  refine own_bd (n0 := n0) (plainFor_of_name pn_7) fun p e s m below meth c s₁ Bd hZ hx hby hml hown X0 e0 N0 => ?_
  have hnm := (name_of_methodNamed Bd.named Bd.method).1
  have pre0 := own_p0 (tb := p.tables) (e := e) (below := below) (s := s₁) (ef_7_1U m a1 a2)
  obtain ⟨T393, X393, e393, st393⟩ := initO X0 hx hZ hown (ow hw 30 rfl) (ow hw 31 rfl) (ow hw 32 rfl) e0 (g := (mkF m 1 #[rv a1, rv a2, iv 0, iv 1, .val .null, .unset] [(.ref a1)])) rfl (by rw [hml]; rfl) rfl (hb hby d7_1) (by decide) (W := 0) (by show 2 * 0 + _ ≤ _; exact Nat.le_of_eq rfl) (by decide)
  obtain ⟨T394, X394, e394, st394⟩ := getS2 X393 hx hZ hown (host := "") (Or.inl (ow hw 33 rfl)) Via.refl e393 (R5.ext P4.2) (g := (mkF m 27 #[rv a1, rv a2, iv 0, iv 1, .val .null, .unset] [])) rfl (hb hby d7_27)
  obtain ⟨_, T395, L395, X395, hQ395, st395⟩ := own_cS X394 hx hZ hml hown (ow hw 34 rfl) (ow hw 35 rfl) (ow hw 36 rfl) (ow hw 37 rfl) e394 (rm9_1L l Z a0 hw [] a2 kc c0 h0 n0 Z0 P3 u0) (W := 0) (g := (mkF m 36 #[rv a1, rv a2, iv 0, iv 1, .val .null, .unset] [(.int 1), (.int 0), (.ref a2)])) (argsL := [(.ref a2), (.int 0), (.int 1)]) (rest := []) (lenOf pd_12 rfl) (hb hby d7_36)
  obtain ⟨b395_0, kk395_0, rfl, N395q, K395q, ga395_0, gz395_0, q395_0⟩ := hQ395
  have N395 := Fr.app N0 N395q
  have ne396 : a1 ≠ b395_0 := Nat.ne_of_lt (Nat.lt_of_lt_of_le P0.lt gz395_0)
  have ne397 : a2 ≠ b395_0 := Nat.ne_of_lt (Nat.lt_of_lt_of_le P3.lt gz395_0)
  have g_b395_0 : n0 ≤ b395_0 := ga395_0
  have sz_b395_0 : h0.size ≤ b395_0 := Nat.le_trans (Keep.refl h0 [a1]).1 gz395_0
  have K395 : Keep h0 T395.heap [a1] := (Keep.refl h0 [a1]).trans K395q all0
  have z398 : n0 ≤ T395.heap.size := (Nat.le_trans Z0 (own_ke K395q).1)
  obtain ⟨T399, L399, X399, e399, N399, st399⟩ := own_pS X395 hx hZ hml hown N395 (ow hw 42 rfl) (ow hw 43 rfl) (ow hw 36 rfl) (ow hw 44 rfl) rfl (rm11_1L l Z a0 hw [] b395_0 kk395_0 (own_by c0) T395.heap n0 z398 q395_0) (W := 1) (g := (mkF m 45 #[rv a1, rv a2, iv 0, iv 1, .val .null, rv b395_0] [(.int 1), (.ref b395_0), (.ref a1)])) (argsL := [(.ref b395_0), (.int 1)]) (rest := [(.ref a1)]) (lenOf pd_13 rfl) (hb hby d7_45)
  obtain ⟨T400, h400, X400, e400, W400, st400⟩ := putFN X399 hx hZ hown (ow hw 45 rfl) Via.refl e399 (P2.ext (own_ke K395q)) (P0.ext (own_ke K395q)) (Or.inr ⟨(ow hw 46 rfl), rfl, hnm⟩) (ow hw 21 rfl) (ty := .byte) (v' := (.int (nar .byte (0 : Int32)))) (by decide) rfl (fits_nar_byte _) (g := (mkF m 48 #[rv a1, rv a2, iv 0, iv 1, .val .null, rv b395_0] [(.int 0), (.ref a1)])) rfl rfl (hb hby d7_48)
  have W400' : Wr T395.heap h400 a1 _ (.int 0) := W400
  have N400 := Fr.snoc X400 N399 g_a1
  have K400 : Keep h0 h400 [a1] := K395.wr W400' (Or.inl (by simp))
  have f401 := ((P0.ext (own_ke K395q)).wr W400')
  have f402 := ((P1.ext (own_ke K395q)).other W400' (Or.inr (slot_ne (Or.inr (ow hw 48 rfl)) (Or.inr (ow hw 46 rfl)) (by decide) (t := (.array .byte)) (t' := .byte) (by decide) (by decide))))
  have f403 := ((P3.ext (own_ke K395q)).other W400' ne_a2_a1)
  have f404 := ((P4.ext (own_ke K395q)).wr W400' g_a1)
  have f405 := (q395_0.other W400' (Ne.symm ne396))
  have f406 := ((P2.ext (own_ke K395q)).same W400')
  have z407 : n0 ≤ h400.size := (Nat.le_trans z398 (Keep.of_wr W400').1)
  obtain ⟨T408, h408, X408, e408, W408, st408⟩ := putF X400 hx hZ hown (host := "") (Or.inl (ow hw 47 rfl)) Via.refl e400 f402 f401 (Or.inr ⟨(ow hw 48 rfl), rfl, hnm⟩) (ow hw 21 rfl) (ty := (.array .byte)) (by decide) rfl rfl (g := (mkF m 54 #[rv a1, rv a2, iv 0, iv 1, .val .null, rv b395_0] [(.ref b395_0), (.ref a1)])) rfl rfl (hb hby d7_54)
  have N408 := Fr.snoc X408 N400 g_a1
  have K408 : Keep h0 h408 [a1] := K400.wr W408 (Or.inl (by simp))
  have f409 := (f405.other W408 (Ne.symm ne396))
  have f410 := (f406.other W408 (Or.inr (slot_ne (Or.inr (ow hw 46 rfl)) (Or.inr (ow hw 48 rfl)) (by decide) (t := .byte) (t' := (.array .byte)) (by decide) (by decide))))
  have z411 : n0 ≤ h408.size := (Nat.le_trans z407 (Keep.of_wr W408).1)
  have pre412 := own_go pre0 (T408.setTop (mkF m 57 #[rv a1, rv a2, iv 0, iv 1, .val .null, rv b395_0] [])) fun t kt => by
    refine XS.aloadN X0.here hx rfl (hb hby d7_0) rfl rfl ?_
    refine st393 _ ?_
    refine XS.iloadN X393.here hx rfl (hb hby d7_4) rfl ?_
    refine XS.ifYes X393.here hx rfl (pc0 := 5) (pc' := 27) rfl (hb hby d7_5) rfl ((if0 _ _).trans (feq (by decide : ¬ ((1 : Int32) = (0 : Int32)))).2) (by decide) (by decide) ?_
    refine st394 _ ?_
    refine XS.ifNo X394.here hx rfl (hb hby d7_30) rfl ((if0 _ _).trans (feq (hcs : ¬ (cs = (0 : Int32)))).1) ?_
    refine XS.aloadN X394.here hx rfl (hb hby d7_33) rfl rfl ?_
    refine XS.iloadN X394.here hx rfl (hb hby d7_34) rfl ?_
    refine XS.iloadN X394.here hx rfl (hb hby d7_35) rfl ?_
    refine st395 _ ?_
    refine XS.astore X395.here hx rfl (hb hby d7_39) rfl rfl (l' := #[rv a1, rv a2, iv 0, iv 1, .val .null, rv b395_0]) rfl ?_
    refine XS.aloadN X395.here hx rfl (hb hby d7_41) rfl rfl ?_
    refine XS.aload X395.here hx rfl (hb hby d7_42) rfl rfl ?_
    refine XS.iloadN X395.here hx rfl (hb hby d7_44) rfl ?_
    refine st399 _ ?_
    refine st400 _ ?_
    refine XS.aloadN X400.here hx rfl (hb hby d7_51) rfl rfl ?_
    refine XS.aload X400.here hx rfl (hb hby d7_52) rfl rfl ?_
    refine st408 _ ?_
    exact kt
  refine own_lv X408 Bd.notSynchronized (v := none) (fun _ => rfl) pre412 (fun fs hr => X408.returnOut hx Bd.returns (hb hby d7_57) hr) ?_
  show Q7_1L Z a1 a2 kc c0 cs h0 n0 _ T408.heap _
  rw [e408]
  exact ⟨b395_0, kk395_0, rfl, N408, K408, g_b395_0, sz_b395_0, (f401.wr W408), (f402.same W408), f410, f409⟩
def Q6_1L (Z : State) (a1 : Addr) (a2 : Addr) (kc : ClassId) (c0 : Int32) (cs : Int32) (h0 : Heap) (n0 : Nat) (v : Option Value) (h : Heap) (L : List Loc) : Prop := ∃ (x1 : Addr) (kx1 : ClassId), v = none ∧ Fr n0 L ∧ Keep h0 h [a1] ∧ n0 ≤ x1 ∧ h0.size ≤ x1 ∧ Exa Z h a1 "java/lang/String" ∧ Fld Z h a1 "java/lang/String" "value" "[B" (.ref x1) ∧ Fld Z h a1 "java/lang/String" "coder" "B" (.int 0) ∧ Arv Z h x1 kx1 .byte (1 : Int32) [(.int (own_by c0))] (.int (0 : Int32))
theorem rm6_1L (l : Launch) (Z : State) (a0 : Array Value) (hw : own_H a0 Z) (ws : List Jvm.Cond) (a1 : Addr) (a2 : Addr) (kc : ClassId) (c0 : Int32) (cs : Int32) (h0 : Heap) (n0 : Nat) (Z0 : n0 ≤ h0.size) (P0 : Exa Z h0 a1 "java/lang/String") (P1 : Fld Z h0 a1 "java/lang/String" "value" "[B" .null) (P2 : Fld Z h0 a1 "java/lang/String" "coder" "B" (.int 0)) (P3 : Arv Z h0 a2 kc .char (1 : Int32) [(.int c0)] (.int (0 : Int32))) (P4 : Old Z n0 h0) (R5 : own_SC Z Z.heap cs) (ne_a2_a1 : a2 ≠ a1) (g_a1 : n0 ≤ a1) (hcs : ¬ cs = (0 : Int32)) (u0 : ¬ (255 : Int32) < c0) :
    own_M l Z (⟨"java/lang/String", "<init>", "([C)V"⟩ : MethodName) jdk_42_method_3_code 2 none ws ({ frames := 5, cells := 2, slots := 3, locals := 74 } : Room) #[(.ref a1), (.ref a2)] h0 (Q6_1L Z a1 a2 kc c0 cs h0 n0) := by
  refine own_bd (n0 := n0) (plainFor_of_name pn_6) fun p e s m below meth c s₁ Bd hZ hx hby hml hown X0 e0 N0 => ?_
  have pre0 := own_p0 (tb := p.tables) (e := e) (below := below) (s := s₁) (ef_6_1U m a1 a2)
  obtain ⟨cl413, Ar413, -, Sz413, Nz413, -, -⟩ := id P3
  obtain ⟨_, T414, L414, X414, hQ414, st414⟩ := own_cI X0 hx hZ hml hown rfl (ow hw 26 rfl) (ow hw 27 rfl) (ow hw 22 rfl) (ow hw 29 rfl) e0 (rm7_1L l Z a0 hw [] a1 a2 kc c0 cs h0 n0 Z0 P0 P1 P2 P3 P4 R5 ne_a2_a1 g_a1 hcs u0) (W := 0) (g := (mkF m 6 #[rv a1, rv a2] [.null, (.int 1), (.int 0), (.ref a2), (.ref a1)])) (argsL := [(.ref a2), (.int 0), (.int 1), .null]) (rest := []) (lenOf pd_14 rfl) (hb hby d6_6)
  obtain ⟨b414_0, kk414_0, rfl, N414q, K414q, ga414_0, gz414_0, q414_0, q414_1, q414_2, q414_3⟩ := hQ414
  have N414 := Fr.app N0 N414q
  have ne415 : a1 ≠ b414_0 := Nat.ne_of_lt (Nat.lt_of_lt_of_le P0.lt gz414_0)
  have ne416 : a2 ≠ b414_0 := Nat.ne_of_lt (Nat.lt_of_lt_of_le P3.lt gz414_0)
  have g_b414_0 : n0 ≤ b414_0 := ga414_0
  have sz_b414_0 : h0.size ≤ b414_0 := Nat.le_trans (Keep.refl h0 [a1]).1 gz414_0
  have K414 : Keep h0 T414.heap [a1] := (Keep.refl h0 [a1]).trans K414q (allS (Or.inl (by simp)) all0)
  have f417 := (P3.keep K414q (ninS ne_a2_a1 nin0))
  have f418 := (P4.keep K414q (allS g_a1 all0))
  have pre419 := own_go pre0 (T414.setTop (mkF m 9 #[rv a1, rv a2] [])) fun t kt => by
    refine XS.aloadN X0.here hx rfl (hb hby d6_0) rfl rfl ?_
    refine XS.aloadN X0.here hx rfl (hb hby d6_1) rfl rfl ?_
    refine XS.iconst X0.here hx rfl (hb hby d6_2) ?_
    refine XS.aloadN X0.here hx rfl (hb hby d6_3) rfl rfl ?_
    refine X0.arraylength hx (by rw [e0]; exact Ar413.1) (State.isArrayOf_alike hZ.alike Ar413.2.1) (g := (mkF m 4 #[rv a1, rv a2] [(.ref a2), (.int 0), (.ref a2), (.ref a1)])) rfl rfl (hb hby d6_4) _ ?_
    rw [len_of Sz413 Nz413]
    refine XS.aconstNull X0.here hx rfl (hb hby d6_5) ?_
    refine st414 _ ?_
    exact kt
  refine own_lv X414 Bd.notSynchronized (v := none) (fun _ => rfl) pre419 (fun fs hr => X414.returnOut hx Bd.returns (hb hby d6_9) hr) ?_
  show Q6_1L Z a1 a2 kc c0 cs h0 n0 _ T414.heap _
  exact ⟨b414_0, kk414_0, rfl, N414, K414, g_b414_0, sz_b414_0, q414_0, q414_1, q414_2, q414_3⟩
def own_S1 (Z : State) (h : Heap) (a : Addr) (c0 : Int32) : Prop := (∃ (wt : Addr) (kt : ClassId), Exa Z h a "java/lang/String" ∧ Fld Z h a "java/lang/String" "value" "[B" (.ref wt) ∧ Fld Z h a "java/lang/String" "coder" "B" (.int 0) ∧ Arv Z h wt kt .byte 1 [(.int (own_by c0))] (.int 0) ∧ (¬ c0 < (0 : Int32) ∧ ¬ (255 : Int32) < c0)) ∨ (∃ (wt : Addr) (kt : ClassId), Exa Z h a "java/lang/String" ∧ Fld Z h a "java/lang/String" "value" "[B" (.ref wt) ∧ Fld Z h a "java/lang/String" "coder" "B" (.int 1) ∧ Arv Z h wt kt .byte 2 [(.int (own_lo c0)), (.int (own_hi c0))] (.int 0) ∧ (¬ c0 < (0 : Int32) ∧ ¬ (65535 : Int32) < c0))
theorem rmNS_1 (l : Launch) (Z : State) (a0 : Array Value) (hw : own_H a0 Z) (ws : List Jvm.Cond) (a1 : Addr) (a2 : Addr) (kc : ClassId) (c0 : Int32) (cs : Int32) (h0 : Heap) (n0 : Nat) (Z0 : n0 ≤ h0.size) (P0 : Exa Z h0 a1 "java/lang/String") (P1 : Fld Z h0 a1 "java/lang/String" "value" "[B" .null) (P2 : Fld Z h0 a1 "java/lang/String" "coder" "B" (.int 0)) (P3 : Arv Z h0 a2 kc .char (1 : Int32) [(.int c0)] (.int (0 : Int32))) (P4 : Old Z n0 h0) (R5 : own_SC Z Z.heap cs) (R6 : Sta Z Z.heap "java/lang/StringUTF16" "$assertionsDisabled" "Z" (.int 1)) (R7 : Sta Z Z.heap "java/lang/StringUTF16" "HI_BYTE_SHIFT" "I" (.int 0)) (R8 : Sta Z Z.heap "java/lang/StringUTF16" "LO_BYTE_SHIFT" "I" (.int 8)) (ne_a2_a1 : a2 ≠ a1) (g_a1 : n0 ≤ a1) (hcs : ¬ cs = (0 : Int32)) (hr0 : ¬ c0 < (0 : Int32) ∧ ¬ (65535 : Int32) < c0) :
    own_M l Z (⟨"java/lang/String", "<init>", "([C)V"⟩ : MethodName) jdk_42_method_3_code 2 none ws ({ frames := 5, cells := 2, slots := 3, locals := 74 } : Room) #[(.ref a1), (.ref a2)] h0 (fun v h L => v = none ∧ Fr n0 L ∧ Keep h0 h [a1] ∧ own_S1 Z h a1 c0) := by
  by_cases hU : (255 : Int32) < c0
  · refine own_mono (rm6_1U l Z a0 hw ws a1 a2 kc c0 cs h0 n0 Z0 P0 P1 P2 P3 P4 R5 R6 R7 R8 ne_a2_a1 g_a1 hcs hU hr0) ?_
    rintro v h L ⟨x1, kx1, rfl, N, K, -, -, E, FV, FC, A⟩
    exact ⟨rfl, N, K, Or.inr ⟨x1, kx1, E, FV, FC, A, hr0⟩⟩
  · refine own_mono (rm6_1L l Z a0 hw ws a1 a2 kc c0 cs h0 n0 Z0 P0 P1 P2 P3 P4 R5 ne_a2_a1 g_a1 hcs (fun q => hU q)) ?_
    rintro v h L ⟨x1, kx1, rfl, N, K, -, -, E, FV, FC, A⟩
    exact ⟨rfl, N, K, Or.inl ⟨x1, kx1, E, FV, FC, A, ⟨hr0.1, (fun q => hU q)⟩⟩⟩
theorem rmCH_10 (l : Launch) (Z : State) (a0 : Array Value) (hw : own_H a0 Z) (ws : List Jvm.Cond) (a1 : Addr) (c0 : Int32) (cs : Int32) (vf : Value) (h0 : Heap) (n0 : Nat) (Z0 : n0 ≤ h0.size) (hS : own_S1 Z h0 a1 c0) (SC : own_SC Z h0 cs) (hcs : ¬ cs = (0 : Int32)) (SF : Sta Z h0 "jdk/internal/util/Preconditions" "SIOOBE_FORMATTER" "Ljava/util/function/BiFunction;" vf) (hvf : vf.isRef = true) (SA : own_SA Z h0) (SH : own_SH Z h0) (SL : own_SL Z h0) :
    own_M l Z (⟨"java/lang/String", "charAt", "(I)C"⟩ : MethodName) jdk_42_method_56_code 2 (some .char) ws ({ frames := 4, cells := 0, slots := 0, locals := 53 } : Room) #[(.ref a1), (.int 0)] h0 (fun v h L => v = some (.int c0) ∧ Fr n0 L ∧ h = h0) := by
  rcases hS with ⟨wt, kt, E1, FV, FC, A, hr0⟩ | ⟨wt, kt, E1, FV, FC, A, hr0⟩
  · obtain ⟨cl, Ar, -, Sz, Nz, Hs, -⟩ := A
    have q := rm16L l Z a0 hw ws a1 (0 : Int32) wt cl (1 : Int32) (own_by c0) cs vf h0 n0 Z0 E1 FC FV Ar Sz Nz (by decide) (by decide) (Has.at Hs (inb_of Sz ⟨by decide, by decide⟩) rfl) SC hcs SF hvf
    unfold Q16L at q
    rw [own_rtL hr0] at q
    exact q
  · obtain ⟨cl, Ar, -, Sz, Nz, Hs, -⟩ := A
    have q := rm16U l Z a0 hw ws a1 (0 : Int32) wt cl (2 : Int32) (own_lo c0) (own_hi c0) vf cs h0 n0 Z0 E1 FC FV Ar Sz Nz (by decide) (by decide) (inb_of Sz ⟨by decide, by decide⟩) (Has.at Hs (inb_of Sz ⟨by decide, by decide⟩) rfl) (inb_of Sz ⟨by decide, by decide⟩) (Has.at Hs (inb_of Sz ⟨by decide, by decide⟩) rfl) SA SH SL SF hvf SC hcs
    unfold Q16U at q
    rw [own_rtU hr0, own_ncz hr0, own_ncz hr0] at q
    exact q
theorem rmLN_1 (l : Launch) (Z : State) (a0 : Array Value) (hw : own_H a0 Z) (ws : List Jvm.Cond) (a1 : Addr) (c0 : Int32) (cs : Int32) (vf : Value) (h0 : Heap) (n0 : Nat) (Z0 : n0 ≤ h0.size) (hS : own_S1 Z h0 a1 c0) (SC : own_SC Z h0 cs) (hcs : ¬ cs = (0 : Int32)) (SF : Sta Z h0 "jdk/internal/util/Preconditions" "SIOOBE_FORMATTER" "Ljava/util/function/BiFunction;" vf) (hvf : vf.isRef = true) (SA : own_SA Z h0) (SH : own_SH Z h0) (SL : own_SL Z h0) :
    own_M l Z (⟨"java/lang/String", "length", "()I"⟩ : MethodName) jdk_42_method_54_code 1 (some .int) ws ({ frames := 1, cells := 0, slots := 0, locals := 13 } : Room) #[(.ref a1)] h0 (fun v h L => v = some (.int 1) ∧ Fr n0 L ∧ h = h0) := by
  rcases hS with ⟨wt, kt, E1, FV, FC, A, hr0⟩ | ⟨wt, kt, E1, FV, FC, A, hr0⟩
  · obtain ⟨cl, Ar, -, Sz, Nz, Hs, -⟩ := A
    exact rm14L l Z a0 hw ws a1 wt cl (1 : Int32) cs h0 n0 Z0 E1 FC FV Ar Sz Nz SC hcs
  · obtain ⟨cl, Ar, -, Sz, Nz, Hs, -⟩ := A
    exact rm14U l Z a0 hw ws a1 wt cl (2 : Int32) cs h0 n0 Z0 E1 FC FV Ar Sz Nz SC hcs
theorem rmEM_1 (l : Launch) (Z : State) (a0 : Array Value) (hw : own_H a0 Z) (ws : List Jvm.Cond) (a1 : Addr) (c0 : Int32) (cs : Int32) (vf : Value) (h0 : Heap) (n0 : Nat) (Z0 : n0 ≤ h0.size) (hS : own_S1 Z h0 a1 c0) (SC : own_SC Z h0 cs) (hcs : ¬ cs = (0 : Int32)) (SF : Sta Z h0 "jdk/internal/util/Preconditions" "SIOOBE_FORMATTER" "Ljava/util/function/BiFunction;" vf) (hvf : vf.isRef = true) (SA : own_SA Z h0) (SH : own_SH Z h0) (SL : own_SL Z h0) :
    own_M l Z (⟨"java/lang/String", "isEmpty", "()Z"⟩ : MethodName) jdk_42_method_55_code 1 (some .boolean) ws ({ frames := 0, cells := 0, slots := 0, locals := 0 } : Room) #[(.ref a1)] h0 (fun v h L => v = some (.int 0) ∧ Fr n0 L ∧ h = h0) := by
  rcases hS with ⟨wt, kt, E1, FV, FC, A, hr0⟩ | ⟨wt, kt, E1, FV, FC, A, hr0⟩
  · obtain ⟨cl, Ar, -, Sz, Nz, Hs, -⟩ := A
    exact rm13 l Z a0 hw ws a1 wt cl (1 : Int32) h0 n0 Z0 FV Ar Sz Nz (by decide)
  · obtain ⟨cl, Ar, -, Sz, Nz, Hs, -⟩ := A
    exact rm13 l Z a0 hw ws a1 wt cl (2 : Int32) h0 n0 Z0 FV Ar Sz Nz (by decide)
theorem own_Exa1 {Z : State} {h : Heap} {a : Addr} {c0 : Int32} (hS : own_S1 Z h a c0) : Exa Z h a "java/lang/String" := by
  rcases hS with ⟨_, _, E, -⟩ | ⟨_, _, E, -⟩ <;> exact E
theorem pd_15 : parseMethodDescriptor "()I" = some ⟨[], some .int⟩ := by decide +kernel
theorem pd_16 : parseMethodDescriptor "(I)C" = some ⟨[.int], some .char⟩ := by decide +kernel
theorem d12_0 : decode prog_23_method_2_code 0 = .ok (.aload_n 0, 1) := by decide +kernel
theorem d12_1 : decode prog_23_method_2_code 1 = .ok (.invokevirtual 7, 3) := by decide +kernel
theorem d12_4 : decode prog_23_method_2_code 4 = .ok (.ifCond .eq 13, 3) := by decide +kernel
theorem d12_17 : decode prog_23_method_2_code 17 = .ok (.iconst 0, 1) := by decide +kernel
theorem d12_18 : decode prog_23_method_2_code 18 = .ok (.istore_n 1, 1) := by decide +kernel
theorem d12_19 : decode prog_23_method_2_code 19 = .ok (.iload_n 1, 1) := by decide +kernel
theorem d12_20 : decode prog_23_method_2_code 20 = .ok (.aload_n 0, 1) := by decide +kernel
theorem d12_21 : decode prog_23_method_2_code 21 = .ok (.invokevirtual 20, 3) := by decide +kernel
theorem d12_24 : decode prog_23_method_2_code 24 = .ok (.if_icmp .ge 122, 3) := by decide +kernel
theorem d12_27 : decode prog_23_method_2_code 27 = .ok (.aload_n 0, 1) := by decide +kernel
theorem d12_28 : decode prog_23_method_2_code 28 = .ok (.iload_n 1, 1) := by decide +kernel
theorem d12_29 : decode prog_23_method_2_code 29 = .ok (.invokevirtual 24, 3) := by decide +kernel
theorem d12_32 : decode prog_23_method_2_code 32 = .ok (.istore_n 2, 1) := by decide +kernel
theorem d12_33 : decode prog_23_method_2_code 33 = .ok (.iload_n 2, 1) := by decide +kernel
theorem d12_34 : decode prog_23_method_2_code 34 = .ok (.bipush 9, 2) := by decide +kernel
theorem d12_36 : decode prog_23_method_2_code 36 = .ok (.if_icmp .ne 20, 3) := by decide +kernel
theorem d12_56 : decode prog_23_method_2_code 56 = .ok (.iload_n 2, 1) := by decide +kernel
theorem d12_57 : decode prog_23_method_2_code 57 = .ok (.invokestatic 37, 3) := by decide +kernel
theorem d12_60 : decode prog_23_method_2_code 60 = .ok (.ifCond .eq 20, 3) := by decide +kernel
theorem d12_80 : decode prog_23_method_2_code 80 = .ok (.iload_n 2, 1) := by decide +kernel
theorem d12_81 : decode prog_23_method_2_code 81 = .ok (.invokestatic 42, 3) := by decide +kernel
theorem d12_84 : decode prog_23_method_2_code 84 = .ok (.ifCond .eq 32, 3) := by decide +kernel
theorem d12_116 : decode prog_23_method_2_code 116 = .ok (.iload_n 2, 1) := by decide +kernel
theorem d12_117 : decode prog_23_method_2_code 117 = .ok (.invokestatic 50, 3) := by decide +kernel
theorem d12_120 : decode prog_23_method_2_code 120 = .ok (.ifCond .eq 20, 3) := by decide +kernel
theorem d12_140 : decode prog_23_method_2_code 140 = .ok (.iinc 1 1, 3) := by decide +kernel
theorem d12_143 : decode prog_23_method_2_code 143 = .ok (.goto (-124), 3) := by decide +kernel
theorem d12_146 : decode prog_23_method_2_code 146 = .ok (.return_, 1) := by decide +kernel
theorem pn_12 : plainName "com/example/lexiflow/lexiflow/model/Ids" = true := by first | (simp [plainName, overriddenIn]; done) | decide +kernel
theorem ef_12_1 (m : MethodId) (x0 : Addr) : entryFrame m #[(.ref x0)] 3 = mkF m 0 #[.val (.ref x0), .unset, .unset] [] := by first | (simp [entryFrame, mkF, argsToLocals, Value.category]; done) | rfl
def Q12_1 (Z : State) (a1 : Addr) (c0 : Int32) (cs : Int32) (vf : Value) (h0 : Heap) (n0 : Nat) (v : Option Value) (h : Heap) (L : List Loc) : Prop := v = none ∧ Fr n0 L ∧ h = h0
theorem rm12_1 (l : Launch) (Z : State) (a0 : Array Value) (hw : own_H a0 Z) (ws : List Jvm.Cond) (a1 : Addr) (c0 : Int32) (cs : Int32) (vf : Value) (h0 : Heap) (n0 : Nat) (Z0 : n0 ≤ h0.size) (hS : own_S1 Z h0 a1 c0) (SC : own_SC Z h0 cs) (hcs : ¬ cs = (0 : Int32)) (SF : Sta Z h0 "jdk/internal/util/Preconditions" "SIOOBE_FORMATTER" "Ljava/util/function/BiFunction;" vf) (hvf : vf.isRef = true) (SA : own_SA Z h0) (SH : own_SH Z h0) (SL : own_SL Z h0) (hk0 : own_F3 c0 = (0 : Int32) ∧ (¬ own_F4 c0 = (0 : Int32) → False) ∧ (own_F4 c0 = (0 : Int32) → ¬ own_F5 c0 = (0 : Int32) → False)) :
    own_M l Z (⟨"com/example/lexiflow/lexiflow/model/Ids", "check", "(Ljava/lang/String;)V"⟩ : MethodName) prog_23_method_2_code 3 none ws ({ frames := 5, cells := 0, slots := 0, locals := 66 } : Room) #[(.ref a1)] h0 (Q12_1 Z a1 c0 cs vf h0 n0) := by
  refine own_bd (n0 := n0) (plainFor_of_name pn_12) fun p e s m below meth c s₁ Bd hZ hx hby hml hown X0 e0 N0 => ?_
  have pre0 := own_p0 (tb := p.tables) (e := e) (below := below) (s := s₁) (ef_12_1 m a1)
  obtain ⟨T420, L420, X420, e420, N420, st420⟩ := own_pV X0 hx hZ hml hown N0 (ow hw 53 rfl) (ow hw 54 rfl) (notFace_of_selects (args := #[]) (mvT hZ (ow hw 56 rfl))) (ow hw 56 rfl) (ow hw 55 rfl) (ow hw 22 rfl) (ow hw 57 rfl) e0 (rmEM_1 l Z a0 hw [] a1 c0 cs vf h0 n0 Z0 hS SC hcs SF hvf SA SH SL) (own_Exa1 hS) (W := 0) (g := (mkF m 1 #[rv a1, .unset, .unset] [(.ref a1)])) (argsL := []) (rest := []) (lenOf pd_3 rfl) (hb hby d12_1)
  obtain ⟨T421, L421, X421, e421, N421, st421⟩ := own_pV X420 hx hZ hml hown N420 (ow hw 58 rfl) (ow hw 59 rfl) (notFace_of_selects (args := #[]) (mvT hZ (ow hw 61 rfl))) (ow hw 61 rfl) (ow hw 60 rfl) (ow hw 22 rfl) (ow hw 62 rfl) e420 (rmLN_1 l Z a0 hw [] a1 c0 cs vf h0 n0 Z0 hS SC hcs SF hvf SA SH SL) (own_Exa1 hS) (W := 1) (g := (mkF m 21 #[rv a1, iv 0, .unset] [(.ref a1), (.int 0)])) (argsL := []) (rest := [(.int 0)]) (lenOf pd_15 rfl) (hb hby d12_21)
  obtain ⟨T422, L422, X422, e422, N422, st422⟩ := own_pV X421 hx hZ hml hown N421 (ow hw 68 rfl) (ow hw 69 rfl) (notFace_of_selects (args := #[]) (mvT hZ (ow hw 71 rfl))) (ow hw 71 rfl) (ow hw 70 rfl) (ow hw 22 rfl) (ow hw 72 rfl) e421 (rmCH_10 l Z a0 hw [] a1 c0 cs vf h0 n0 Z0 hS SC hcs SF hvf SA SH SL) (own_Exa1 hS) (W := 0) (g := (mkF m 29 #[rv a1, iv 0, .unset] [(.int 0), (.ref a1)])) (argsL := [(.int 0)]) (rest := []) (lenOf pd_16 rfl) (hb hby d12_29)
  obtain ⟨T423, L423, X423, e423, N423, st423⟩ := own_pS X422 hx hZ hml hown N422 (ow hw 90 rfl) (ow hw 91 rfl) (ow hw 51 rfl) (ow hw 92 rfl) e422 (rm21 l Z a0 hw [] c0 h0 n0 Z0) (W := 0) (g := (mkF m 57 #[rv a1, iv 0, iv c0] [(.int c0)])) (argsL := [(.int c0)]) (rest := []) (lenOf pd_0 rfl) (hb hby d12_57)
  obtain ⟨T424, L424, X424, e424, N424, st424⟩ := own_pS X423 hx hZ hml hown N423 (ow hw 93 rfl) (ow hw 94 rfl) (ow hw 95 rfl) (ow hw 96 rfl) e423 (rm22 l Z a0 hw [] c0 h0 n0 Z0) (W := 0) (g := (mkF m 81 #[rv a1, iv 0, iv c0] [(.int c0)])) (argsL := [(.int c0)]) (rest := []) (lenOf pd_0 rfl) (hb hby d12_81)
  obtain ⟨T425, L425, X425, e425, N425, st425⟩ := own_pS X424 hx hZ hml hown N424 (ow hw 98 rfl) (ow hw 99 rfl) (ow hw 95 rfl) (ow hw 100 rfl) e424 (rm23 l Z a0 hw [] c0 h0 n0 Z0) (W := 0) (g := (mkF m 117 #[rv a1, iv 0, iv c0] [(.int c0)])) (argsL := [(.int c0)]) (rest := []) (lenOf pd_0 rfl) (hb hby d12_117)
  obtain ⟨T426, L426, X426, e426, N426, st426⟩ := own_pV X425 hx hZ hml hown N425 (ow hw 58 rfl) (ow hw 59 rfl) (notFace_of_selects (args := #[]) (mvT hZ (ow hw 61 rfl))) (ow hw 61 rfl) (ow hw 60 rfl) (ow hw 22 rfl) (ow hw 62 rfl) e425 (rmLN_1 l Z a0 hw [] a1 c0 cs vf h0 n0 Z0 hS SC hcs SF hvf SA SH SL) (own_Exa1 hS) (W := 1) (g := (mkF m 21 #[rv a1, iv 1, iv c0] [(.ref a1), (.int 1)])) (argsL := []) (rest := [(.int 1)]) (lenOf pd_15 rfl) (hb hby d12_21)
  have pre427 := own_go pre0 (T426.setTop (mkF m 146 #[rv a1, iv 1, iv c0] [])) fun t kt => by
    refine XS.aloadN X0.here hx rfl (hb hby d12_0) rfl rfl ?_
    refine st420 _ ?_
    refine XS.ifYes X420.here hx rfl (pc0 := 4) (pc' := 17) rfl (hb hby d12_4) rfl ((if0 _ _).trans (teq (by decide : (0 : Int32) = (0 : Int32))).1) (by decide) (by decide) ?_
    refine XS.iconst X420.here hx rfl (hb hby d12_17) ?_
    refine XS.istoreN X420.here hx rfl (hb hby d12_18) rfl (l' := #[rv a1, iv 0, .unset]) rfl ?_
    refine XS.iloadN X420.here hx rfl (hb hby d12_19) rfl ?_
    refine XS.aloadN X420.here hx rfl (hb hby d12_20) rfl rfl ?_
    refine st421 _ ?_
    refine XS.icmpNo X421.here hx rfl (hb hby d12_24) rfl (tlt (by decide : (0 : Int32) < (1 : Int32))).2.1 ?_
    refine XS.aloadN X421.here hx rfl (hb hby d12_27) rfl rfl ?_
    refine XS.iloadN X421.here hx rfl (hb hby d12_28) rfl ?_
    refine st422 _ ?_
    refine XS.istoreN X422.here hx rfl (hb hby d12_32) rfl (l' := #[rv a1, iv 0, iv c0]) rfl ?_
    refine XS.iloadN X422.here hx rfl (hb hby d12_33) rfl ?_
    refine XS.bipush X422.here hx rfl (hb hby d12_34) ?_
    refine XS.icmpYes X422.here hx rfl (pc0 := 36) (pc' := 56) rfl (hb hby d12_36) rfl (feq ((own_lb _ hk0.1).1 : ¬ (c0 = (9 : Int32)))).2 (by decide) (by decide) ?_
    refine XS.iloadN X422.here hx rfl (hb hby d12_56) rfl ?_
    refine st423 _ ?_
    refine XS.ifYes X423.here hx rfl (pc0 := 60) (pc' := 80) rfl (hb hby d12_60) rfl ((if0 _ _).trans (teq ((own_lb _ hk0.1).2 : (own_F21 c0) = (0 : Int32))).1) (by decide) (by decide) ?_
    refine XS.iloadN X423.here hx rfl (hb hby d12_80) rfl ?_
    refine st424 _ ?_
    refine XS.ifYes X424.here hx rfl (pc0 := 84) (pc' := 116) rfl (hb hby d12_84) rfl ((if0 _ _).trans (teq ((by rw [own_hs]; exact Classical.byContradiction fun q => hk0.2.1 q) : (own_F22 c0) = (0 : Int32))).1) (by decide) (by decide) ?_
    refine XS.iloadN X424.here hx rfl (hb hby d12_116) rfl ?_
    refine st425 _ ?_
    refine XS.ifYes X425.here hx rfl (pc0 := 120) (pc' := 140) rfl (hb hby d12_120) rfl ((if0 _ _).trans (teq ((own_is _ (Classical.byContradiction fun q => hk0.2.1 q) (Classical.byContradiction fun q => hk0.2.2 (Classical.byContradiction fun q => hk0.2.1 q) q)) : (own_F23 c0) = (0 : Int32))).1) (by decide) (by decide) ?_
    refine XS.iinc X425.here hx rfl (hb hby d12_140) rfl (l' := #[rv a1, iv 1, iv c0]) rfl ?_
    refine XS.goto X425.here hx rfl (pc0 := 143) (pc' := 19) rfl (hb hby d12_143) (by decide) (by decide) ?_
    refine XS.iloadN X425.here hx rfl (hb hby d12_19) rfl ?_
    refine XS.aloadN X425.here hx rfl (hb hby d12_20) rfl rfl ?_
    refine st426 _ ?_
    refine XS.icmpYes X426.here hx rfl (pc0 := 24) (pc' := 146) rfl (hb hby d12_24) rfl (flt (by decide : ¬ ((1 : Int32) < (1 : Int32)))).2.1 (by decide) (by decide) ?_
    exact kt
  refine own_lv X426 Bd.notSynchronized (v := none) (fun _ => rfl) pre427 (fun fs hr => X426.returnOut hx Bd.returns (hb hby d12_146) hr) ?_
  show Q12_1 Z a1 c0 cs vf h0 n0 _ T426.heap _
  rw [e426]
  exact ⟨rfl, N426, rfl⟩
def Q27_20 (Z : State) (a1 : Addr) (p3 : Int32) (kb : ClassId) (y0 : Int32) (y1 : Int32) (y2 : Int32) (y3 : Int32) (h0 : Heap) (n0 : Nat) (v : Option Value) (h : Heap) (L : List Loc) : Prop := v = none ∧ Fr n0 L ∧ Keep h0 h [a1] ∧ Arv Z h a1 kb .byte (4 : Int32) [(.int (own_lo p3)), (.int (own_hi p3)), (.int y2), (.int y3)] (.int (0 : Int32))
theorem rm27_20 (l : Launch) (Z : State) (a0 : Array Value) (hw : own_H a0 Z) (ws : List Jvm.Cond) (a1 : Addr) (p3 : Int32) (kb : ClassId) (y0 : Int32) (y1 : Int32) (y2 : Int32) (y3 : Int32) (h0 : Heap) (n0 : Nat) (Z0 : n0 ≤ h0.size) (P0 : Arv Z h0 a1 kb .byte (4 : Int32) [(.int y0), (.int y1), (.int y2), (.int y3)] (.int (0 : Int32))) (P1 : Old Z n0 h0) (R2 : Sta Z Z.heap "java/lang/StringUTF16" "$assertionsDisabled" "Z" (.int 1)) (R3 : Sta Z Z.heap "java/lang/StringUTF16" "HI_BYTE_SHIFT" "I" (.int 0)) (R4 : Sta Z Z.heap "java/lang/StringUTF16" "LO_BYTE_SHIFT" "I" (.int 8)) (g_a1 : n0 ≤ a1) :
    own_M l Z (⟨"java/lang/StringUTF16", "putChar", "([BII)V"⟩ : MethodName) jdk_52_method_4_code 3 none ws ({ frames := 0, cells := 0, slots := 0, locals := 0 } : Room) #[(.ref a1), (.int 0), (.int p3)] h0 (Q27_20 Z a1 p3 kb y0 y1 y2 y3 h0 n0) := by
  refine own_bd (n0 := n0) (plainFor_of_name pn_27) fun p e s m below meth c s₁ Bd hZ hx hby hml hown X0 e0 N0 => ?_
  have pre0 := own_p0 (tb := p.tables) (e := e) (below := below) (s := s₁) (ef_27_10 m a1 p3)
  obtain ⟨T428, X428, e428, st428⟩ := getS2 X0 hx hZ hown (host := "") (Or.inl (ow hw 119 rfl)) Via.refl e0 (R2.ext P1.2) (g := (mkF m 0 #[rv a1, iv 0, iv p3] [])) rfl (hb hby d27_0)
  obtain ⟨T429, X429, e429, st429⟩ := getS2 X428 hx hZ hown (host := "") (Or.inl (ow hw 120 rfl)) Via.refl e428 (R3.ext P1.2) (g := (mkF m 38 #[rv a1, iv 1, iv p3] [(.int p3), (.int 0), (.ref a1)])) rfl (hb hby d27_38)
  obtain ⟨cl430, Ar430, q430, S430, N430z, H430, G430⟩ := id P0
  obtain ⟨T430, h430, X430, e430, W430, st430⟩ := stB X429 hx hZ e429 Ar430 (j := (0 : Int32)) (inb_of S430 ⟨by decide, by decide⟩) (g := (mkF m 43 #[rv a1, iv 1, iv p3] [(.int ((p3 >>> ((0 : Int32) &&& 31)).toInt8.toInt32)), (.int 0), (.ref a1)])) rfl rfl (hb hby d27_43)
  have V430 : Arv Z h430 a1 kb .byte (4 : Int32) [(.int (nar .byte ((p3 >>> ((0 : Int32) &&& 31)).toInt8.toInt32))), (.int y1), (.int y2), (.int y3)] (.int (0 : Int32)) := Arv.set Ar430 q430 S430 N430z H430 G430 (fits_nar_byte _) W430 0 rfl (Nat.le_of_ble_eq_true rfl)
  have N430 := Fr.snoc X430 N0 g_a1
  have K430 : Keep h0 h430 [a1] := (Keep.refl h0 [a1]).wr W430 (Or.inl (by simp))
  have z431 : n0 ≤ h430.size := (Nat.le_trans Z0 (Keep.of_wr W430).1)
  obtain ⟨T432, X432, e432, st432⟩ := getS2 X430 hx hZ hown (host := "") (Or.inl (ow hw 121 rfl)) Via.refl e430 (R4.ext (P1.wr W430 g_a1).2) (g := (mkF m 47 #[rv a1, iv 1, iv p3] [(.int p3), (.int 1), (.ref a1)])) rfl (hb hby d27_47)
  obtain ⟨cl433, Ar433, q433, S433, N433z, H433, G433⟩ := id V430
  obtain ⟨T433, h433, X433, e433, W433, st433⟩ := stB X432 hx hZ e432 Ar433 (j := (1 : Int32)) (inb_of S433 ⟨by decide, by decide⟩) (g := (mkF m 52 #[rv a1, iv 1, iv p3] [(.int ((p3 >>> ((8 : Int32) &&& 31)).toInt8.toInt32)), (.int 1), (.ref a1)])) rfl rfl (hb hby d27_52)
  have V433 : Arv Z h433 a1 kb .byte (4 : Int32) [(.int (nar .byte ((p3 >>> ((0 : Int32) &&& 31)).toInt8.toInt32))), (.int (nar .byte ((p3 >>> ((8 : Int32) &&& 31)).toInt8.toInt32))), (.int y2), (.int y3)] (.int (0 : Int32)) := Arv.set Ar433 q433 S433 N433z H433 G433 (fits_nar_byte _) W433 1 rfl (Nat.le_of_ble_eq_true rfl)
  have N433 := Fr.snoc X433 N430 g_a1
  have K433 : Keep h0 h433 [a1] := K430.wr W433 (Or.inl (by simp))
  have f434 := ((P1.wr W430 g_a1).wr W433 g_a1)
  have z435 : n0 ≤ h433.size := (Nat.le_trans z431 (Keep.of_wr W433).1)
  have V436 : Arv Z h433 a1 kb .byte (4 : Int32) [(.int (own_lo p3)), (.int (own_hi p3)), (.int y2), (.int y3)] (.int (0 : Int32)) := V433
  have pre437 := own_go pre0 (T433.setTop (mkF m 53 #[rv a1, iv 1, iv p3] [])) fun t kt => by
    refine st428 _ ?_
    refine XS.ifYes X428.here hx rfl (pc0 := 3) (pc' := 28) rfl (hb hby d27_3) rfl ((if0 _ _).trans (feq (by decide : ¬ ((1 : Int32) = (0 : Int32)))).2) (by decide) (by decide) ?_
    refine XS.iloadN X428.here hx rfl (hb hby d27_28) rfl ?_
    refine XS.iconst X428.here hx rfl (hb hby d27_29) ?_
    refine XS.ishl X428.here hx rfl (hb hby d27_30) rfl ?_
    refine XS.istoreN X428.here hx rfl (hb hby d27_31) rfl (l' := #[rv a1, iv 0, iv p3]) rfl ?_
    refine XS.aloadN X428.here hx rfl (hb hby d27_32) rfl rfl ?_
    refine XS.iloadN X428.here hx rfl (hb hby d27_33) rfl ?_
    refine XS.iinc X428.here hx rfl (hb hby d27_34) rfl (l' := #[rv a1, iv 1, iv p3]) rfl ?_
    refine XS.iloadN X428.here hx rfl (hb hby d27_37) rfl ?_
    refine st429 _ ?_
    refine XS.ishr X429.here hx rfl (hb hby d27_41) rfl ?_
    refine XS.i2b X429.here hx rfl (hb hby d27_42) rfl ?_
    refine st430 _ ?_
    refine XS.aloadN X430.here hx rfl (hb hby d27_44) rfl rfl ?_
    refine XS.iloadN X430.here hx rfl (hb hby d27_45) rfl ?_
    refine XS.iloadN X430.here hx rfl (hb hby d27_46) rfl ?_
    refine st432 _ ?_
    refine XS.ishr X432.here hx rfl (hb hby d27_50) rfl ?_
    refine XS.i2b X432.here hx rfl (hb hby d27_51) rfl ?_
    refine st433 _ ?_
    exact kt
  refine own_lv X433 Bd.notSynchronized (v := none) (fun _ => rfl) pre437 (fun fs hr => X433.returnOut hx Bd.returns (hb hby d27_53) hr) ?_
  show Q27_20 Z a1 p3 kb y0 y1 y2 y3 h0 n0 _ T433.heap _
  rw [e433]
  exact ⟨rfl, N433, K433, V436⟩
theorem ef_27_21 (m : MethodId) (x0 : Addr) (x2 : Int32) : entryFrame m #[(.ref x0), (.int 1), (.int x2)] 3 = mkF m 0 #[.val (.ref x0), .val (.int 1), .val (.int x2)] [] := by first | (simp [entryFrame, mkF, argsToLocals, Value.category]; done) | rfl
def Q27_21 (Z : State) (a1 : Addr) (p3 : Int32) (kb : ClassId) (y0 : Int32) (y1 : Int32) (y2 : Int32) (y3 : Int32) (h0 : Heap) (n0 : Nat) (v : Option Value) (h : Heap) (L : List Loc) : Prop := v = none ∧ Fr n0 L ∧ Keep h0 h [a1] ∧ Arv Z h a1 kb .byte (4 : Int32) [(.int y0), (.int y1), (.int (own_lo p3)), (.int (own_hi p3))] (.int (0 : Int32))
theorem rm27_21 (l : Launch) (Z : State) (a0 : Array Value) (hw : own_H a0 Z) (ws : List Jvm.Cond) (a1 : Addr) (p3 : Int32) (kb : ClassId) (y0 : Int32) (y1 : Int32) (y2 : Int32) (y3 : Int32) (h0 : Heap) (n0 : Nat) (Z0 : n0 ≤ h0.size) (P0 : Arv Z h0 a1 kb .byte (4 : Int32) [(.int y0), (.int y1), (.int y2), (.int y3)] (.int (0 : Int32))) (P1 : Old Z n0 h0) (R2 : Sta Z Z.heap "java/lang/StringUTF16" "$assertionsDisabled" "Z" (.int 1)) (R3 : Sta Z Z.heap "java/lang/StringUTF16" "HI_BYTE_SHIFT" "I" (.int 0)) (R4 : Sta Z Z.heap "java/lang/StringUTF16" "LO_BYTE_SHIFT" "I" (.int 8)) (g_a1 : n0 ≤ a1) :
    own_M l Z (⟨"java/lang/StringUTF16", "putChar", "([BII)V"⟩ : MethodName) jdk_52_method_4_code 3 none ws ({ frames := 0, cells := 0, slots := 0, locals := 0 } : Room) #[(.ref a1), (.int 1), (.int p3)] h0 (Q27_21 Z a1 p3 kb y0 y1 y2 y3 h0 n0) := by
  refine own_bd (n0 := n0) (plainFor_of_name pn_27) fun p e s m below meth c s₁ Bd hZ hx hby hml hown X0 e0 N0 => ?_
  have pre0 := own_p0 (tb := p.tables) (e := e) (below := below) (s := s₁) (ef_27_21 m a1 p3)
  obtain ⟨T438, X438, e438, st438⟩ := getS2 X0 hx hZ hown (host := "") (Or.inl (ow hw 119 rfl)) Via.refl e0 (R2.ext P1.2) (g := (mkF m 0 #[rv a1, iv 1, iv p3] [])) rfl (hb hby d27_0)
  obtain ⟨T439, X439, e439, st439⟩ := getS2 X438 hx hZ hown (host := "") (Or.inl (ow hw 120 rfl)) Via.refl e438 (R3.ext P1.2) (g := (mkF m 38 #[rv a1, iv 3, iv p3] [(.int p3), (.int 2), (.ref a1)])) rfl (hb hby d27_38)
  obtain ⟨cl440, Ar440, q440, S440, N440z, H440, G440⟩ := id P0
  obtain ⟨T440, h440, X440, e440, W440, st440⟩ := stB X439 hx hZ e439 Ar440 (j := (2 : Int32)) (inb_of S440 ⟨by decide, by decide⟩) (g := (mkF m 43 #[rv a1, iv 3, iv p3] [(.int ((p3 >>> ((0 : Int32) &&& 31)).toInt8.toInt32)), (.int 2), (.ref a1)])) rfl rfl (hb hby d27_43)
  have V440 : Arv Z h440 a1 kb .byte (4 : Int32) [(.int y0), (.int y1), (.int (nar .byte ((p3 >>> ((0 : Int32) &&& 31)).toInt8.toInt32))), (.int y3)] (.int (0 : Int32)) := Arv.set Ar440 q440 S440 N440z H440 G440 (fits_nar_byte _) W440 2 rfl (Nat.le_of_ble_eq_true rfl)
  have N440 := Fr.snoc X440 N0 g_a1
  have K440 : Keep h0 h440 [a1] := (Keep.refl h0 [a1]).wr W440 (Or.inl (by simp))
  have z441 : n0 ≤ h440.size := (Nat.le_trans Z0 (Keep.of_wr W440).1)
  obtain ⟨T442, X442, e442, st442⟩ := getS2 X440 hx hZ hown (host := "") (Or.inl (ow hw 121 rfl)) Via.refl e440 (R4.ext (P1.wr W440 g_a1).2) (g := (mkF m 47 #[rv a1, iv 3, iv p3] [(.int p3), (.int 3), (.ref a1)])) rfl (hb hby d27_47)
  obtain ⟨cl443, Ar443, q443, S443, N443z, H443, G443⟩ := id V440
  obtain ⟨T443, h443, X443, e443, W443, st443⟩ := stB X442 hx hZ e442 Ar443 (j := (3 : Int32)) (inb_of S443 ⟨by decide, by decide⟩) (g := (mkF m 52 #[rv a1, iv 3, iv p3] [(.int ((p3 >>> ((8 : Int32) &&& 31)).toInt8.toInt32)), (.int 3), (.ref a1)])) rfl rfl (hb hby d27_52)
  have V443 : Arv Z h443 a1 kb .byte (4 : Int32) [(.int y0), (.int y1), (.int (nar .byte ((p3 >>> ((0 : Int32) &&& 31)).toInt8.toInt32))), (.int (nar .byte ((p3 >>> ((8 : Int32) &&& 31)).toInt8.toInt32)))] (.int (0 : Int32)) := Arv.set Ar443 q443 S443 N443z H443 G443 (fits_nar_byte _) W443 3 rfl (Nat.le_of_ble_eq_true rfl)
  have N443 := Fr.snoc X443 N440 g_a1
  have K443 : Keep h0 h443 [a1] := K440.wr W443 (Or.inl (by simp))
  have f444 := ((P1.wr W440 g_a1).wr W443 g_a1)
  have z445 : n0 ≤ h443.size := (Nat.le_trans z441 (Keep.of_wr W443).1)
  have V446 : Arv Z h443 a1 kb .byte (4 : Int32) [(.int y0), (.int y1), (.int (own_lo p3)), (.int (own_hi p3))] (.int (0 : Int32)) := V443
  have pre447 := own_go pre0 (T443.setTop (mkF m 53 #[rv a1, iv 3, iv p3] [])) fun t kt => by
    refine st438 _ ?_
    refine XS.ifYes X438.here hx rfl (pc0 := 3) (pc' := 28) rfl (hb hby d27_3) rfl ((if0 _ _).trans (feq (by decide : ¬ ((1 : Int32) = (0 : Int32)))).2) (by decide) (by decide) ?_
    refine XS.iloadN X438.here hx rfl (hb hby d27_28) rfl ?_
    refine XS.iconst X438.here hx rfl (hb hby d27_29) ?_
    refine XS.ishl X438.here hx rfl (hb hby d27_30) rfl ?_
    refine XS.istoreN X438.here hx rfl (hb hby d27_31) rfl (l' := #[rv a1, iv 2, iv p3]) rfl ?_
    refine XS.aloadN X438.here hx rfl (hb hby d27_32) rfl rfl ?_
    refine XS.iloadN X438.here hx rfl (hb hby d27_33) rfl ?_
    refine XS.iinc X438.here hx rfl (hb hby d27_34) rfl (l' := #[rv a1, iv 3, iv p3]) rfl ?_
    refine XS.iloadN X438.here hx rfl (hb hby d27_37) rfl ?_
    refine st439 _ ?_
    refine XS.ishr X439.here hx rfl (hb hby d27_41) rfl ?_
    refine XS.i2b X439.here hx rfl (hb hby d27_42) rfl ?_
    refine st440 _ ?_
    refine XS.aloadN X440.here hx rfl (hb hby d27_44) rfl rfl ?_
    refine XS.iloadN X440.here hx rfl (hb hby d27_45) rfl ?_
    refine XS.iloadN X440.here hx rfl (hb hby d27_46) rfl ?_
    refine st442 _ ?_
    refine XS.ishr X442.here hx rfl (hb hby d27_50) rfl ?_
    refine XS.i2b X442.here hx rfl (hb hby d27_51) rfl ?_
    refine st443 _ ?_
    exact kt
  refine own_lv X443 Bd.notSynchronized (v := none) (fun _ => rfl) pre447 (fun fs hr => X443.returnOut hx Bd.returns (hb hby d27_53) hr) ?_
  show Q27_21 Z a1 p3 kb y0 y1 y2 y3 h0 n0 _ T443.heap _
  rw [e443]
  exact ⟨rfl, N443, K443, V446⟩
theorem ef_26_2 (m : MethodId)  : entryFrame m #[(.int 2)] 1 = mkF m 0 #[.val (.int 2)] [] := by first | (simp [entryFrame, mkF, argsToLocals, Value.category]; done) | rfl
def Q26_2 (Z : State)  (h0 : Heap) (n0 : Nat) (v : Option Value) (h : Heap) (L : List Loc) : Prop := v = some (.int 4) ∧ Fr n0 L ∧ h = h0
theorem rm26_2 (l : Launch) (Z : State) (a0 : Array Value) (hw : own_H a0 Z) (ws : List Jvm.Cond)  (h0 : Heap) (n0 : Nat) (Z0 : n0 ≤ h0.size) :
    own_M l Z (⟨"java/lang/StringUTF16", "newBytesLength", "(I)I"⟩ : MethodName) jdk_52_method_3_code 1 (some .int) ws ({ frames := 0, cells := 0, slots := 0, locals := 0 } : Room) #[(.int 2)] h0 (Q26_2 Z  h0 n0) := by
  refine own_bd (n0 := n0) (plainFor_of_name pn_26) fun p e s m below meth c s₁ Bd hZ hx hby hml hown X0 e0 N0 => ?_
  have pre0 := own_p0 (tb := p.tables) (e := e) (below := below) (s := s₁) (ef_26_2 m )
  have pre448 := own_go pre0 (s₁.setTop (mkF m 58 #[iv 2] [(.int 4)])) fun t kt => by
    refine XS.iloadN X0.here hx rfl (hb hby d26_0) rfl ?_
    refine XS.ifYes X0.here hx rfl (pc0 := 1) (pc' := 12) rfl (hb hby d26_1) rfl ((if0 _ _).trans (flt (by decide : ¬ ((2 : Int32) < (0 : Int32)))).2.1) (by decide) (by decide) ?_
    refine XS.iloadN X0.here hx rfl (hb hby d26_12) rfl ?_
    refine X0.ldcInt hx hown (mvT hZ (ow hw 115 rfl)) (g := (mkF m 13 #[iv 2] [(.int 2)])) rfl (hb hby d26_13) _ ?_
    refine XS.icmpYes X0.here hx rfl (pc0 := 15) (pc' := 55) rfl (hb hby d26_15) rfl (tlt (by decide : (2 : Int32) < (1073741823 : Int32))).1 (by decide) (by decide) ?_
    refine XS.iloadN X0.here hx rfl (hb hby d26_55) rfl ?_
    refine XS.iconst X0.here hx rfl (hb hby d26_56) ?_
    refine XS.ishl X0.here hx rfl (hb hby d26_57) rfl ?_
    exact kt
  refine own_lv X0 Bd.notSynchronized (v := some (.int 4)) (own_nv Bd.returns) pre448 (fun fs hr => retI X0 hx Bd.returns (hb hby d26_58) hr) ?_
  show Q26_2 Z  h0 n0 _ s₁.heap _
  rw [e0]
  exact ⟨rfl, N0, rfl⟩
theorem ef_25_2 (m : MethodId)  : entryFrame m #[(.int 2)] 1 = mkF m 0 #[.val (.int 2)] [] := by first | (simp [entryFrame, mkF, argsToLocals, Value.category]; done) | rfl
def Q25_2 (Z : State)  (h0 : Heap) (n0 : Nat) (v : Option Value) (h : Heap) (L : List Loc) : Prop := ∃ (x1 : Addr) (kx1 : ClassId), v = some (.ref x1) ∧ Fr n0 L ∧ Keep h0 h [] ∧ n0 ≤ x1 ∧ h0.size ≤ x1 ∧ Arv Z h x1 kx1 .byte (4 : Int32) [(.int 0), (.int 0), (.int 0), (.int 0)] (.int (0 : Int32))
theorem rm25_2 (l : Launch) (Z : State) (a0 : Array Value) (hw : own_H a0 Z) (ws : List Jvm.Cond)  (h0 : Heap) (n0 : Nat) (Z0 : n0 ≤ h0.size) :
    own_M l Z (⟨"java/lang/StringUTF16", "newBytesFor", "(I)[B"⟩ : MethodName) jdk_52_method_2_code 1 (some (.array .byte)) ws ({ frames := 1, cells := 1, slots := 4, locals := 12 } : Room) #[(.int 2)] h0 (Q25_2 Z  h0 n0) := by
  refine own_bd (n0 := n0) (plainFor_of_name pn_25) fun p e s m below meth c s₁ Bd hZ hx hby hml hown X0 e0 N0 => ?_
  have pre0 := own_p0 (tb := p.tables) (e := e) (below := below) (s := s₁) (ef_25_2 m )
  obtain ⟨T449, L449, X449, e449, N449, st449⟩ := own_pS X0 hx hZ hml hown N0 (ow hw 112 rfl) (ow hw 113 rfl) (ow hw 36 rfl) (ow hw 114 rfl) e0 (rm26_2 l Z a0 hw []  h0 n0 Z0) (W := 0) (g := (mkF m 1 #[iv 2] [(.int 2)])) (argsL := [(.int 2)]) (rest := []) (lenOf pd_8 rfl) (hb hby d25_1)
  obtain ⟨T450, h450, k450, X450, e450, E450, A450, st450⟩ := newP X449 hx hZ (ow hw 38 rfl) e449 (g := (mkF m 4 #[iv 2] [(.int 4)])) rfl (hb hby d25_4) rfl (by decide) (cap := 4) (by decide) (by decide) (by decide) (by decide)
  obtain ⟨b450, g450⟩ : ∃ z, z = h0.size := ⟨_, rfl⟩
  rw [← g450] at A450 st450
  have g_b450 : n0 ≤ b450 := Nat.le_trans Z0 (Nat.le_of_eq g450.symm)
  have sz_b450 : h0.size ≤ b450 := Nat.le_trans (Keep.refl h0 []).1 (Nat.le_of_eq g450.symm)
  have K450 : Keep h0 h450 [] := (Keep.refl h0 []).ext E450
  have V450 : Arv Z h450 b450 k450 .byte (4 : Int32) [(.int 0), (.int 0), (.int 0), (.int 0)] (.int (0 : Int32)) := (Arv.new A450 (by decide)).pad (pad_rep [] (.int (0 : Int32)) 4)
  have pre451 := own_go pre0 (T450.setTop (mkF m 6 #[iv 2] [(.ref b450)])) fun t kt => by
    refine XS.iloadN X0.here hx rfl (hb hby d25_0) rfl ?_
    refine st449 _ ?_
    refine st450 _ ?_
    exact kt
  refine own_lv X450 Bd.notSynchronized (v := some (.ref b450)) (own_nv Bd.returns) pre451 (fun fs hr => retOut X450 hx Bd.returns (own_nref _ rfl) (Or.inr (Or.inr (Or.inr (Or.inr ⟨rfl, rfl, rfl⟩)))) (hb hby d25_6) hr) ?_
  show Q25_2 Z  h0 n0 _ T450.heap _
  rw [e450]
  exact ⟨b450, k450, rfl, N449, K450, g_b450, sz_b450, V450⟩
theorem ef_24_2 (m : MethodId) (x0 : Addr) : entryFrame m #[(.ref x0), (.int 0), (.int 2)] 5 = mkF m 0 #[.val (.ref x0), .val (.int 0), .val (.int 2), .unset, .unset] [] := by first | (simp [entryFrame, mkF, argsToLocals, Value.category]; done) | rfl
def Q24_2 (Z : State) (a1 : Addr) (kc : ClassId) (c0 : Int32) (c1 : Int32) (h0 : Heap) (n0 : Nat) (v : Option Value) (h : Heap) (L : List Loc) : Prop := ∃ (x1 : Addr) (kx1 : ClassId), v = some (.ref x1) ∧ Fr n0 L ∧ Keep h0 h [] ∧ n0 ≤ x1 ∧ h0.size ≤ x1 ∧ Arv Z h x1 kx1 .byte (4 : Int32) [(.int (own_lo c0)), (.int (own_hi c0)), (.int (own_lo c1)), (.int (own_hi c1))] (.int (0 : Int32))
theorem rm24_2 (l : Launch) (Z : State) (a0 : Array Value) (hw : own_H a0 Z) (ws : List Jvm.Cond) (a1 : Addr) (kc : ClassId) (c0 : Int32) (c1 : Int32) (h0 : Heap) (n0 : Nat) (Z0 : n0 ≤ h0.size) (P0 : Arv Z h0 a1 kc .char (2 : Int32) [(.int c0), (.int c1)] (.int (0 : Int32))) (P1 : Old Z n0 h0) (R2 : Sta Z Z.heap "java/lang/StringUTF16" "$assertionsDisabled" "Z" (.int 1)) (R3 : Sta Z Z.heap "java/lang/StringUTF16" "HI_BYTE_SHIFT" "I" (.int 0)) (R4 : Sta Z Z.heap "java/lang/StringUTF16" "LO_BYTE_SHIFT" "I" (.int 8)) :
    own_M l Z (⟨"java/lang/StringUTF16", "toBytes", "([CII)[B"⟩ : MethodName) jdk_52_method_14_code 5 (some (.array .byte)) ws ({ frames := 2, cells := 1, slots := 4, locals := 24 } : Room) #[(.ref a1), (.int 0), (.int 2)] h0 (Q24_2 Z a1 kc c0 c1 h0 n0) := by
  refine own_bd (n0 := n0) (plainFor_of_name pn_24) fun p e s m below meth c s₁ Bd hZ hx hby hml hown X0 e0 N0 => ?_
  have pre0 := own_p0 (tb := p.tables) (e := e) (below := below) (s := s₁) (ef_24_2 m a1)
  obtain ⟨_, T452, L452, X452, hQ452, st452⟩ := own_cS X0 hx hZ hml hown (ow hw 109 rfl) (ow hw 110 rfl) (ow hw 36 rfl) (ow hw 111 rfl) e0 (rm25_2 l Z a0 hw []  h0 n0 Z0) (W := 0) (g := (mkF m 1 #[rv a1, iv 0, iv 2, .unset, .unset] [(.int 2)])) (argsL := [(.int 2)]) (rest := []) (lenOf pd_9 rfl) (hb hby d24_1)
  obtain ⟨b452_0, kk452_0, rfl, N452q, K452q, ga452_0, gz452_0, q452_0⟩ := hQ452
  have N452 := Fr.app N0 N452q
  have ne453 : a1 ≠ b452_0 := Nat.ne_of_lt (Nat.lt_of_lt_of_le P0.lt gz452_0)
  have g_b452_0 : n0 ≤ b452_0 := ga452_0
  have sz_b452_0 : h0.size ≤ b452_0 := Nat.le_trans (Keep.refl h0 []).1 gz452_0
  have K452 : Keep h0 T452.heap [] := (Keep.refl h0 []).trans K452q all0
  have z454 : n0 ≤ T452.heap.size := (Nat.le_trans Z0 (own_ke K452q).1)
  obtain ⟨cl455, Ar455, -, Sz455, Nz455, Hs455, -⟩ := id (P0.ext (own_ke K452q))
  have in455 : ¬ ((0 : Int32) < 0 ∨ cl455.slots.size ≤ ((0 : Int32)).toNatClampNeg) := inb_of Sz455 ⟨by decide, by decide⟩
  have at455 : cl455.slots[((0 : Int32)).toNatClampNeg]? = some (.int c0) := Has.at Hs455 in455 rfl
  obtain ⟨_, T456, L456, X456, hQ456, st456⟩ := own_cS X452 hx hZ hml hown (ow hw 116 rfl) (ow hw 117 rfl) (ow hw 36 rfl) (ow hw 118 rfl) rfl (rm27_20 l Z a0 hw [] b452_0 c0 kk452_0 (0 : Int32) (0 : Int32) (0 : Int32) (0 : Int32) T452.heap n0 z454 q452_0 (P1.ext (own_ke K452q)) R2 R3 R4 g_b452_0) (W := 0) (g := (mkF m 20 #[rv a1, iv 0, iv 2, rv b452_0, iv 0] [(.int c0), (.int 0), (.ref b452_0)])) (argsL := [(.ref b452_0), (.int 0), (.int c0)]) (rest := []) (lenOf pd_10 rfl) (hb hby d24_20)
  obtain ⟨rfl, N456q, K456q, q456_0⟩ := hQ456
  have N456 := Fr.app N452 N456q
  have K456 : Keep h0 T456.heap [] := K452.trans K456q (allS (Or.inr sz_b452_0) all0)
  have f457 := ((P0.ext (own_ke K452q)).keep K456q (ninS ne453 nin0))
  have f458 := ((P1.ext (own_ke K452q)).keep K456q (allS g_b452_0 all0))
  obtain ⟨cl459, Ar459, -, Sz459, Nz459, Hs459, -⟩ := id f457
  have in459 : ¬ ((1 : Int32) < 0 ∨ cl459.slots.size ≤ ((1 : Int32)).toNatClampNeg) := inb_of Sz459 ⟨by decide, by decide⟩
  have at459 : cl459.slots[((1 : Int32)).toNatClampNeg]? = some (.int c1) := Has.at Hs459 in459 rfl
  obtain ⟨_, T460, L460, X460, hQ460, st460⟩ := own_cS X456 hx hZ hml hown (ow hw 116 rfl) (ow hw 117 rfl) (ow hw 36 rfl) (ow hw 118 rfl) rfl (rm27_21 l Z a0 hw [] b452_0 c1 kk452_0 (own_lo c0) (own_hi c0) (0 : Int32) (0 : Int32) T456.heap n0 (Nat.le_trans z454 K456q.1) q456_0 f458 R2 R3 R4 g_b452_0) (W := 0) (g := (mkF m 20 #[rv a1, iv 1, iv 2, rv b452_0, iv 1] [(.int c1), (.int 1), (.ref b452_0)])) (argsL := [(.ref b452_0), (.int 1), (.int c1)]) (rest := []) (lenOf pd_10 rfl) (hb hby d24_20)
  obtain ⟨rfl, N460q, K460q, q460_0⟩ := hQ460
  have N460 := Fr.app N456 N460q
  have K460 : Keep h0 T460.heap [] := K456.trans K460q (allS (Or.inr sz_b452_0) all0)
  have f461 := (f457.keep K460q (ninS ne453 nin0))
  have f462 := (f458.keep K460q (allS g_b452_0 all0))
  have z463 : n0 ≤ T460.heap.size := (Nat.le_trans (Nat.le_trans z454 K456q.1) K460q.1)
  have pre464 := own_go pre0 (T460.setTop (mkF m 33 #[rv a1, iv 2, iv 2, rv b452_0, iv 2] [(.ref b452_0)])) fun t kt => by
    refine XS.iloadN X0.here hx rfl (hb hby d24_0) rfl ?_
    refine st452 _ ?_
    refine XS.astoreN X452.here hx rfl (hb hby d24_4) rfl rfl (l' := #[rv a1, iv 0, iv 2, rv b452_0, .unset]) rfl ?_
    refine XS.iconst X452.here hx rfl (hb hby d24_5) ?_
    refine XS.istore X452.here hx rfl (hb hby d24_6) rfl (l' := #[rv a1, iv 0, iv 2, rv b452_0, iv 0]) rfl ?_
    refine XS.iload X452.here hx rfl (hb hby d24_8) rfl ?_
    refine XS.iloadN X452.here hx rfl (hb hby d24_10) rfl ?_
    refine XS.icmpNo X452.here hx rfl (hb hby d24_11) rfl (tlt (by decide : (0 : Int32) < (2 : Int32))).2.1 ?_
    refine XS.aloadN X452.here hx rfl (hb hby d24_14) rfl rfl ?_
    refine XS.iload X452.here hx rfl (hb hby d24_15) rfl ?_
    refine XS.aloadN X452.here hx rfl (hb hby d24_17) rfl rfl ?_
    refine XS.iloadN X452.here hx rfl (hb hby d24_18) rfl ?_
    refine X452.caload hx (j := (0 : Int32)) (v := (.int c0)) (by exact Ar455.1) (State.isArrayOf_alike hZ.alike Ar455.2.1) Ar455.2.2 in455 at455 (g := (mkF m 19 #[rv a1, iv 0, iv 2, rv b452_0, iv 0] [(.int 0), (.ref a1), (.int 0), (.ref b452_0)])) rfl rfl (hb hby d24_19) _ ?_
    refine st456 _ ?_
    refine XS.iinc X456.here hx rfl (hb hby d24_23) rfl (l' := #[rv a1, iv 1, iv 2, rv b452_0, iv 0]) rfl ?_
    refine XS.iinc X456.here hx rfl (hb hby d24_26) rfl (l' := #[rv a1, iv 1, iv 2, rv b452_0, iv 1]) rfl ?_
    refine XS.goto X456.here hx rfl (pc0 := 29) (pc' := 8) rfl (hb hby d24_29) (by decide) (by decide) ?_
    refine XS.iload X456.here hx rfl (hb hby d24_8) rfl ?_
    refine XS.iloadN X456.here hx rfl (hb hby d24_10) rfl ?_
    refine XS.icmpNo X456.here hx rfl (hb hby d24_11) rfl (tlt (by decide : (1 : Int32) < (2 : Int32))).2.1 ?_
    refine XS.aloadN X456.here hx rfl (hb hby d24_14) rfl rfl ?_
    refine XS.iload X456.here hx rfl (hb hby d24_15) rfl ?_
    refine XS.aloadN X456.here hx rfl (hb hby d24_17) rfl rfl ?_
    refine XS.iloadN X456.here hx rfl (hb hby d24_18) rfl ?_
    refine X456.caload hx (j := (1 : Int32)) (v := (.int c1)) (by exact Ar459.1) (State.isArrayOf_alike hZ.alike Ar459.2.1) Ar459.2.2 in459 at459 (g := (mkF m 19 #[rv a1, iv 1, iv 2, rv b452_0, iv 1] [(.int 1), (.ref a1), (.int 1), (.ref b452_0)])) rfl rfl (hb hby d24_19) _ ?_
    refine st460 _ ?_
    refine XS.iinc X460.here hx rfl (hb hby d24_23) rfl (l' := #[rv a1, iv 2, iv 2, rv b452_0, iv 1]) rfl ?_
    refine XS.iinc X460.here hx rfl (hb hby d24_26) rfl (l' := #[rv a1, iv 2, iv 2, rv b452_0, iv 2]) rfl ?_
    refine XS.goto X460.here hx rfl (pc0 := 29) (pc' := 8) rfl (hb hby d24_29) (by decide) (by decide) ?_
    refine XS.iload X460.here hx rfl (hb hby d24_8) rfl ?_
    refine XS.iloadN X460.here hx rfl (hb hby d24_10) rfl ?_
    refine XS.icmpYes X460.here hx rfl (pc0 := 11) (pc' := 32) rfl (hb hby d24_11) rfl (flt (by decide : ¬ ((2 : Int32) < (2 : Int32)))).2.1 (by decide) (by decide) ?_
    refine XS.aloadN X460.here hx rfl (hb hby d24_32) rfl rfl ?_
    exact kt
  refine own_lv X460 Bd.notSynchronized (v := some (.ref b452_0)) (own_nv Bd.returns) pre464 (fun fs hr => retOut X460 hx Bd.returns (own_nref _ rfl) (Or.inr (Or.inr (Or.inr (Or.inr ⟨rfl, rfl, rfl⟩)))) (hb hby d24_33) hr) ?_
  show Q24_2 Z a1 kc c0 c1 h0 n0 _ T460.heap _
  exact ⟨b452_0, kk452_0, rfl, N460, K460, g_b452_0, sz_b452_0, q460_0⟩
theorem ef_10_2L (m : MethodId) (x0 : Addr) (x2 : Addr) : entryFrame m #[(.ref x0), (.int 0), (.ref x2), (.int 0), (.int 2)] 7 = mkF m 0 #[.val (.ref x0), .val (.int 0), .val (.ref x2), .val (.int 0), .val (.int 2), .unset, .unset] [] := by first | (simp [entryFrame, mkF, argsToLocals, Value.category]; done) | rfl
def Q10_2L (Z : State) (a1 : Addr) (a3 : Addr) (kc : ClassId) (kb : ClassId) (c0 : Int32) (c1 : Int32) (h0 : Heap) (n0 : Nat) (v : Option Value) (h : Heap) (L : List Loc) : Prop := v = some (.int 2) ∧ Fr n0 L ∧ Keep h0 h [a3] ∧ Arv Z h a3 kb .byte (2 : Int32) [(.int (own_by c0)), (.int (own_by c1))] (.int (0 : Int32))
theorem rm10_2L (l : Launch) (Z : State) (a0 : Array Value) (hw : own_H a0 Z) (ws : List Jvm.Cond) (a1 : Addr) (a3 : Addr) (kc : ClassId) (kb : ClassId) (c0 : Int32) (c1 : Int32) (h0 : Heap) (n0 : Nat) (Z0 : n0 ≤ h0.size) (P0 : Arv Z h0 a1 kc .char (2 : Int32) [(.int c0), (.int c1)] (.int (0 : Int32))) (P1 : Arv Z h0 a3 kb .byte (2 : Int32) [(.int 0), (.int 0)] (.int (0 : Int32))) (ne_a1_a3 : a1 ≠ a3) (g_a3 : n0 ≤ a3) (u0 : ¬ (255 : Int32) < c0) (u1 : ¬ (255 : Int32) < c1) :
    own_M l Z (⟨"java/lang/StringUTF16", "compress", "([CI[BII)I"⟩ : MethodName) jdk_52_method_21_code 7 (some .int) ws ({ frames := 0, cells := 0, slots := 0, locals := 0 } : Room) #[(.ref a1), (.int 0), (.ref a3), (.int 0), (.int 2)] h0 (Q10_2L Z a1 a3 kc kb c0 c1 h0 n0) := by
  refine own_bd (n0 := n0) (plainFor_of_name pn_10) fun p e s m below meth c s₁ Bd hZ hx hby hml hown X0 e0 N0 => ?_
  have pre0 := own_p0 (tb := p.tables) (e := e) (below := below) (s := s₁) (ef_10_2L m a1 a3)
  obtain ⟨cl465, Ar465, -, Sz465, Nz465, Hs465, -⟩ := id P0
  have in465 : ¬ ((0 : Int32) < 0 ∨ cl465.slots.size ≤ ((0 : Int32)).toNatClampNeg) := inb_of Sz465 ⟨by decide, by decide⟩
  have at465 : cl465.slots[((0 : Int32)).toNatClampNeg]? = some (.int c0) := Has.at Hs465 in465 rfl
  obtain ⟨cl466, Ar466, q466, S466, N466z, H466, G466⟩ := id P1
  obtain ⟨T466, h466, X466, e466, W466, st466⟩ := stB X0 hx hZ e0 Ar466 (j := (0 : Int32)) (inb_of S466 ⟨by decide, by decide⟩) (g := (mkF m 31 #[rv a1, iv 0, rv a3, iv 0, iv 2, iv 0, iv c0] [(.int (c0.toInt8.toInt32)), (.int 0), (.ref a3)])) rfl rfl (hb hby d10_31)
  have V466 : Arv Z h466 a3 kb .byte (2 : Int32) [(.int (nar .byte (c0.toInt8.toInt32))), (.int 0)] (.int (0 : Int32)) := Arv.set Ar466 q466 S466 N466z H466 G466 (fits_nar_byte _) W466 0 rfl (Nat.le_of_ble_eq_true rfl)
  have N466 := Fr.snoc X466 N0 g_a3
  have K466 : Keep h0 h466 [a3] := (Keep.refl h0 [a3]).wr W466 (Or.inl (by simp))
  have z467 : n0 ≤ h466.size := (Nat.le_trans Z0 (Keep.of_wr W466).1)
  obtain ⟨cl468, Ar468, -, Sz468, Nz468, Hs468, -⟩ := id (P0.other W466 ne_a1_a3)
  have in468 : ¬ ((1 : Int32) < 0 ∨ cl468.slots.size ≤ ((1 : Int32)).toNatClampNeg) := inb_of Sz468 ⟨by decide, by decide⟩
  have at468 : cl468.slots[((1 : Int32)).toNatClampNeg]? = some (.int c1) := Has.at Hs468 in468 rfl
  obtain ⟨cl469, Ar469, q469, S469, N469z, H469, G469⟩ := id V466
  obtain ⟨T469, h469, X469, e469, W469, st469⟩ := stB X466 hx hZ e466 Ar469 (j := (1 : Int32)) (inb_of S469 ⟨by decide, by decide⟩) (g := (mkF m 31 #[rv a1, iv 1, rv a3, iv 1, iv 2, iv 1, iv c1] [(.int (c1.toInt8.toInt32)), (.int 1), (.ref a3)])) rfl rfl (hb hby d10_31)
  have V469 : Arv Z h469 a3 kb .byte (2 : Int32) [(.int (nar .byte (c0.toInt8.toInt32))), (.int (nar .byte (c1.toInt8.toInt32)))] (.int (0 : Int32)) := Arv.set Ar469 q469 S469 N469z H469 G469 (fits_nar_byte _) W469 1 rfl (Nat.le_of_ble_eq_true rfl)
  have N469 := Fr.snoc X469 N466 g_a3
  have K469 : Keep h0 h469 [a3] := K466.wr W469 (Or.inl (by simp))
  have f470 := ((P0.other W466 ne_a1_a3).other W469 ne_a1_a3)
  have z471 : n0 ≤ h469.size := (Nat.le_trans z467 (Keep.of_wr W469).1)
  have V472 : Arv Z h469 a3 kb .byte (2 : Int32) [(.int (own_by c0)), (.int (own_by c1))] (.int (0 : Int32)) := V469
  have pre473 := own_go pre0 (T469.setTop (mkF m 46 #[rv a1, iv 2, rv a3, iv 2, iv 2, iv 2, iv c1] [(.int 2)])) fun t kt => by
    refine XS.iconst X0.here hx rfl (hb hby d10_0) ?_
    refine XS.istore X0.here hx rfl (hb hby d10_1) rfl (l' := #[rv a1, iv 0, rv a3, iv 0, iv 2, iv 0, .unset]) rfl ?_
    refine XS.iload X0.here hx rfl (hb hby d10_3) rfl ?_
    refine XS.iload X0.here hx rfl (hb hby d10_5) rfl ?_
    refine XS.icmpNo X0.here hx rfl (hb hby d10_7) rfl (tlt (by decide : (0 : Int32) < (2 : Int32))).2.1 ?_
    refine XS.aloadN X0.here hx rfl (hb hby d10_10) rfl rfl ?_
    refine XS.iloadN X0.here hx rfl (hb hby d10_11) rfl ?_
    refine X0.caload hx (j := (0 : Int32)) (v := (.int c0)) (by rw [e0]; exact Ar465.1) (State.isArrayOf_alike hZ.alike Ar465.2.1) Ar465.2.2 in465 at465 (g := (mkF m 12 #[rv a1, iv 0, rv a3, iv 0, iv 2, iv 0, .unset] [(.int 0), (.ref a1)])) rfl rfl (hb hby d10_12) _ ?_
    refine XS.istore X0.here hx rfl (hb hby d10_13) rfl (l' := #[rv a1, iv 0, rv a3, iv 0, iv 2, iv 0, iv c0]) rfl ?_
    refine XS.iload X0.here hx rfl (hb hby d10_15) rfl ?_
    refine XS.sipush X0.here hx rfl (hb hby d10_17) ?_
    refine XS.icmpYes X0.here hx rfl (pc0 := 20) (pc' := 26) rfl (hb hby d10_20) rfl (flt (u0 : ¬ ((255 : Int32) < c0))).2.2.2 (by decide) (by decide) ?_
    refine XS.aloadN X0.here hx rfl (hb hby d10_26) rfl rfl ?_
    refine XS.iloadN X0.here hx rfl (hb hby d10_27) rfl ?_
    refine XS.iload X0.here hx rfl (hb hby d10_28) rfl ?_
    refine XS.i2b X0.here hx rfl (hb hby d10_30) rfl ?_
    refine st466 _ ?_
    refine XS.iinc X466.here hx rfl (hb hby d10_32) rfl (l' := #[rv a1, iv 1, rv a3, iv 0, iv 2, iv 0, iv c0]) rfl ?_
    refine XS.iinc X466.here hx rfl (hb hby d10_35) rfl (l' := #[rv a1, iv 1, rv a3, iv 1, iv 2, iv 0, iv c0]) rfl ?_
    refine XS.iinc X466.here hx rfl (hb hby d10_38) rfl (l' := #[rv a1, iv 1, rv a3, iv 1, iv 2, iv 1, iv c0]) rfl ?_
    refine XS.goto X466.here hx rfl (pc0 := 41) (pc' := 3) rfl (hb hby d10_41) (by decide) (by decide) ?_
    refine XS.iload X466.here hx rfl (hb hby d10_3) rfl ?_
    refine XS.iload X466.here hx rfl (hb hby d10_5) rfl ?_
    refine XS.icmpNo X466.here hx rfl (hb hby d10_7) rfl (tlt (by decide : (1 : Int32) < (2 : Int32))).2.1 ?_
    refine XS.aloadN X466.here hx rfl (hb hby d10_10) rfl rfl ?_
    refine XS.iloadN X466.here hx rfl (hb hby d10_11) rfl ?_
    refine X466.caload hx (j := (1 : Int32)) (v := (.int c1)) (by rw [e466]; exact Ar468.1) (State.isArrayOf_alike hZ.alike Ar468.2.1) Ar468.2.2 in468 at468 (g := (mkF m 12 #[rv a1, iv 1, rv a3, iv 1, iv 2, iv 1, iv c0] [(.int 1), (.ref a1)])) rfl rfl (hb hby d10_12) _ ?_
    refine XS.istore X466.here hx rfl (hb hby d10_13) rfl (l' := #[rv a1, iv 1, rv a3, iv 1, iv 2, iv 1, iv c1]) rfl ?_
    refine XS.iload X466.here hx rfl (hb hby d10_15) rfl ?_
    refine XS.sipush X466.here hx rfl (hb hby d10_17) ?_
    refine XS.icmpYes X466.here hx rfl (pc0 := 20) (pc' := 26) rfl (hb hby d10_20) rfl (flt (u1 : ¬ ((255 : Int32) < c1))).2.2.2 (by decide) (by decide) ?_
    refine XS.aloadN X466.here hx rfl (hb hby d10_26) rfl rfl ?_
    refine XS.iloadN X466.here hx rfl (hb hby d10_27) rfl ?_
    refine XS.iload X466.here hx rfl (hb hby d10_28) rfl ?_
    refine XS.i2b X466.here hx rfl (hb hby d10_30) rfl ?_
    refine st469 _ ?_
    refine XS.iinc X469.here hx rfl (hb hby d10_32) rfl (l' := #[rv a1, iv 2, rv a3, iv 1, iv 2, iv 1, iv c1]) rfl ?_
    refine XS.iinc X469.here hx rfl (hb hby d10_35) rfl (l' := #[rv a1, iv 2, rv a3, iv 2, iv 2, iv 1, iv c1]) rfl ?_
    refine XS.iinc X469.here hx rfl (hb hby d10_38) rfl (l' := #[rv a1, iv 2, rv a3, iv 2, iv 2, iv 2, iv c1]) rfl ?_
    refine XS.goto X469.here hx rfl (pc0 := 41) (pc' := 3) rfl (hb hby d10_41) (by decide) (by decide) ?_
    refine XS.iload X469.here hx rfl (hb hby d10_3) rfl ?_
    refine XS.iload X469.here hx rfl (hb hby d10_5) rfl ?_
    refine XS.icmpYes X469.here hx rfl (pc0 := 7) (pc' := 44) rfl (hb hby d10_7) rfl (flt (by decide : ¬ ((2 : Int32) < (2 : Int32)))).2.1 (by decide) (by decide) ?_
    refine XS.iload X469.here hx rfl (hb hby d10_44) rfl ?_
    exact kt
  refine own_lv X469 Bd.notSynchronized (v := some (.int 2)) (own_nv Bd.returns) pre473 (fun fs hr => retI X469 hx Bd.returns (hb hby d10_46) hr) ?_
  show Q10_2L Z a1 a3 kc kb c0 c1 h0 n0 _ T469.heap _
  rw [e469]
  exact ⟨rfl, N469, K469, V472⟩
def Q10_2U0 (Z : State) (a1 : Addr) (a3 : Addr) (kc : ClassId) (kb : ClassId) (c0 : Int32) (c1 : Int32) (h0 : Heap) (n0 : Nat) (v : Option Value) (h : Heap) (L : List Loc) : Prop := v = some (.int 0) ∧ Fr n0 L ∧ Keep h0 h [a3]
theorem rm10_2U0 (l : Launch) (Z : State) (a0 : Array Value) (hw : own_H a0 Z) (ws : List Jvm.Cond) (a1 : Addr) (a3 : Addr) (kc : ClassId) (kb : ClassId) (c0 : Int32) (c1 : Int32) (h0 : Heap) (n0 : Nat) (Z0 : n0 ≤ h0.size) (P0 : Arv Z h0 a1 kc .char (2 : Int32) [(.int c0), (.int c1)] (.int (0 : Int32))) (P1 : Arv Z h0 a3 kb .byte (2 : Int32) [(.int 0), (.int 0)] (.int (0 : Int32))) (ne_a1_a3 : a1 ≠ a3) (g_a3 : n0 ≤ a3) (u0 : (255 : Int32) < c0) :
    own_M l Z (⟨"java/lang/StringUTF16", "compress", "([CI[BII)I"⟩ : MethodName) jdk_52_method_21_code 7 (some .int) ws ({ frames := 0, cells := 0, slots := 0, locals := 0 } : Room) #[(.ref a1), (.int 0), (.ref a3), (.int 0), (.int 2)] h0 (Q10_2U0 Z a1 a3 kc kb c0 c1 h0 n0) := by
  refine own_bd (n0 := n0) (plainFor_of_name pn_10) fun p e s m below meth c s₁ Bd hZ hx hby hml hown X0 e0 N0 => ?_
  have pre0 := own_p0 (tb := p.tables) (e := e) (below := below) (s := s₁) (ef_10_2L m a1 a3)
  obtain ⟨cl474, Ar474, -, Sz474, Nz474, Hs474, -⟩ := id P0
  have in474 : ¬ ((0 : Int32) < 0 ∨ cl474.slots.size ≤ ((0 : Int32)).toNatClampNeg) := inb_of Sz474 ⟨by decide, by decide⟩
  have at474 : cl474.slots[((0 : Int32)).toNatClampNeg]? = some (.int c0) := Has.at Hs474 in474 rfl
  have pre475 := own_go pre0 (s₁.setTop (mkF m 25 #[rv a1, iv 0, rv a3, iv 0, iv 2, iv 0, iv c0] [(.int 0)])) fun t kt => by
    refine XS.iconst X0.here hx rfl (hb hby d10_0) ?_
    refine XS.istore X0.here hx rfl (hb hby d10_1) rfl (l' := #[rv a1, iv 0, rv a3, iv 0, iv 2, iv 0, .unset]) rfl ?_
    refine XS.iload X0.here hx rfl (hb hby d10_3) rfl ?_
    refine XS.iload X0.here hx rfl (hb hby d10_5) rfl ?_
    refine XS.icmpNo X0.here hx rfl (hb hby d10_7) rfl (tlt (by decide : (0 : Int32) < (2 : Int32))).2.1 ?_
    refine XS.aloadN X0.here hx rfl (hb hby d10_10) rfl rfl ?_
    refine XS.iloadN X0.here hx rfl (hb hby d10_11) rfl ?_
    refine X0.caload hx (j := (0 : Int32)) (v := (.int c0)) (by rw [e0]; exact Ar474.1) (State.isArrayOf_alike hZ.alike Ar474.2.1) Ar474.2.2 in474 at474 (g := (mkF m 12 #[rv a1, iv 0, rv a3, iv 0, iv 2, iv 0, .unset] [(.int 0), (.ref a1)])) rfl rfl (hb hby d10_12) _ ?_
    refine XS.istore X0.here hx rfl (hb hby d10_13) rfl (l' := #[rv a1, iv 0, rv a3, iv 0, iv 2, iv 0, iv c0]) rfl ?_
    refine XS.iload X0.here hx rfl (hb hby d10_15) rfl ?_
    refine XS.sipush X0.here hx rfl (hb hby d10_17) ?_
    refine XS.icmpNo X0.here hx rfl (hb hby d10_20) rfl (tlt (u0 : (255 : Int32) < c0)).2.2.2 ?_
    refine XS.iload X0.here hx rfl (hb hby d10_23) rfl ?_
    exact kt
  refine own_lv X0 Bd.notSynchronized (v := some (.int 0)) (own_nv Bd.returns) pre475 (fun fs hr => retI X0 hx Bd.returns (hb hby d10_25) hr) ?_
  show Q10_2U0 Z a1 a3 kc kb c0 c1 h0 n0 _ s₁.heap _
  rw [e0]
  exact ⟨rfl, N0, (Keep.refl h0 [a3])⟩
def Q10_2U1 (Z : State) (a1 : Addr) (a3 : Addr) (kc : ClassId) (kb : ClassId) (c0 : Int32) (c1 : Int32) (h0 : Heap) (n0 : Nat) (v : Option Value) (h : Heap) (L : List Loc) : Prop := v = some (.int 1) ∧ Fr n0 L ∧ Keep h0 h [a3]
theorem rm10_2U1 (l : Launch) (Z : State) (a0 : Array Value) (hw : own_H a0 Z) (ws : List Jvm.Cond) (a1 : Addr) (a3 : Addr) (kc : ClassId) (kb : ClassId) (c0 : Int32) (c1 : Int32) (h0 : Heap) (n0 : Nat) (Z0 : n0 ≤ h0.size) (P0 : Arv Z h0 a1 kc .char (2 : Int32) [(.int c0), (.int c1)] (.int (0 : Int32))) (P1 : Arv Z h0 a3 kb .byte (2 : Int32) [(.int 0), (.int 0)] (.int (0 : Int32))) (ne_a1_a3 : a1 ≠ a3) (g_a3 : n0 ≤ a3) (u0 : ¬ (255 : Int32) < c0) (u1 : (255 : Int32) < c1) :
    own_M l Z (⟨"java/lang/StringUTF16", "compress", "([CI[BII)I"⟩ : MethodName) jdk_52_method_21_code 7 (some .int) ws ({ frames := 0, cells := 0, slots := 0, locals := 0 } : Room) #[(.ref a1), (.int 0), (.ref a3), (.int 0), (.int 2)] h0 (Q10_2U1 Z a1 a3 kc kb c0 c1 h0 n0) := by
  refine own_bd (n0 := n0) (plainFor_of_name pn_10) fun p e s m below meth c s₁ Bd hZ hx hby hml hown X0 e0 N0 => ?_
  have pre0 := own_p0 (tb := p.tables) (e := e) (below := below) (s := s₁) (ef_10_2L m a1 a3)
  obtain ⟨cl476, Ar476, -, Sz476, Nz476, Hs476, -⟩ := id P0
  have in476 : ¬ ((0 : Int32) < 0 ∨ cl476.slots.size ≤ ((0 : Int32)).toNatClampNeg) := inb_of Sz476 ⟨by decide, by decide⟩
  have at476 : cl476.slots[((0 : Int32)).toNatClampNeg]? = some (.int c0) := Has.at Hs476 in476 rfl
  obtain ⟨cl477, Ar477, q477, S477, N477z, H477, G477⟩ := id P1
  obtain ⟨T477, h477, X477, e477, W477, st477⟩ := stB X0 hx hZ e0 Ar477 (j := (0 : Int32)) (inb_of S477 ⟨by decide, by decide⟩) (g := (mkF m 31 #[rv a1, iv 0, rv a3, iv 0, iv 2, iv 0, iv c0] [(.int (c0.toInt8.toInt32)), (.int 0), (.ref a3)])) rfl rfl (hb hby d10_31)
  have V477 : Arv Z h477 a3 kb .byte (2 : Int32) [(.int (nar .byte (c0.toInt8.toInt32))), (.int 0)] (.int (0 : Int32)) := Arv.set Ar477 q477 S477 N477z H477 G477 (fits_nar_byte _) W477 0 rfl (Nat.le_of_ble_eq_true rfl)
  have N477 := Fr.snoc X477 N0 g_a3
  have K477 : Keep h0 h477 [a3] := (Keep.refl h0 [a3]).wr W477 (Or.inl (by simp))
  have z478 : n0 ≤ h477.size := (Nat.le_trans Z0 (Keep.of_wr W477).1)
  obtain ⟨cl479, Ar479, -, Sz479, Nz479, Hs479, -⟩ := id (P0.other W477 ne_a1_a3)
  have in479 : ¬ ((1 : Int32) < 0 ∨ cl479.slots.size ≤ ((1 : Int32)).toNatClampNeg) := inb_of Sz479 ⟨by decide, by decide⟩
  have at479 : cl479.slots[((1 : Int32)).toNatClampNeg]? = some (.int c1) := Has.at Hs479 in479 rfl
  have pre480 := own_go pre0 (T477.setTop (mkF m 25 #[rv a1, iv 1, rv a3, iv 1, iv 2, iv 1, iv c1] [(.int 1)])) fun t kt => by
    refine XS.iconst X0.here hx rfl (hb hby d10_0) ?_
    refine XS.istore X0.here hx rfl (hb hby d10_1) rfl (l' := #[rv a1, iv 0, rv a3, iv 0, iv 2, iv 0, .unset]) rfl ?_
    refine XS.iload X0.here hx rfl (hb hby d10_3) rfl ?_
    refine XS.iload X0.here hx rfl (hb hby d10_5) rfl ?_
    refine XS.icmpNo X0.here hx rfl (hb hby d10_7) rfl (tlt (by decide : (0 : Int32) < (2 : Int32))).2.1 ?_
    refine XS.aloadN X0.here hx rfl (hb hby d10_10) rfl rfl ?_
    refine XS.iloadN X0.here hx rfl (hb hby d10_11) rfl ?_
    refine X0.caload hx (j := (0 : Int32)) (v := (.int c0)) (by rw [e0]; exact Ar476.1) (State.isArrayOf_alike hZ.alike Ar476.2.1) Ar476.2.2 in476 at476 (g := (mkF m 12 #[rv a1, iv 0, rv a3, iv 0, iv 2, iv 0, .unset] [(.int 0), (.ref a1)])) rfl rfl (hb hby d10_12) _ ?_
    refine XS.istore X0.here hx rfl (hb hby d10_13) rfl (l' := #[rv a1, iv 0, rv a3, iv 0, iv 2, iv 0, iv c0]) rfl ?_
    refine XS.iload X0.here hx rfl (hb hby d10_15) rfl ?_
    refine XS.sipush X0.here hx rfl (hb hby d10_17) ?_
    refine XS.icmpYes X0.here hx rfl (pc0 := 20) (pc' := 26) rfl (hb hby d10_20) rfl (flt (u0 : ¬ ((255 : Int32) < c0))).2.2.2 (by decide) (by decide) ?_
    refine XS.aloadN X0.here hx rfl (hb hby d10_26) rfl rfl ?_
    refine XS.iloadN X0.here hx rfl (hb hby d10_27) rfl ?_
    refine XS.iload X0.here hx rfl (hb hby d10_28) rfl ?_
    refine XS.i2b X0.here hx rfl (hb hby d10_30) rfl ?_
    refine st477 _ ?_
    refine XS.iinc X477.here hx rfl (hb hby d10_32) rfl (l' := #[rv a1, iv 1, rv a3, iv 0, iv 2, iv 0, iv c0]) rfl ?_
    refine XS.iinc X477.here hx rfl (hb hby d10_35) rfl (l' := #[rv a1, iv 1, rv a3, iv 1, iv 2, iv 0, iv c0]) rfl ?_
    refine XS.iinc X477.here hx rfl (hb hby d10_38) rfl (l' := #[rv a1, iv 1, rv a3, iv 1, iv 2, iv 1, iv c0]) rfl ?_
    refine XS.goto X477.here hx rfl (pc0 := 41) (pc' := 3) rfl (hb hby d10_41) (by decide) (by decide) ?_
    refine XS.iload X477.here hx rfl (hb hby d10_3) rfl ?_
    refine XS.iload X477.here hx rfl (hb hby d10_5) rfl ?_
    refine XS.icmpNo X477.here hx rfl (hb hby d10_7) rfl (tlt (by decide : (1 : Int32) < (2 : Int32))).2.1 ?_
    refine XS.aloadN X477.here hx rfl (hb hby d10_10) rfl rfl ?_
    refine XS.iloadN X477.here hx rfl (hb hby d10_11) rfl ?_
    refine X477.caload hx (j := (1 : Int32)) (v := (.int c1)) (by rw [e477]; exact Ar479.1) (State.isArrayOf_alike hZ.alike Ar479.2.1) Ar479.2.2 in479 at479 (g := (mkF m 12 #[rv a1, iv 1, rv a3, iv 1, iv 2, iv 1, iv c0] [(.int 1), (.ref a1)])) rfl rfl (hb hby d10_12) _ ?_
    refine XS.istore X477.here hx rfl (hb hby d10_13) rfl (l' := #[rv a1, iv 1, rv a3, iv 1, iv 2, iv 1, iv c1]) rfl ?_
    refine XS.iload X477.here hx rfl (hb hby d10_15) rfl ?_
    refine XS.sipush X477.here hx rfl (hb hby d10_17) ?_
    refine XS.icmpNo X477.here hx rfl (hb hby d10_20) rfl (tlt (u1 : (255 : Int32) < c1)).2.2.2 ?_
    refine XS.iload X477.here hx rfl (hb hby d10_23) rfl ?_
    exact kt
  refine own_lv X477 Bd.notSynchronized (v := some (.int 1)) (own_nv Bd.returns) pre480 (fun fs hr => retI X477 hx Bd.returns (hb hby d10_25) hr) ?_
  show Q10_2U1 Z a1 a3 kc kb c0 c1 h0 n0 _ T477.heap _
  rw [e477]
  exact ⟨rfl, N477, K477⟩
theorem ef_9_2L (m : MethodId) (x0 : Addr) : entryFrame m #[(.ref x0), (.int 0), (.int 2)] 6 = mkF m 0 #[.val (.ref x0), .val (.int 0), .val (.int 2), .unset, .unset, .unset] [] := by first | (simp [entryFrame, mkF, argsToLocals, Value.category]; done) | rfl
def Q9_2L (Z : State) (a1 : Addr) (kc : ClassId) (c0 : Int32) (c1 : Int32) (h0 : Heap) (n0 : Nat) (v : Option Value) (h : Heap) (L : List Loc) : Prop := ∃ (x1 : Addr) (kx1 : ClassId), v = some (.ref x1) ∧ Fr n0 L ∧ Keep h0 h [] ∧ n0 ≤ x1 ∧ h0.size ≤ x1 ∧ Arv Z h x1 kx1 .byte (2 : Int32) [(.int (own_by c0)), (.int (own_by c1))] (.int (0 : Int32))
theorem rm9_2L (l : Launch) (Z : State) (a0 : Array Value) (hw : own_H a0 Z) (ws : List Jvm.Cond) (a1 : Addr) (kc : ClassId) (c0 : Int32) (c1 : Int32) (h0 : Heap) (n0 : Nat) (Z0 : n0 ≤ h0.size) (P0 : Arv Z h0 a1 kc .char (2 : Int32) [(.int c0), (.int c1)] (.int (0 : Int32))) (u0 : ¬ (255 : Int32) < c0) (u1 : ¬ (255 : Int32) < c1) :
    own_M l Z (⟨"java/lang/StringUTF16", "compress", "([CII)[B"⟩ : MethodName) jdk_52_method_16_code 6 (some (.array .byte)) ws ({ frames := 1, cells := 1, slots := 2, locals := 18 } : Room) #[(.ref a1), (.int 0), (.int 2)] h0 (Q9_2L Z a1 kc c0 c1 h0 n0) := by
  refine own_bd (n0 := n0) (plainFor_of_name pn_9) fun p e s m below meth c s₁ Bd hZ hx hby hml hown X0 e0 N0 => ?_
  have pre0 := own_p0 (tb := p.tables) (e := e) (below := below) (s := s₁) (ef_9_2L m a1)
  obtain ⟨T481, h481, k481, X481, e481, E481, A481, st481⟩ := newP X0 hx hZ (ow hw 38 rfl) e0 (g := (mkF m 1 #[rv a1, iv 0, iv 2, .unset, .unset, .unset] [(.int 2)])) rfl (hb hby d9_1) rfl (by decide) (cap := 2) (by decide) (by decide) (by decide) (by decide)
  obtain ⟨b481, g481⟩ : ∃ z, z = h0.size := ⟨_, rfl⟩
  rw [← g481] at A481 st481
  have ne482 : a1 ≠ b481 := Nat.ne_of_lt (Nat.lt_of_lt_of_le P0.lt (Nat.le_of_eq g481.symm))
  have g_b481 : n0 ≤ b481 := Nat.le_trans Z0 (Nat.le_of_eq g481.symm)
  have sz_b481 : h0.size ≤ b481 := Nat.le_trans (Keep.refl h0 []).1 (Nat.le_of_eq g481.symm)
  have K481 : Keep h0 h481 [] := (Keep.refl h0 []).ext E481
  have V481 : Arv Z h481 b481 k481 .byte (2 : Int32) [(.int 0), (.int 0)] (.int (0 : Int32)) := (Arv.new A481 (by decide)).pad (pad_rep [] (.int (0 : Int32)) 2)
  obtain ⟨_, T483, L483, X483, hQ483, st483⟩ := own_cS X481 hx hZ hml hown (ow hw 39 rfl) (ow hw 40 rfl) (ow hw 36 rfl) (ow hw 41 rfl) e481 (rm10_2L l Z a0 hw [] a1 b481 kc k481 c0 c1 h481 n0 (Nat.le_trans Z0 E481.1) (P0.ext E481) V481 ne482 g_b481 u0 u1) (W := 0) (g := (mkF m 9 #[rv a1, iv 0, iv 2, rv b481, .unset, .unset] [(.int 2), (.int 0), (.ref b481), (.int 0), (.ref a1)])) (argsL := [(.ref a1), (.int 0), (.ref b481), (.int 0), (.int 2)]) (rest := []) (lenOf pd_11 rfl) (hb hby d9_9)
  obtain ⟨rfl, N483q, K483q, q483_0⟩ := hQ483
  have N483 := Fr.app N0 N483q
  have K483 : Keep h0 T483.heap [] := K481.trans K483q (allS (Or.inr sz_b481) all0)
  have f484 := ((P0.ext E481).keep K483q (ninS ne482 nin0))
  have z485 : n0 ≤ T483.heap.size := (Nat.le_trans (Nat.le_trans Z0 E481.1) K483q.1)
  have pre486 := own_go pre0 (T483.setTop (mkF m 58 #[rv a1, iv 0, iv 2, rv b481, iv 2, .unset] [(.ref b481)])) fun t kt => by
    refine XS.iloadN X0.here hx rfl (hb hby d9_0) rfl ?_
    refine st481 _ ?_
    refine XS.astoreN X481.here hx rfl (hb hby d9_3) rfl rfl (l' := #[rv a1, iv 0, iv 2, rv b481, .unset, .unset]) rfl ?_
    refine XS.aloadN X481.here hx rfl (hb hby d9_4) rfl rfl ?_
    refine XS.iloadN X481.here hx rfl (hb hby d9_5) rfl ?_
    refine XS.aloadN X481.here hx rfl (hb hby d9_6) rfl rfl ?_
    refine XS.iconst X481.here hx rfl (hb hby d9_7) ?_
    refine XS.iloadN X481.here hx rfl (hb hby d9_8) rfl ?_
    refine st483 _ ?_
    refine XS.istore X483.here hx rfl (hb hby d9_12) rfl (l' := #[rv a1, iv 0, iv 2, rv b481, iv 2, .unset]) rfl ?_
    refine XS.iload X483.here hx rfl (hb hby d9_14) rfl ?_
    refine XS.iloadN X483.here hx rfl (hb hby d9_16) rfl ?_
    refine XS.icmpYes X483.here hx rfl (pc0 := 17) (pc' := 57) rfl (hb hby d9_17) rfl (teq (by decide : (2 : Int32) = (2 : Int32))).1 (by decide) (by decide) ?_
    refine XS.aloadN X483.here hx rfl (hb hby d9_57) rfl rfl ?_
    exact kt
  refine own_lv X483 Bd.notSynchronized (v := some (.ref b481)) (own_nv Bd.returns) pre486 (fun fs hr => retOut X483 hx Bd.returns (own_nref _ rfl) (Or.inr (Or.inr (Or.inr (Or.inr ⟨rfl, rfl, rfl⟩)))) (hb hby d9_58) hr) ?_
  show Q9_2L Z a1 kc c0 c1 h0 n0 _ T483.heap _
  exact ⟨b481, k481, rfl, N483, K483, g_b481, sz_b481, q483_0⟩
def Q9_2U (Z : State) (a1 : Addr) (kc : ClassId) (c0 : Int32) (c1 : Int32) (h0 : Heap) (n0 : Nat) (v : Option Value) (h : Heap) (L : List Loc) : Prop := ∃ (x1 : Addr) (kx1 : ClassId), v = some (.ref x1) ∧ Fr n0 L ∧ Keep h0 h [] ∧ n0 ≤ x1 ∧ h0.size ≤ x1 ∧ Arv Z h x1 kx1 .byte (4 : Int32) [(.int (own_lo c0)), (.int (own_hi c0)), (.int (own_lo c1)), (.int (own_hi c1))] (.int (0 : Int32))
theorem rm9_2U (l : Launch) (Z : State) (a0 : Array Value) (hw : own_H a0 Z) (ws : List Jvm.Cond) (a1 : Addr) (kc : ClassId) (c0 : Int32) (c1 : Int32) (h0 : Heap) (n0 : Nat) (Z0 : n0 ≤ h0.size) (P0 : Arv Z h0 a1 kc .char (2 : Int32) [(.int c0), (.int c1)] (.int (0 : Int32))) (P1 : Old Z n0 h0) (R2 : Sta Z Z.heap "java/lang/StringUTF16" "$assertionsDisabled" "Z" (.int 1)) (R3 : Sta Z Z.heap "java/lang/StringUTF16" "HI_BYTE_SHIFT" "I" (.int 0)) (R4 : Sta Z Z.heap "java/lang/StringUTF16" "LO_BYTE_SHIFT" "I" (.int 8)) (hU : (255 : Int32) < c0 ∨ (255 : Int32) < c1) (hr0 : ¬ c0 < (0 : Int32) ∧ ¬ (65535 : Int32) < c0) (hr1 : ¬ c1 < (0 : Int32) ∧ ¬ (65535 : Int32) < c1) :
    own_M l Z (⟨"java/lang/StringUTF16", "compress", "([CII)[B"⟩ : MethodName) jdk_52_method_16_code 6 (some (.array .byte)) ws ({ frames := 3, cells := 2, slots := 6, locals := 40 } : Room) #[(.ref a1), (.int 0), (.int 2)] h0 (Q9_2U Z a1 kc c0 c1 h0 n0) := by
  refine own_bd (n0 := n0) (plainFor_of_name pn_9) fun p e s m below meth c s₁ Bd hZ hx hby hml hown X0 e0 N0 => ?_
  have pre0 := own_p0 (tb := p.tables) (e := e) (below := below) (s := s₁) (ef_9_2L m a1)
  obtain ⟨T487, h487, k487, X487, e487, E487, A487, st487⟩ := newP X0 hx hZ (ow hw 38 rfl) e0 (g := (mkF m 1 #[rv a1, iv 0, iv 2, .unset, .unset, .unset] [(.int 2)])) rfl (hb hby d9_1) rfl (by decide) (cap := 2) (by decide) (by decide) (by decide) (by decide)
  obtain ⟨b487, g487⟩ : ∃ z, z = h0.size := ⟨_, rfl⟩
  rw [← g487] at A487 st487
  have ne488 : a1 ≠ b487 := Nat.ne_of_lt (Nat.lt_of_lt_of_le P0.lt (Nat.le_of_eq g487.symm))
  have g_b487 : n0 ≤ b487 := Nat.le_trans Z0 (Nat.le_of_eq g487.symm)
  have sz_b487 : h0.size ≤ b487 := Nat.le_trans (Keep.refl h0 []).1 (Nat.le_of_eq g487.symm)
  have K487 : Keep h0 h487 [] := (Keep.refl h0 []).ext E487
  have V487 : Arv Z h487 b487 k487 .byte (2 : Int32) [(.int 0), (.int 0)] (.int (0 : Int32)) := (Arv.new A487 (by decide)).pad (pad_rep [] (.int (0 : Int32)) 2)
  have pre489 := own_go pre0 (T487.setTop (mkF m 9 #[rv a1, iv 0, iv 2, rv b487, .unset, .unset] [(.int 2), (.int 0), (.ref b487), (.int 0), (.ref a1)])) fun t kt => by
    refine XS.iloadN X0.here hx rfl (hb hby d9_0) rfl ?_
    refine st487 _ ?_
    refine XS.astoreN X487.here hx rfl (hb hby d9_3) rfl rfl (l' := #[rv a1, iv 0, iv 2, rv b487, .unset, .unset]) rfl ?_
    refine XS.aloadN X487.here hx rfl (hb hby d9_4) rfl rfl ?_
    refine XS.iloadN X487.here hx rfl (hb hby d9_5) rfl ?_
    refine XS.aloadN X487.here hx rfl (hb hby d9_6) rfl rfl ?_
    refine XS.iconst X487.here hx rfl (hb hby d9_7) ?_
    refine XS.iloadN X487.here hx rfl (hb hby d9_8) rfl ?_
    exact kt
  by_cases hk490 : (255 : Int32) < c0
  · obtain ⟨_, T491, L491, X491, hQ491, st491⟩ := own_cS X487 hx hZ hml hown (ow hw 39 rfl) (ow hw 40 rfl) (ow hw 36 rfl) (ow hw 41 rfl) e487 (rm10_2U0 l Z a0 hw [] a1 b487 kc k487 c0 c1 h487 n0 (Nat.le_trans Z0 E487.1) (P0.ext E487) V487 ne488 g_b487 hk490) (W := 0) (g := (mkF m 9 #[rv a1, iv 0, iv 2, rv b487, .unset, .unset] [(.int 2), (.int 0), (.ref b487), (.int 0), (.ref a1)])) (argsL := [(.ref a1), (.int 0), (.ref b487), (.int 0), (.int 2)]) (rest := []) (lenOf pd_11 rfl) (hb hby d9_9)
    obtain ⟨rfl, N491q, K491q⟩ := hQ491
    have N491 := Fr.app N0 N491q
    have K491 : Keep h0 T491.heap [] := K487.trans K491q (allS (Or.inr sz_b487) all0)
    have f492 := ((P0.ext E487).keep K491q (ninS ne488 nin0))
    have f493 := ((P1.ext E487).keep K491q (allS g_b487 all0))
    have z494 : n0 ≤ T491.heap.size := (Nat.le_trans (Nat.le_trans Z0 E487.1) K491q.1)
    obtain ⟨_, T495, L495, X495, hQ495, st495⟩ := own_cS X491 hx hZ hml hown (ow hw 106 rfl) (ow hw 107 rfl) (ow hw 36 rfl) (ow hw 108 rfl) rfl (rm24_2 l Z a0 hw [] a1 kc c0 c1 T491.heap n0 z494 f492 f493 R2 R3 R4) (W := 0) (g := (mkF m 23 #[rv a1, iv 0, iv 2, rv b487, iv 0, .unset] [(.int 2), (.int 0), (.ref a1)])) (argsL := [(.ref a1), (.int 0), (.int 2)]) (rest := []) (lenOf pd_12 rfl) (hb hby d9_23)
    obtain ⟨b495_0, kk495_0, rfl, N495q, K495q, ga495_0, gz495_0, q495_0⟩ := hQ495
    have N495 := Fr.app N491 N495q
    have ne496 : a1 ≠ b495_0 := Nat.ne_of_lt (Nat.lt_of_lt_of_le f492.lt gz495_0)
    have g_b495_0 : n0 ≤ b495_0 := ga495_0
    have sz_b495_0 : h0.size ≤ b495_0 := Nat.le_trans K491.1 gz495_0
    have K495 : Keep h0 T495.heap [] := K491.trans K495q all0
    have z497 : n0 ≤ T495.heap.size := (Nat.le_trans z494 (own_ke K495q).1)
    obtain ⟨cl498, Ar498, -, Sz498, Nz498, Hs498, -⟩ := id q495_0
    obtain ⟨T499, L499, X499, e499, N499, st499⟩ := own_pS X495 hx hZ hml hown N495 (ow hw 122 rfl) (ow hw 123 rfl) (ow hw 36 rfl) (ow hw 124 rfl) rfl (rm28 l Z a0 hw [] b495_0 (0 : Int32) cl498 (4 : Int32) (own_lo c0) (own_hi c0) T495.heap n0 z497 Ar498 Sz498 Nz498 (inb_of Sz498 ⟨by decide, by decide⟩) (Has.at Hs498 (inb_of Sz498 ⟨by decide, by decide⟩) rfl) (inb_of Sz498 ⟨by decide, by decide⟩) (Has.at Hs498 (inb_of Sz498 ⟨by decide, by decide⟩) rfl) (R2.ext (f493.ext (own_ke K495q)).2) (R3.ext (f493.ext (own_ke K495q)).2) (R4.ext (f493.ext (own_ke K495q)).2)) (W := 0) (g := (mkF m 32 #[rv a1, iv 0, iv 2, rv b487, iv 0, rv b495_0] [(.int 0), (.ref b495_0)])) (argsL := [(.ref b495_0), (.int 0)]) (rest := []) (lenOf pd_4 rfl) (hb hby d9_32)
    have pre500 := own_go pre489 (T499.setTop (mkF m 56 #[rv a1, iv 0, iv 2, rv b487, iv 0, rv b495_0] [(.ref b495_0)])) fun t kt => by
      refine st491 _ ?_
      refine XS.istore X491.here hx rfl (hb hby d9_12) rfl (l' := #[rv a1, iv 0, iv 2, rv b487, iv 0, .unset]) rfl ?_
      refine XS.iload X491.here hx rfl (hb hby d9_14) rfl ?_
      refine XS.iloadN X491.here hx rfl (hb hby d9_16) rfl ?_
      refine XS.icmpNo X491.here hx rfl (hb hby d9_17) rfl (feq (by decide : ¬ ((0 : Int32) = (2 : Int32)))).1 ?_
      refine XS.aloadN X491.here hx rfl (hb hby d9_20) rfl rfl ?_
      refine XS.iloadN X491.here hx rfl (hb hby d9_21) rfl ?_
      refine XS.iloadN X491.here hx rfl (hb hby d9_22) rfl ?_
      refine st495 _ ?_
      refine XS.astore X495.here hx rfl (hb hby d9_26) rfl rfl (l' := #[rv a1, iv 0, iv 2, rv b487, iv 0, rv b495_0]) rfl ?_
      refine XS.aload X495.here hx rfl (hb hby d9_28) rfl rfl ?_
      refine XS.iload X495.here hx rfl (hb hby d9_30) rfl ?_
      refine st499 _ ?_
      refine XS.sipush X499.here hx rfl (hb hby d9_35) ?_
      refine XS.icmpYes X499.here hx rfl (pc0 := 38) (pc' := 54) rfl (hb hby d9_38) rfl (tlt ((by rw [own_rtU hr0]; exact hk490) : (255 : Int32) < (own_gc (own_lo c0) (own_hi c0)))).2.2.1 (by decide) (by decide) ?_
      refine XS.aload X499.here hx rfl (hb hby d9_54) rfl rfl ?_
      exact kt
    refine own_lv X499 Bd.notSynchronized (v := some (.ref b495_0)) (own_nv Bd.returns) pre500 (fun fs hr => retOut X499 hx Bd.returns (own_nref _ rfl) (Or.inr (Or.inr (Or.inr (Or.inr ⟨rfl, rfl, rfl⟩)))) (hb hby d9_56) hr) ?_
    show Q9_2U Z a1 kc c0 c1 h0 n0 _ T499.heap _
    rw [e499]
    exact ⟨b495_0, kk495_0, rfl, N499, K495, g_b495_0, sz_b495_0, q495_0⟩
  · by_cases hk501 : (255 : Int32) < c1
    · obtain ⟨_, T502, L502, X502, hQ502, st502⟩ := own_cS X487 hx hZ hml hown (ow hw 39 rfl) (ow hw 40 rfl) (ow hw 36 rfl) (ow hw 41 rfl) e487 (rm10_2U1 l Z a0 hw [] a1 b487 kc k487 c0 c1 h487 n0 (Nat.le_trans Z0 E487.1) (P0.ext E487) V487 ne488 g_b487 hk490 hk501) (W := 0) (g := (mkF m 9 #[rv a1, iv 0, iv 2, rv b487, .unset, .unset] [(.int 2), (.int 0), (.ref b487), (.int 0), (.ref a1)])) (argsL := [(.ref a1), (.int 0), (.ref b487), (.int 0), (.int 2)]) (rest := []) (lenOf pd_11 rfl) (hb hby d9_9)
      obtain ⟨rfl, N502q, K502q⟩ := hQ502
      have N502 := Fr.app N0 N502q
      have K502 : Keep h0 T502.heap [] := K487.trans K502q (allS (Or.inr sz_b487) all0)
      have f503 := ((P0.ext E487).keep K502q (ninS ne488 nin0))
      have f504 := ((P1.ext E487).keep K502q (allS g_b487 all0))
      have z505 : n0 ≤ T502.heap.size := (Nat.le_trans (Nat.le_trans Z0 E487.1) K502q.1)
      obtain ⟨_, T506, L506, X506, hQ506, st506⟩ := own_cS X502 hx hZ hml hown (ow hw 106 rfl) (ow hw 107 rfl) (ow hw 36 rfl) (ow hw 108 rfl) rfl (rm24_2 l Z a0 hw [] a1 kc c0 c1 T502.heap n0 z505 f503 f504 R2 R3 R4) (W := 0) (g := (mkF m 23 #[rv a1, iv 0, iv 2, rv b487, iv 1, .unset] [(.int 2), (.int 0), (.ref a1)])) (argsL := [(.ref a1), (.int 0), (.int 2)]) (rest := []) (lenOf pd_12 rfl) (hb hby d9_23)
      obtain ⟨b506_0, kk506_0, rfl, N506q, K506q, ga506_0, gz506_0, q506_0⟩ := hQ506
      have N506 := Fr.app N502 N506q
      have ne507 : a1 ≠ b506_0 := Nat.ne_of_lt (Nat.lt_of_lt_of_le f503.lt gz506_0)
      have g_b506_0 : n0 ≤ b506_0 := ga506_0
      have sz_b506_0 : h0.size ≤ b506_0 := Nat.le_trans K502.1 gz506_0
      have K506 : Keep h0 T506.heap [] := K502.trans K506q all0
      have z508 : n0 ≤ T506.heap.size := (Nat.le_trans z505 (own_ke K506q).1)
      obtain ⟨cl509, Ar509, -, Sz509, Nz509, Hs509, -⟩ := id q506_0
      obtain ⟨T510, L510, X510, e510, N510, st510⟩ := own_pS X506 hx hZ hml hown N506 (ow hw 122 rfl) (ow hw 123 rfl) (ow hw 36 rfl) (ow hw 124 rfl) rfl (rm28 l Z a0 hw [] b506_0 (1 : Int32) cl509 (4 : Int32) (own_lo c1) (own_hi c1) T506.heap n0 z508 Ar509 Sz509 Nz509 (inb_of Sz509 ⟨by decide, by decide⟩) (Has.at Hs509 (inb_of Sz509 ⟨by decide, by decide⟩) rfl) (inb_of Sz509 ⟨by decide, by decide⟩) (Has.at Hs509 (inb_of Sz509 ⟨by decide, by decide⟩) rfl) (R2.ext (f504.ext (own_ke K506q)).2) (R3.ext (f504.ext (own_ke K506q)).2) (R4.ext (f504.ext (own_ke K506q)).2)) (W := 0) (g := (mkF m 32 #[rv a1, iv 0, iv 2, rv b487, iv 1, rv b506_0] [(.int 1), (.ref b506_0)])) (argsL := [(.ref b506_0), (.int 1)]) (rest := []) (lenOf pd_4 rfl) (hb hby d9_32)
      have pre511 := own_go pre489 (T510.setTop (mkF m 56 #[rv a1, iv 0, iv 2, rv b487, iv 1, rv b506_0] [(.ref b506_0)])) fun t kt => by
        refine st502 _ ?_
        refine XS.istore X502.here hx rfl (hb hby d9_12) rfl (l' := #[rv a1, iv 0, iv 2, rv b487, iv 1, .unset]) rfl ?_
        refine XS.iload X502.here hx rfl (hb hby d9_14) rfl ?_
        refine XS.iloadN X502.here hx rfl (hb hby d9_16) rfl ?_
        refine XS.icmpNo X502.here hx rfl (hb hby d9_17) rfl (feq (by decide : ¬ ((1 : Int32) = (2 : Int32)))).1 ?_
        refine XS.aloadN X502.here hx rfl (hb hby d9_20) rfl rfl ?_
        refine XS.iloadN X502.here hx rfl (hb hby d9_21) rfl ?_
        refine XS.iloadN X502.here hx rfl (hb hby d9_22) rfl ?_
        refine st506 _ ?_
        refine XS.astore X506.here hx rfl (hb hby d9_26) rfl rfl (l' := #[rv a1, iv 0, iv 2, rv b487, iv 1, rv b506_0]) rfl ?_
        refine XS.aload X506.here hx rfl (hb hby d9_28) rfl rfl ?_
        refine XS.iload X506.here hx rfl (hb hby d9_30) rfl ?_
        refine st510 _ ?_
        refine XS.sipush X510.here hx rfl (hb hby d9_35) ?_
        refine XS.icmpYes X510.here hx rfl (pc0 := 38) (pc' := 54) rfl (hb hby d9_38) rfl (tlt ((by rw [own_rtU hr1]; exact hk501) : (255 : Int32) < (own_gc (own_lo c1) (own_hi c1)))).2.2.1 (by decide) (by decide) ?_
        refine XS.aload X510.here hx rfl (hb hby d9_54) rfl rfl ?_
        exact kt
      refine own_lv X510 Bd.notSynchronized (v := some (.ref b506_0)) (own_nv Bd.returns) pre511 (fun fs hr => retOut X510 hx Bd.returns (own_nref _ rfl) (Or.inr (Or.inr (Or.inr (Or.inr ⟨rfl, rfl, rfl⟩)))) (hb hby d9_56) hr) ?_
      show Q9_2U Z a1 kc c0 c1 h0 n0 _ T510.heap _
      rw [e510]
      exact ⟨b506_0, kk506_0, rfl, N510, K506, g_b506_0, sz_b506_0, q506_0⟩
    · exact absurd hU (by simp [hk490, hk501])
theorem ef_11_2U (m : MethodId) (x0 : Addr) : entryFrame m #[(.ref x0), (.int 2)] 2 = mkF m 0 #[.val (.ref x0), .val (.int 2)] [] := by first | (simp [entryFrame, mkF, argsToLocals, Value.category]; done) | rfl
def Q11_2U (Z : State) (a1 : Addr) (kb : ClassId) (y0 : Int32) (y1 : Int32) (y2 : Int32) (y3 : Int32) (h0 : Heap) (n0 : Nat) (v : Option Value) (h : Heap) (L : List Loc) : Prop := v = some (.int 1) ∧ Fr n0 L ∧ h = h0
theorem rm11_2U (l : Launch) (Z : State) (a0 : Array Value) (hw : own_H a0 Z) (ws : List Jvm.Cond) (a1 : Addr) (kb : ClassId) (y0 : Int32) (y1 : Int32) (y2 : Int32) (y3 : Int32) (h0 : Heap) (n0 : Nat) (Z0 : n0 ≤ h0.size) (P0 : Arv Z h0 a1 kb .byte (4 : Int32) [(.int y0), (.int y1), (.int y2), (.int y3)] (.int (0 : Int32))) :
    own_M l Z (⟨"java/lang/StringUTF16", "coderFromArrayLen", "([BI)B"⟩ : MethodName) jdk_52_method_15_code 2 (some .byte) ws ({ frames := 0, cells := 0, slots := 0, locals := 0 } : Room) #[(.ref a1), (.int 2)] h0 (Q11_2U Z a1 kb y0 y1 y2 y3 h0 n0) := by
  refine own_bd (n0 := n0) (plainFor_of_name pn_11) fun p e s m below meth c s₁ Bd hZ hx hby hml hown X0 e0 N0 => ?_
  have pre0 := own_p0 (tb := p.tables) (e := e) (below := below) (s := s₁) (ef_11_2U m a1)
  obtain ⟨cl512, Ar512, -, Sz512, Nz512, -, -⟩ := id P0
  have pre513 := own_go pre0 (s₁.setTop (mkF m 8 #[rv a1, iv 2] [(.int 1)])) fun t kt => by
    refine XS.iloadN X0.here hx rfl (hb hby d11_0) rfl ?_
    refine XS.aloadN X0.here hx rfl (hb hby d11_1) rfl rfl ?_
    refine X0.arraylength hx (by rw [e0]; exact Ar512.1) (State.isArrayOf_alike hZ.alike Ar512.2.1) (g := (mkF m 2 #[rv a1, iv 2] [(.ref a1), (.int 2)])) rfl rfl (hb hby d11_2) _ ?_
    rw [len_of Sz512 Nz512]
    refine XS.isub X0.here hx rfl (hb hby d11_3) rfl ?_
    refine XS.bipush X0.here hx rfl (hb hby d11_4) ?_
    refine XS.iushr X0.here hx rfl (hb hby d11_6) rfl ?_
    refine XS.i2b X0.here hx rfl (hb hby d11_7) rfl ?_
    exact kt
  refine own_lv X0 Bd.notSynchronized (v := some (.int 1)) (own_nv Bd.returns) pre513 (fun fs hr => retN X0 hx (t := .byte) Bd.returns (by simp) (hb hby d11_8) hr) ?_
  show Q11_2U Z a1 kb y0 y1 y2 y3 h0 n0 _ s₁.heap _
  rw [e0]
  exact ⟨rfl, N0, rfl⟩
theorem ef_7_2U (m : MethodId) (x0 : Addr) (x1 : Addr) : entryFrame m #[(.ref x0), (.ref x1), (.int 0), (.int 2), .null] 6 = mkF m 0 #[.val (.ref x0), .val (.ref x1), .val (.int 0), .val (.int 2), .val .null, .unset] [] := by first | (simp [entryFrame, mkF, argsToLocals, Value.category]; done) | rfl
def Q7_2U (Z : State) (a1 : Addr) (a2 : Addr) (kc : ClassId) (c0 : Int32) (c1 : Int32) (cs : Int32) (h0 : Heap) (n0 : Nat) (v : Option Value) (h : Heap) (L : List Loc) : Prop := ∃ (x1 : Addr) (kx1 : ClassId), v = none ∧ Fr n0 L ∧ Keep h0 h [a1] ∧ n0 ≤ x1 ∧ h0.size ≤ x1 ∧ Exa Z h a1 "java/lang/String" ∧ Fld Z h a1 "java/lang/String" "value" "[B" (.ref x1) ∧ Fld Z h a1 "java/lang/String" "coder" "B" (.int 1) ∧ Arv Z h x1 kx1 .byte (4 : Int32) [(.int (own_lo c0)), (.int (own_hi c0)), (.int (own_lo c1)), (.int (own_hi c1))] (.int (0 : Int32))
theorem rm7_2U (l : Launch) (Z : State) (a0 : Array Value) (hw : own_H a0 Z) (ws : List Jvm.Cond) (a1 : Addr) (a2 : Addr) (kc : ClassId) (c0 : Int32) (c1 : Int32) (cs : Int32) (h0 : Heap) (n0 : Nat) (Z0 : n0 ≤ h0.size) (P0 : Exa Z h0 a1 "java/lang/String") (P1 : Fld Z h0 a1 "java/lang/String" "value" "[B" .null) (P2 : Fld Z h0 a1 "java/lang/String" "coder" "B" (.int 0)) (P3 : Arv Z h0 a2 kc .char (2 : Int32) [(.int c0), (.int c1)] (.int (0 : Int32))) (P4 : Old Z n0 h0) (R5 : own_SC Z Z.heap cs) (R6 : Sta Z Z.heap "java/lang/StringUTF16" "$assertionsDisabled" "Z" (.int 1)) (R7 : Sta Z Z.heap "java/lang/StringUTF16" "HI_BYTE_SHIFT" "I" (.int 0)) (R8 : Sta Z Z.heap "java/lang/StringUTF16" "LO_BYTE_SHIFT" "I" (.int 8)) (ne_a2_a1 : a2 ≠ a1) (g_a1 : n0 ≤ a1) (hcs : ¬ cs = (0 : Int32)) (hU : (255 : Int32) < c0 ∨ (255 : Int32) < c1) (hr0 : ¬ c0 < (0 : Int32) ∧ ¬ (65535 : Int32) < c0) (hr1 : ¬ c1 < (0 : Int32) ∧ ¬ (65535 : Int32) < c1) :
    own_M l Z (⟨"java/lang/String", "<init>", "([CIILjava/lang/Void;)V"⟩ : MethodName) jdk_42_method_149_code 6 none ws ({ frames := 4, cells := 2, slots := 6, locals := 57 } : Room) #[(.ref a1), (.ref a2), (.int 0), (.int 2), .null] h0 (Q7_2U Z a1 a2 kc c0 c1 cs h0 n0) := by
  refine own_bd (n0 := n0) (plainFor_of_name pn_7) fun p e s m below meth c s₁ Bd hZ hx hby hml hown X0 e0 N0 => ?_
  have hnm := (name_of_methodNamed Bd.named Bd.method).1
  have pre0 := own_p0 (tb := p.tables) (e := e) (below := below) (s := s₁) (ef_7_2U m a1 a2)
  obtain ⟨T514, X514, e514, st514⟩ := initO X0 hx hZ hown (ow hw 30 rfl) (ow hw 31 rfl) (ow hw 32 rfl) e0 (g := (mkF m 1 #[rv a1, rv a2, iv 0, iv 2, .val .null, .unset] [(.ref a1)])) rfl (by rw [hml]; rfl) rfl (hb hby d7_1) (by decide) (W := 0) (by show 2 * 0 + _ ≤ _; exact Nat.le_of_eq rfl) (by decide)
  obtain ⟨T515, X515, e515, st515⟩ := getS2 X514 hx hZ hown (host := "") (Or.inl (ow hw 33 rfl)) Via.refl e514 (R5.ext P4.2) (g := (mkF m 27 #[rv a1, rv a2, iv 0, iv 2, .val .null, .unset] [])) rfl (hb hby d7_27)
  obtain ⟨_, T516, L516, X516, hQ516, st516⟩ := own_cS X515 hx hZ hml hown (ow hw 34 rfl) (ow hw 35 rfl) (ow hw 36 rfl) (ow hw 37 rfl) e515 (rm9_2U l Z a0 hw [] a2 kc c0 c1 h0 n0 Z0 P3 P4 R6 R7 R8 hU hr0 hr1) (W := 0) (g := (mkF m 36 #[rv a1, rv a2, iv 0, iv 2, .val .null, .unset] [(.int 2), (.int 0), (.ref a2)])) (argsL := [(.ref a2), (.int 0), (.int 2)]) (rest := []) (lenOf pd_12 rfl) (hb hby d7_36)
  obtain ⟨b516_0, kk516_0, rfl, N516q, K516q, ga516_0, gz516_0, q516_0⟩ := hQ516
  have N516 := Fr.app N0 N516q
  have ne517 : a1 ≠ b516_0 := Nat.ne_of_lt (Nat.lt_of_lt_of_le P0.lt gz516_0)
  have ne518 : a2 ≠ b516_0 := Nat.ne_of_lt (Nat.lt_of_lt_of_le P3.lt gz516_0)
  have g_b516_0 : n0 ≤ b516_0 := ga516_0
  have sz_b516_0 : h0.size ≤ b516_0 := Nat.le_trans (Keep.refl h0 [a1]).1 gz516_0
  have K516 : Keep h0 T516.heap [a1] := (Keep.refl h0 [a1]).trans K516q all0
  have z519 : n0 ≤ T516.heap.size := (Nat.le_trans Z0 (own_ke K516q).1)
  obtain ⟨T520, L520, X520, e520, N520, st520⟩ := own_pS X516 hx hZ hml hown N516 (ow hw 42 rfl) (ow hw 43 rfl) (ow hw 36 rfl) (ow hw 44 rfl) rfl (rm11_2U l Z a0 hw [] b516_0 kk516_0 (own_lo c0) (own_hi c0) (own_lo c1) (own_hi c1) T516.heap n0 z519 q516_0) (W := 1) (g := (mkF m 45 #[rv a1, rv a2, iv 0, iv 2, .val .null, rv b516_0] [(.int 2), (.ref b516_0), (.ref a1)])) (argsL := [(.ref b516_0), (.int 2)]) (rest := [(.ref a1)]) (lenOf pd_13 rfl) (hb hby d7_45)
  obtain ⟨T521, h521, X521, e521, W521, st521⟩ := putFN X520 hx hZ hown (ow hw 45 rfl) Via.refl e520 (P2.ext (own_ke K516q)) (P0.ext (own_ke K516q)) (Or.inr ⟨(ow hw 46 rfl), rfl, hnm⟩) (ow hw 21 rfl) (ty := .byte) (v' := (.int (nar .byte (1 : Int32)))) (by decide) rfl (fits_nar_byte _) (g := (mkF m 48 #[rv a1, rv a2, iv 0, iv 2, .val .null, rv b516_0] [(.int 1), (.ref a1)])) rfl rfl (hb hby d7_48)
  have W521' : Wr T516.heap h521 a1 _ (.int 1) := W521
  have N521 := Fr.snoc X521 N520 g_a1
  have K521 : Keep h0 h521 [a1] := K516.wr W521' (Or.inl (by simp))
  have f522 := ((P0.ext (own_ke K516q)).wr W521')
  have f523 := ((P1.ext (own_ke K516q)).other W521' (Or.inr (slot_ne (Or.inr (ow hw 48 rfl)) (Or.inr (ow hw 46 rfl)) (by decide) (t := (.array .byte)) (t' := .byte) (by decide) (by decide))))
  have f524 := ((P3.ext (own_ke K516q)).other W521' ne_a2_a1)
  have f525 := ((P4.ext (own_ke K516q)).wr W521' g_a1)
  have f526 := (q516_0.other W521' (Ne.symm ne517))
  have f527 := ((P2.ext (own_ke K516q)).same W521')
  have z528 : n0 ≤ h521.size := (Nat.le_trans z519 (Keep.of_wr W521').1)
  obtain ⟨T529, h529, X529, e529, W529, st529⟩ := putF X521 hx hZ hown (host := "") (Or.inl (ow hw 47 rfl)) Via.refl e521 f523 f522 (Or.inr ⟨(ow hw 48 rfl), rfl, hnm⟩) (ow hw 21 rfl) (ty := (.array .byte)) (by decide) rfl rfl (g := (mkF m 54 #[rv a1, rv a2, iv 0, iv 2, .val .null, rv b516_0] [(.ref b516_0), (.ref a1)])) rfl rfl (hb hby d7_54)
  have N529 := Fr.snoc X529 N521 g_a1
  have K529 : Keep h0 h529 [a1] := K521.wr W529 (Or.inl (by simp))
  have f530 := (f526.other W529 (Ne.symm ne517))
  have f531 := (f527.other W529 (Or.inr (slot_ne (Or.inr (ow hw 46 rfl)) (Or.inr (ow hw 48 rfl)) (by decide) (t := .byte) (t' := (.array .byte)) (by decide) (by decide))))
  have z532 : n0 ≤ h529.size := (Nat.le_trans z528 (Keep.of_wr W529).1)
  have pre533 := own_go pre0 (T529.setTop (mkF m 57 #[rv a1, rv a2, iv 0, iv 2, .val .null, rv b516_0] [])) fun t kt => by
    refine XS.aloadN X0.here hx rfl (hb hby d7_0) rfl rfl ?_
    refine st514 _ ?_
    refine XS.iloadN X514.here hx rfl (hb hby d7_4) rfl ?_
    refine XS.ifYes X514.here hx rfl (pc0 := 5) (pc' := 27) rfl (hb hby d7_5) rfl ((if0 _ _).trans (feq (by decide : ¬ ((2 : Int32) = (0 : Int32)))).2) (by decide) (by decide) ?_
    refine st515 _ ?_
    refine XS.ifNo X515.here hx rfl (hb hby d7_30) rfl ((if0 _ _).trans (feq (hcs : ¬ (cs = (0 : Int32)))).1) ?_
    refine XS.aloadN X515.here hx rfl (hb hby d7_33) rfl rfl ?_
    refine XS.iloadN X515.here hx rfl (hb hby d7_34) rfl ?_
    refine XS.iloadN X515.here hx rfl (hb hby d7_35) rfl ?_
    refine st516 _ ?_
    refine XS.astore X516.here hx rfl (hb hby d7_39) rfl rfl (l' := #[rv a1, rv a2, iv 0, iv 2, .val .null, rv b516_0]) rfl ?_
    refine XS.aloadN X516.here hx rfl (hb hby d7_41) rfl rfl ?_
    refine XS.aload X516.here hx rfl (hb hby d7_42) rfl rfl ?_
    refine XS.iloadN X516.here hx rfl (hb hby d7_44) rfl ?_
    refine st520 _ ?_
    refine st521 _ ?_
    refine XS.aloadN X521.here hx rfl (hb hby d7_51) rfl rfl ?_
    refine XS.aload X521.here hx rfl (hb hby d7_52) rfl rfl ?_
    refine st529 _ ?_
    exact kt
  refine own_lv X529 Bd.notSynchronized (v := none) (fun _ => rfl) pre533 (fun fs hr => X529.returnOut hx Bd.returns (hb hby d7_57) hr) ?_
  show Q7_2U Z a1 a2 kc c0 c1 cs h0 n0 _ T529.heap _
  rw [e529]
  exact ⟨b516_0, kk516_0, rfl, N529, K529, g_b516_0, sz_b516_0, (f522.wr W529), (f523.same W529), f531, f530⟩
def Q6_2U (Z : State) (a1 : Addr) (a2 : Addr) (kc : ClassId) (c0 : Int32) (c1 : Int32) (cs : Int32) (h0 : Heap) (n0 : Nat) (v : Option Value) (h : Heap) (L : List Loc) : Prop := ∃ (x1 : Addr) (kx1 : ClassId), v = none ∧ Fr n0 L ∧ Keep h0 h [a1] ∧ n0 ≤ x1 ∧ h0.size ≤ x1 ∧ Exa Z h a1 "java/lang/String" ∧ Fld Z h a1 "java/lang/String" "value" "[B" (.ref x1) ∧ Fld Z h a1 "java/lang/String" "coder" "B" (.int 1) ∧ Arv Z h x1 kx1 .byte (4 : Int32) [(.int (own_lo c0)), (.int (own_hi c0)), (.int (own_lo c1)), (.int (own_hi c1))] (.int (0 : Int32))
theorem rm6_2U (l : Launch) (Z : State) (a0 : Array Value) (hw : own_H a0 Z) (ws : List Jvm.Cond) (a1 : Addr) (a2 : Addr) (kc : ClassId) (c0 : Int32) (c1 : Int32) (cs : Int32) (h0 : Heap) (n0 : Nat) (Z0 : n0 ≤ h0.size) (P0 : Exa Z h0 a1 "java/lang/String") (P1 : Fld Z h0 a1 "java/lang/String" "value" "[B" .null) (P2 : Fld Z h0 a1 "java/lang/String" "coder" "B" (.int 0)) (P3 : Arv Z h0 a2 kc .char (2 : Int32) [(.int c0), (.int c1)] (.int (0 : Int32))) (P4 : Old Z n0 h0) (R5 : own_SC Z Z.heap cs) (R6 : Sta Z Z.heap "java/lang/StringUTF16" "$assertionsDisabled" "Z" (.int 1)) (R7 : Sta Z Z.heap "java/lang/StringUTF16" "HI_BYTE_SHIFT" "I" (.int 0)) (R8 : Sta Z Z.heap "java/lang/StringUTF16" "LO_BYTE_SHIFT" "I" (.int 8)) (ne_a2_a1 : a2 ≠ a1) (g_a1 : n0 ≤ a1) (hcs : ¬ cs = (0 : Int32)) (hU : (255 : Int32) < c0 ∨ (255 : Int32) < c1) (hr0 : ¬ c0 < (0 : Int32) ∧ ¬ (65535 : Int32) < c0) (hr1 : ¬ c1 < (0 : Int32) ∧ ¬ (65535 : Int32) < c1) :
    own_M l Z (⟨"java/lang/String", "<init>", "([C)V"⟩ : MethodName) jdk_42_method_3_code 2 none ws ({ frames := 5, cells := 2, slots := 6, locals := 74 } : Room) #[(.ref a1), (.ref a2)] h0 (Q6_2U Z a1 a2 kc c0 c1 cs h0 n0) := by
  refine own_bd (n0 := n0) (plainFor_of_name pn_6) fun p e s m below meth c s₁ Bd hZ hx hby hml hown X0 e0 N0 => ?_
  have pre0 := own_p0 (tb := p.tables) (e := e) (below := below) (s := s₁) (ef_6_1U m a1 a2)
  obtain ⟨cl534, Ar534, -, Sz534, Nz534, -, -⟩ := id P3
  obtain ⟨_, T535, L535, X535, hQ535, st535⟩ := own_cI X0 hx hZ hml hown rfl (ow hw 26 rfl) (ow hw 27 rfl) (ow hw 22 rfl) (ow hw 29 rfl) e0 (rm7_2U l Z a0 hw [] a1 a2 kc c0 c1 cs h0 n0 Z0 P0 P1 P2 P3 P4 R5 R6 R7 R8 ne_a2_a1 g_a1 hcs hU hr0 hr1) (W := 0) (g := (mkF m 6 #[rv a1, rv a2] [.null, (.int 2), (.int 0), (.ref a2), (.ref a1)])) (argsL := [(.ref a2), (.int 0), (.int 2), .null]) (rest := []) (lenOf pd_14 rfl) (hb hby d6_6)
  obtain ⟨b535_0, kk535_0, rfl, N535q, K535q, ga535_0, gz535_0, q535_0, q535_1, q535_2, q535_3⟩ := hQ535
  have N535 := Fr.app N0 N535q
  have ne536 : a1 ≠ b535_0 := Nat.ne_of_lt (Nat.lt_of_lt_of_le P0.lt gz535_0)
  have ne537 : a2 ≠ b535_0 := Nat.ne_of_lt (Nat.lt_of_lt_of_le P3.lt gz535_0)
  have g_b535_0 : n0 ≤ b535_0 := ga535_0
  have sz_b535_0 : h0.size ≤ b535_0 := Nat.le_trans (Keep.refl h0 [a1]).1 gz535_0
  have K535 : Keep h0 T535.heap [a1] := (Keep.refl h0 [a1]).trans K535q (allS (Or.inl (by simp)) all0)
  have f538 := (P3.keep K535q (ninS ne_a2_a1 nin0))
  have f539 := (P4.keep K535q (allS g_a1 all0))
  have pre540 := own_go pre0 (T535.setTop (mkF m 9 #[rv a1, rv a2] [])) fun t kt => by
    refine XS.aloadN X0.here hx rfl (hb hby d6_0) rfl rfl ?_
    refine XS.aloadN X0.here hx rfl (hb hby d6_1) rfl rfl ?_
    refine XS.iconst X0.here hx rfl (hb hby d6_2) ?_
    refine XS.aloadN X0.here hx rfl (hb hby d6_3) rfl rfl ?_
    refine X0.arraylength hx (by rw [e0]; exact Ar534.1) (State.isArrayOf_alike hZ.alike Ar534.2.1) (g := (mkF m 4 #[rv a1, rv a2] [(.ref a2), (.int 0), (.ref a2), (.ref a1)])) rfl rfl (hb hby d6_4) _ ?_
    rw [len_of Sz534 Nz534]
    refine XS.aconstNull X0.here hx rfl (hb hby d6_5) ?_
    refine st535 _ ?_
    exact kt
  refine own_lv X535 Bd.notSynchronized (v := none) (fun _ => rfl) pre540 (fun fs hr => X535.returnOut hx Bd.returns (hb hby d6_9) hr) ?_
  show Q6_2U Z a1 a2 kc c0 c1 cs h0 n0 _ T535.heap _
  exact ⟨b535_0, kk535_0, rfl, N535, K535, g_b535_0, sz_b535_0, q535_0, q535_1, q535_2, q535_3⟩
def Q11_2L (Z : State) (a1 : Addr) (kb : ClassId) (y0 : Int32) (y1 : Int32) (h0 : Heap) (n0 : Nat) (v : Option Value) (h : Heap) (L : List Loc) : Prop := v = some (.int 0) ∧ Fr n0 L ∧ h = h0
theorem rm11_2L (l : Launch) (Z : State) (a0 : Array Value) (hw : own_H a0 Z) (ws : List Jvm.Cond) (a1 : Addr) (kb : ClassId) (y0 : Int32) (y1 : Int32) (h0 : Heap) (n0 : Nat) (Z0 : n0 ≤ h0.size) (P0 : Arv Z h0 a1 kb .byte (2 : Int32) [(.int y0), (.int y1)] (.int (0 : Int32))) :
    own_M l Z (⟨"java/lang/StringUTF16", "coderFromArrayLen", "([BI)B"⟩ : MethodName) jdk_52_method_15_code 2 (some .byte) ws ({ frames := 0, cells := 0, slots := 0, locals := 0 } : Room) #[(.ref a1), (.int 2)] h0 (Q11_2L Z a1 kb y0 y1 h0 n0) := by
  refine own_bd (n0 := n0) (plainFor_of_name pn_11) fun p e s m below meth c s₁ Bd hZ hx hby hml hown X0 e0 N0 => ?_
  have pre0 := own_p0 (tb := p.tables) (e := e) (below := below) (s := s₁) (ef_11_2U m a1)
  obtain ⟨cl541, Ar541, -, Sz541, Nz541, -, -⟩ := id P0
  have pre542 := own_go pre0 (s₁.setTop (mkF m 8 #[rv a1, iv 2] [(.int 0)])) fun t kt => by
    refine XS.iloadN X0.here hx rfl (hb hby d11_0) rfl ?_
    refine XS.aloadN X0.here hx rfl (hb hby d11_1) rfl rfl ?_
    refine X0.arraylength hx (by rw [e0]; exact Ar541.1) (State.isArrayOf_alike hZ.alike Ar541.2.1) (g := (mkF m 2 #[rv a1, iv 2] [(.ref a1), (.int 2)])) rfl rfl (hb hby d11_2) _ ?_
    rw [len_of Sz541 Nz541]
    refine XS.isub X0.here hx rfl (hb hby d11_3) rfl ?_
    refine XS.bipush X0.here hx rfl (hb hby d11_4) ?_
    refine XS.iushr X0.here hx rfl (hb hby d11_6) rfl ?_
    refine XS.i2b X0.here hx rfl (hb hby d11_7) rfl ?_
    exact kt
  refine own_lv X0 Bd.notSynchronized (v := some (.int 0)) (own_nv Bd.returns) pre542 (fun fs hr => retN X0 hx (t := .byte) Bd.returns (by simp) (hb hby d11_8) hr) ?_
  show Q11_2L Z a1 kb y0 y1 h0 n0 _ s₁.heap _
  rw [e0]
  exact ⟨rfl, N0, rfl⟩
def Q7_2L (Z : State) (a1 : Addr) (a2 : Addr) (kc : ClassId) (c0 : Int32) (c1 : Int32) (cs : Int32) (h0 : Heap) (n0 : Nat) (v : Option Value) (h : Heap) (L : List Loc) : Prop := ∃ (x1 : Addr) (kx1 : ClassId), v = none ∧ Fr n0 L ∧ Keep h0 h [a1] ∧ n0 ≤ x1 ∧ h0.size ≤ x1 ∧ Exa Z h a1 "java/lang/String" ∧ Fld Z h a1 "java/lang/String" "value" "[B" (.ref x1) ∧ Fld Z h a1 "java/lang/String" "coder" "B" (.int 0) ∧ Arv Z h x1 kx1 .byte (2 : Int32) [(.int (own_by c0)), (.int (own_by c1))] (.int (0 : Int32))
theorem rm7_2L (l : Launch) (Z : State) (a0 : Array Value) (hw : own_H a0 Z) (ws : List Jvm.Cond) (a1 : Addr) (a2 : Addr) (kc : ClassId) (c0 : Int32) (c1 : Int32) (cs : Int32) (h0 : Heap) (n0 : Nat) (Z0 : n0 ≤ h0.size) (P0 : Exa Z h0 a1 "java/lang/String") (P1 : Fld Z h0 a1 "java/lang/String" "value" "[B" .null) (P2 : Fld Z h0 a1 "java/lang/String" "coder" "B" (.int 0)) (P3 : Arv Z h0 a2 kc .char (2 : Int32) [(.int c0), (.int c1)] (.int (0 : Int32))) (P4 : Old Z n0 h0) (R5 : own_SC Z Z.heap cs) (ne_a2_a1 : a2 ≠ a1) (g_a1 : n0 ≤ a1) (hcs : ¬ cs = (0 : Int32)) (u0 : ¬ (255 : Int32) < c0) (u1 : ¬ (255 : Int32) < c1) :
    own_M l Z (⟨"java/lang/String", "<init>", "([CIILjava/lang/Void;)V"⟩ : MethodName) jdk_42_method_149_code 6 none ws ({ frames := 2, cells := 1, slots := 2, locals := 35 } : Room) #[(.ref a1), (.ref a2), (.int 0), (.int 2), .null] h0 (Q7_2L Z a1 a2 kc c0 c1 cs h0 n0) := by
  refine own_bd (n0 := n0) (plainFor_of_name pn_7) fun p e s m below meth c s₁ Bd hZ hx hby hml hown X0 e0 N0 => ?_
  have hnm := (name_of_methodNamed Bd.named Bd.method).1
  have pre0 := own_p0 (tb := p.tables) (e := e) (below := below) (s := s₁) (ef_7_2U m a1 a2)
  obtain ⟨T543, X543, e543, st543⟩ := initO X0 hx hZ hown (ow hw 30 rfl) (ow hw 31 rfl) (ow hw 32 rfl) e0 (g := (mkF m 1 #[rv a1, rv a2, iv 0, iv 2, .val .null, .unset] [(.ref a1)])) rfl (by rw [hml]; rfl) rfl (hb hby d7_1) (by decide) (W := 0) (by show 2 * 0 + _ ≤ _; exact Nat.le_of_eq rfl) (by decide)
  obtain ⟨T544, X544, e544, st544⟩ := getS2 X543 hx hZ hown (host := "") (Or.inl (ow hw 33 rfl)) Via.refl e543 (R5.ext P4.2) (g := (mkF m 27 #[rv a1, rv a2, iv 0, iv 2, .val .null, .unset] [])) rfl (hb hby d7_27)
  obtain ⟨_, T545, L545, X545, hQ545, st545⟩ := own_cS X544 hx hZ hml hown (ow hw 34 rfl) (ow hw 35 rfl) (ow hw 36 rfl) (ow hw 37 rfl) e544 (rm9_2L l Z a0 hw [] a2 kc c0 c1 h0 n0 Z0 P3 u0 u1) (W := 0) (g := (mkF m 36 #[rv a1, rv a2, iv 0, iv 2, .val .null, .unset] [(.int 2), (.int 0), (.ref a2)])) (argsL := [(.ref a2), (.int 0), (.int 2)]) (rest := []) (lenOf pd_12 rfl) (hb hby d7_36)
  obtain ⟨b545_0, kk545_0, rfl, N545q, K545q, ga545_0, gz545_0, q545_0⟩ := hQ545
  have N545 := Fr.app N0 N545q
  have ne546 : a1 ≠ b545_0 := Nat.ne_of_lt (Nat.lt_of_lt_of_le P0.lt gz545_0)
  have ne547 : a2 ≠ b545_0 := Nat.ne_of_lt (Nat.lt_of_lt_of_le P3.lt gz545_0)
  have g_b545_0 : n0 ≤ b545_0 := ga545_0
  have sz_b545_0 : h0.size ≤ b545_0 := Nat.le_trans (Keep.refl h0 [a1]).1 gz545_0
  have K545 : Keep h0 T545.heap [a1] := (Keep.refl h0 [a1]).trans K545q all0
  have z548 : n0 ≤ T545.heap.size := (Nat.le_trans Z0 (own_ke K545q).1)
  obtain ⟨T549, L549, X549, e549, N549, st549⟩ := own_pS X545 hx hZ hml hown N545 (ow hw 42 rfl) (ow hw 43 rfl) (ow hw 36 rfl) (ow hw 44 rfl) rfl (rm11_2L l Z a0 hw [] b545_0 kk545_0 (own_by c0) (own_by c1) T545.heap n0 z548 q545_0) (W := 1) (g := (mkF m 45 #[rv a1, rv a2, iv 0, iv 2, .val .null, rv b545_0] [(.int 2), (.ref b545_0), (.ref a1)])) (argsL := [(.ref b545_0), (.int 2)]) (rest := [(.ref a1)]) (lenOf pd_13 rfl) (hb hby d7_45)
  obtain ⟨T550, h550, X550, e550, W550, st550⟩ := putFN X549 hx hZ hown (ow hw 45 rfl) Via.refl e549 (P2.ext (own_ke K545q)) (P0.ext (own_ke K545q)) (Or.inr ⟨(ow hw 46 rfl), rfl, hnm⟩) (ow hw 21 rfl) (ty := .byte) (v' := (.int (nar .byte (0 : Int32)))) (by decide) rfl (fits_nar_byte _) (g := (mkF m 48 #[rv a1, rv a2, iv 0, iv 2, .val .null, rv b545_0] [(.int 0), (.ref a1)])) rfl rfl (hb hby d7_48)
  have W550' : Wr T545.heap h550 a1 _ (.int 0) := W550
  have N550 := Fr.snoc X550 N549 g_a1
  have K550 : Keep h0 h550 [a1] := K545.wr W550' (Or.inl (by simp))
  have f551 := ((P0.ext (own_ke K545q)).wr W550')
  have f552 := ((P1.ext (own_ke K545q)).other W550' (Or.inr (slot_ne (Or.inr (ow hw 48 rfl)) (Or.inr (ow hw 46 rfl)) (by decide) (t := (.array .byte)) (t' := .byte) (by decide) (by decide))))
  have f553 := ((P3.ext (own_ke K545q)).other W550' ne_a2_a1)
  have f554 := ((P4.ext (own_ke K545q)).wr W550' g_a1)
  have f555 := (q545_0.other W550' (Ne.symm ne546))
  have f556 := ((P2.ext (own_ke K545q)).same W550')
  have z557 : n0 ≤ h550.size := (Nat.le_trans z548 (Keep.of_wr W550').1)
  obtain ⟨T558, h558, X558, e558, W558, st558⟩ := putF X550 hx hZ hown (host := "") (Or.inl (ow hw 47 rfl)) Via.refl e550 f552 f551 (Or.inr ⟨(ow hw 48 rfl), rfl, hnm⟩) (ow hw 21 rfl) (ty := (.array .byte)) (by decide) rfl rfl (g := (mkF m 54 #[rv a1, rv a2, iv 0, iv 2, .val .null, rv b545_0] [(.ref b545_0), (.ref a1)])) rfl rfl (hb hby d7_54)
  have N558 := Fr.snoc X558 N550 g_a1
  have K558 : Keep h0 h558 [a1] := K550.wr W558 (Or.inl (by simp))
  have f559 := (f555.other W558 (Ne.symm ne546))
  have f560 := (f556.other W558 (Or.inr (slot_ne (Or.inr (ow hw 46 rfl)) (Or.inr (ow hw 48 rfl)) (by decide) (t := .byte) (t' := (.array .byte)) (by decide) (by decide))))
  have z561 : n0 ≤ h558.size := (Nat.le_trans z557 (Keep.of_wr W558).1)
  have pre562 := own_go pre0 (T558.setTop (mkF m 57 #[rv a1, rv a2, iv 0, iv 2, .val .null, rv b545_0] [])) fun t kt => by
    refine XS.aloadN X0.here hx rfl (hb hby d7_0) rfl rfl ?_
    refine st543 _ ?_
    refine XS.iloadN X543.here hx rfl (hb hby d7_4) rfl ?_
    refine XS.ifYes X543.here hx rfl (pc0 := 5) (pc' := 27) rfl (hb hby d7_5) rfl ((if0 _ _).trans (feq (by decide : ¬ ((2 : Int32) = (0 : Int32)))).2) (by decide) (by decide) ?_
    refine st544 _ ?_
    refine XS.ifNo X544.here hx rfl (hb hby d7_30) rfl ((if0 _ _).trans (feq (hcs : ¬ (cs = (0 : Int32)))).1) ?_
    refine XS.aloadN X544.here hx rfl (hb hby d7_33) rfl rfl ?_
    refine XS.iloadN X544.here hx rfl (hb hby d7_34) rfl ?_
    refine XS.iloadN X544.here hx rfl (hb hby d7_35) rfl ?_
    refine st545 _ ?_
    refine XS.astore X545.here hx rfl (hb hby d7_39) rfl rfl (l' := #[rv a1, rv a2, iv 0, iv 2, .val .null, rv b545_0]) rfl ?_
    refine XS.aloadN X545.here hx rfl (hb hby d7_41) rfl rfl ?_
    refine XS.aload X545.here hx rfl (hb hby d7_42) rfl rfl ?_
    refine XS.iloadN X545.here hx rfl (hb hby d7_44) rfl ?_
    refine st549 _ ?_
    refine st550 _ ?_
    refine XS.aloadN X550.here hx rfl (hb hby d7_51) rfl rfl ?_
    refine XS.aload X550.here hx rfl (hb hby d7_52) rfl rfl ?_
    refine st558 _ ?_
    exact kt
  refine own_lv X558 Bd.notSynchronized (v := none) (fun _ => rfl) pre562 (fun fs hr => X558.returnOut hx Bd.returns (hb hby d7_57) hr) ?_
  show Q7_2L Z a1 a2 kc c0 c1 cs h0 n0 _ T558.heap _
  rw [e558]
  exact ⟨b545_0, kk545_0, rfl, N558, K558, g_b545_0, sz_b545_0, (f551.wr W558), (f552.same W558), f560, f559⟩
def Q6_2L (Z : State) (a1 : Addr) (a2 : Addr) (kc : ClassId) (c0 : Int32) (c1 : Int32) (cs : Int32) (h0 : Heap) (n0 : Nat) (v : Option Value) (h : Heap) (L : List Loc) : Prop := ∃ (x1 : Addr) (kx1 : ClassId), v = none ∧ Fr n0 L ∧ Keep h0 h [a1] ∧ n0 ≤ x1 ∧ h0.size ≤ x1 ∧ Exa Z h a1 "java/lang/String" ∧ Fld Z h a1 "java/lang/String" "value" "[B" (.ref x1) ∧ Fld Z h a1 "java/lang/String" "coder" "B" (.int 0) ∧ Arv Z h x1 kx1 .byte (2 : Int32) [(.int (own_by c0)), (.int (own_by c1))] (.int (0 : Int32))
theorem rm6_2L (l : Launch) (Z : State) (a0 : Array Value) (hw : own_H a0 Z) (ws : List Jvm.Cond) (a1 : Addr) (a2 : Addr) (kc : ClassId) (c0 : Int32) (c1 : Int32) (cs : Int32) (h0 : Heap) (n0 : Nat) (Z0 : n0 ≤ h0.size) (P0 : Exa Z h0 a1 "java/lang/String") (P1 : Fld Z h0 a1 "java/lang/String" "value" "[B" .null) (P2 : Fld Z h0 a1 "java/lang/String" "coder" "B" (.int 0)) (P3 : Arv Z h0 a2 kc .char (2 : Int32) [(.int c0), (.int c1)] (.int (0 : Int32))) (P4 : Old Z n0 h0) (R5 : own_SC Z Z.heap cs) (ne_a2_a1 : a2 ≠ a1) (g_a1 : n0 ≤ a1) (hcs : ¬ cs = (0 : Int32)) (u0 : ¬ (255 : Int32) < c0) (u1 : ¬ (255 : Int32) < c1) :
    own_M l Z (⟨"java/lang/String", "<init>", "([C)V"⟩ : MethodName) jdk_42_method_3_code 2 none ws ({ frames := 5, cells := 2, slots := 6, locals := 74 } : Room) #[(.ref a1), (.ref a2)] h0 (Q6_2L Z a1 a2 kc c0 c1 cs h0 n0) := by
  refine own_bd (n0 := n0) (plainFor_of_name pn_6) fun p e s m below meth c s₁ Bd hZ hx hby hml hown X0 e0 N0 => ?_
  have pre0 := own_p0 (tb := p.tables) (e := e) (below := below) (s := s₁) (ef_6_1U m a1 a2)
  obtain ⟨cl563, Ar563, -, Sz563, Nz563, -, -⟩ := id P3
  obtain ⟨_, T564, L564, X564, hQ564, st564⟩ := own_cI X0 hx hZ hml hown rfl (ow hw 26 rfl) (ow hw 27 rfl) (ow hw 22 rfl) (ow hw 29 rfl) e0 (rm7_2L l Z a0 hw [] a1 a2 kc c0 c1 cs h0 n0 Z0 P0 P1 P2 P3 P4 R5 ne_a2_a1 g_a1 hcs u0 u1) (W := 0) (g := (mkF m 6 #[rv a1, rv a2] [.null, (.int 2), (.int 0), (.ref a2), (.ref a1)])) (argsL := [(.ref a2), (.int 0), (.int 2), .null]) (rest := []) (lenOf pd_14 rfl) (hb hby d6_6)
  obtain ⟨b564_0, kk564_0, rfl, N564q, K564q, ga564_0, gz564_0, q564_0, q564_1, q564_2, q564_3⟩ := hQ564
  have N564 := Fr.app N0 N564q
  have ne565 : a1 ≠ b564_0 := Nat.ne_of_lt (Nat.lt_of_lt_of_le P0.lt gz564_0)
  have ne566 : a2 ≠ b564_0 := Nat.ne_of_lt (Nat.lt_of_lt_of_le P3.lt gz564_0)
  have g_b564_0 : n0 ≤ b564_0 := ga564_0
  have sz_b564_0 : h0.size ≤ b564_0 := Nat.le_trans (Keep.refl h0 [a1]).1 gz564_0
  have K564 : Keep h0 T564.heap [a1] := (Keep.refl h0 [a1]).trans K564q (allS (Or.inl (by simp)) all0)
  have f567 := (P3.keep K564q (ninS ne_a2_a1 nin0))
  have f568 := (P4.keep K564q (allS g_a1 all0))
  have pre569 := own_go pre0 (T564.setTop (mkF m 9 #[rv a1, rv a2] [])) fun t kt => by
    refine XS.aloadN X0.here hx rfl (hb hby d6_0) rfl rfl ?_
    refine XS.aloadN X0.here hx rfl (hb hby d6_1) rfl rfl ?_
    refine XS.iconst X0.here hx rfl (hb hby d6_2) ?_
    refine XS.aloadN X0.here hx rfl (hb hby d6_3) rfl rfl ?_
    refine X0.arraylength hx (by rw [e0]; exact Ar563.1) (State.isArrayOf_alike hZ.alike Ar563.2.1) (g := (mkF m 4 #[rv a1, rv a2] [(.ref a2), (.int 0), (.ref a2), (.ref a1)])) rfl rfl (hb hby d6_4) _ ?_
    rw [len_of Sz563 Nz563]
    refine XS.aconstNull X0.here hx rfl (hb hby d6_5) ?_
    refine st564 _ ?_
    exact kt
  refine own_lv X564 Bd.notSynchronized (v := none) (fun _ => rfl) pre569 (fun fs hr => X564.returnOut hx Bd.returns (hb hby d6_9) hr) ?_
  show Q6_2L Z a1 a2 kc c0 c1 cs h0 n0 _ T564.heap _
  exact ⟨b564_0, kk564_0, rfl, N564, K564, g_b564_0, sz_b564_0, q564_0, q564_1, q564_2, q564_3⟩
def own_S2 (Z : State) (h : Heap) (a : Addr) (c0 c1 : Int32) : Prop := (∃ (wt : Addr) (kt : ClassId), Exa Z h a "java/lang/String" ∧ Fld Z h a "java/lang/String" "value" "[B" (.ref wt) ∧ Fld Z h a "java/lang/String" "coder" "B" (.int 0) ∧ Arv Z h wt kt .byte 2 [(.int (own_by c0)), (.int (own_by c1))] (.int 0) ∧ (¬ c0 < (0 : Int32) ∧ ¬ (255 : Int32) < c0) ∧ (¬ c1 < (0 : Int32) ∧ ¬ (255 : Int32) < c1)) ∨ (∃ (wt : Addr) (kt : ClassId), Exa Z h a "java/lang/String" ∧ Fld Z h a "java/lang/String" "value" "[B" (.ref wt) ∧ Fld Z h a "java/lang/String" "coder" "B" (.int 1) ∧ Arv Z h wt kt .byte 4 [(.int (own_lo c0)), (.int (own_hi c0)), (.int (own_lo c1)), (.int (own_hi c1))] (.int 0) ∧ (¬ c0 < (0 : Int32) ∧ ¬ (65535 : Int32) < c0) ∧ (¬ c1 < (0 : Int32) ∧ ¬ (65535 : Int32) < c1))
theorem rmNS_2 (l : Launch) (Z : State) (a0 : Array Value) (hw : own_H a0 Z) (ws : List Jvm.Cond) (a1 : Addr) (a2 : Addr) (kc : ClassId) (c0 : Int32) (c1 : Int32) (cs : Int32) (h0 : Heap) (n0 : Nat) (Z0 : n0 ≤ h0.size) (P0 : Exa Z h0 a1 "java/lang/String") (P1 : Fld Z h0 a1 "java/lang/String" "value" "[B" .null) (P2 : Fld Z h0 a1 "java/lang/String" "coder" "B" (.int 0)) (P3 : Arv Z h0 a2 kc .char (2 : Int32) [(.int c0), (.int c1)] (.int (0 : Int32))) (P4 : Old Z n0 h0) (R5 : own_SC Z Z.heap cs) (R6 : Sta Z Z.heap "java/lang/StringUTF16" "$assertionsDisabled" "Z" (.int 1)) (R7 : Sta Z Z.heap "java/lang/StringUTF16" "HI_BYTE_SHIFT" "I" (.int 0)) (R8 : Sta Z Z.heap "java/lang/StringUTF16" "LO_BYTE_SHIFT" "I" (.int 8)) (ne_a2_a1 : a2 ≠ a1) (g_a1 : n0 ≤ a1) (hcs : ¬ cs = (0 : Int32)) (hr0 : ¬ c0 < (0 : Int32) ∧ ¬ (65535 : Int32) < c0) (hr1 : ¬ c1 < (0 : Int32) ∧ ¬ (65535 : Int32) < c1) :
    own_M l Z (⟨"java/lang/String", "<init>", "([C)V"⟩ : MethodName) jdk_42_method_3_code 2 none ws ({ frames := 5, cells := 2, slots := 6, locals := 74 } : Room) #[(.ref a1), (.ref a2)] h0 (fun v h L => v = none ∧ Fr n0 L ∧ Keep h0 h [a1] ∧ own_S2 Z h a1 c0 c1) := by
  by_cases hU : (255 : Int32) < c0 ∨ (255 : Int32) < c1
  · refine own_mono (rm6_2U l Z a0 hw ws a1 a2 kc c0 c1 cs h0 n0 Z0 P0 P1 P2 P3 P4 R5 R6 R7 R8 ne_a2_a1 g_a1 hcs hU hr0 hr1) ?_
    rintro v h L ⟨x1, kx1, rfl, N, K, -, -, E, FV, FC, A⟩
    exact ⟨rfl, N, K, Or.inr ⟨x1, kx1, E, FV, FC, A, hr0, hr1⟩⟩
  · refine own_mono (rm6_2L l Z a0 hw ws a1 a2 kc c0 c1 cs h0 n0 Z0 P0 P1 P2 P3 P4 R5 ne_a2_a1 g_a1 hcs (fun q => hU (Or.inl q)) (fun q => hU (Or.inr q))) ?_
    rintro v h L ⟨x1, kx1, rfl, N, K, -, -, E, FV, FC, A⟩
    exact ⟨rfl, N, K, Or.inl ⟨x1, kx1, E, FV, FC, A, ⟨hr0.1, (fun q => hU (Or.inl q))⟩, ⟨hr1.1, (fun q => hU (Or.inr q))⟩⟩⟩
theorem rmCH_20 (l : Launch) (Z : State) (a0 : Array Value) (hw : own_H a0 Z) (ws : List Jvm.Cond) (a1 : Addr) (c0 c1 : Int32) (cs : Int32) (vf : Value) (h0 : Heap) (n0 : Nat) (Z0 : n0 ≤ h0.size) (hS : own_S2 Z h0 a1 c0 c1) (SC : own_SC Z h0 cs) (hcs : ¬ cs = (0 : Int32)) (SF : Sta Z h0 "jdk/internal/util/Preconditions" "SIOOBE_FORMATTER" "Ljava/util/function/BiFunction;" vf) (hvf : vf.isRef = true) (SA : own_SA Z h0) (SH : own_SH Z h0) (SL : own_SL Z h0) :
    own_M l Z (⟨"java/lang/String", "charAt", "(I)C"⟩ : MethodName) jdk_42_method_56_code 2 (some .char) ws ({ frames := 4, cells := 0, slots := 0, locals := 53 } : Room) #[(.ref a1), (.int 0)] h0 (fun v h L => v = some (.int c0) ∧ Fr n0 L ∧ h = h0) := by
  rcases hS with ⟨wt, kt, E1, FV, FC, A, hr0, hr1⟩ | ⟨wt, kt, E1, FV, FC, A, hr0, hr1⟩
  · obtain ⟨cl, Ar, -, Sz, Nz, Hs, -⟩ := A
    have q := rm16L l Z a0 hw ws a1 (0 : Int32) wt cl (2 : Int32) (own_by c0) cs vf h0 n0 Z0 E1 FC FV Ar Sz Nz (by decide) (by decide) (Has.at Hs (inb_of Sz ⟨by decide, by decide⟩) rfl) SC hcs SF hvf
    unfold Q16L at q
    rw [own_rtL hr0] at q
    exact q
  · obtain ⟨cl, Ar, -, Sz, Nz, Hs, -⟩ := A
    have q := rm16U l Z a0 hw ws a1 (0 : Int32) wt cl (4 : Int32) (own_lo c0) (own_hi c0) vf cs h0 n0 Z0 E1 FC FV Ar Sz Nz (by decide) (by decide) (inb_of Sz ⟨by decide, by decide⟩) (Has.at Hs (inb_of Sz ⟨by decide, by decide⟩) rfl) (inb_of Sz ⟨by decide, by decide⟩) (Has.at Hs (inb_of Sz ⟨by decide, by decide⟩) rfl) SA SH SL SF hvf SC hcs
    unfold Q16U at q
    rw [own_rtU hr0, own_ncz hr0, own_ncz hr0] at q
    exact q
theorem rmCH_21 (l : Launch) (Z : State) (a0 : Array Value) (hw : own_H a0 Z) (ws : List Jvm.Cond) (a1 : Addr) (c0 c1 : Int32) (cs : Int32) (vf : Value) (h0 : Heap) (n0 : Nat) (Z0 : n0 ≤ h0.size) (hS : own_S2 Z h0 a1 c0 c1) (SC : own_SC Z h0 cs) (hcs : ¬ cs = (0 : Int32)) (SF : Sta Z h0 "jdk/internal/util/Preconditions" "SIOOBE_FORMATTER" "Ljava/util/function/BiFunction;" vf) (hvf : vf.isRef = true) (SA : own_SA Z h0) (SH : own_SH Z h0) (SL : own_SL Z h0) :
    own_M l Z (⟨"java/lang/String", "charAt", "(I)C"⟩ : MethodName) jdk_42_method_56_code 2 (some .char) ws ({ frames := 4, cells := 0, slots := 0, locals := 53 } : Room) #[(.ref a1), (.int 1)] h0 (fun v h L => v = some (.int c1) ∧ Fr n0 L ∧ h = h0) := by
  rcases hS with ⟨wt, kt, E1, FV, FC, A, hr0, hr1⟩ | ⟨wt, kt, E1, FV, FC, A, hr0, hr1⟩
  · obtain ⟨cl, Ar, -, Sz, Nz, Hs, -⟩ := A
    have q := rm16L l Z a0 hw ws a1 (1 : Int32) wt cl (2 : Int32) (own_by c1) cs vf h0 n0 Z0 E1 FC FV Ar Sz Nz (by decide) (by decide) (Has.at Hs (inb_of Sz ⟨by decide, by decide⟩) rfl) SC hcs SF hvf
    unfold Q16L at q
    rw [own_rtL hr1] at q
    exact q
  · obtain ⟨cl, Ar, -, Sz, Nz, Hs, -⟩ := A
    have q := rm16U l Z a0 hw ws a1 (1 : Int32) wt cl (4 : Int32) (own_lo c1) (own_hi c1) vf cs h0 n0 Z0 E1 FC FV Ar Sz Nz (by decide) (by decide) (inb_of Sz ⟨by decide, by decide⟩) (Has.at Hs (inb_of Sz ⟨by decide, by decide⟩) rfl) (inb_of Sz ⟨by decide, by decide⟩) (Has.at Hs (inb_of Sz ⟨by decide, by decide⟩) rfl) SA SH SL SF hvf SC hcs
    unfold Q16U at q
    rw [own_rtU hr1, own_ncz hr1, own_ncz hr1] at q
    exact q
theorem rmLN_2 (l : Launch) (Z : State) (a0 : Array Value) (hw : own_H a0 Z) (ws : List Jvm.Cond) (a1 : Addr) (c0 c1 : Int32) (cs : Int32) (vf : Value) (h0 : Heap) (n0 : Nat) (Z0 : n0 ≤ h0.size) (hS : own_S2 Z h0 a1 c0 c1) (SC : own_SC Z h0 cs) (hcs : ¬ cs = (0 : Int32)) (SF : Sta Z h0 "jdk/internal/util/Preconditions" "SIOOBE_FORMATTER" "Ljava/util/function/BiFunction;" vf) (hvf : vf.isRef = true) (SA : own_SA Z h0) (SH : own_SH Z h0) (SL : own_SL Z h0) :
    own_M l Z (⟨"java/lang/String", "length", "()I"⟩ : MethodName) jdk_42_method_54_code 1 (some .int) ws ({ frames := 1, cells := 0, slots := 0, locals := 13 } : Room) #[(.ref a1)] h0 (fun v h L => v = some (.int 2) ∧ Fr n0 L ∧ h = h0) := by
  rcases hS with ⟨wt, kt, E1, FV, FC, A, hr0, hr1⟩ | ⟨wt, kt, E1, FV, FC, A, hr0, hr1⟩
  · obtain ⟨cl, Ar, -, Sz, Nz, Hs, -⟩ := A
    exact rm14L l Z a0 hw ws a1 wt cl (2 : Int32) cs h0 n0 Z0 E1 FC FV Ar Sz Nz SC hcs
  · obtain ⟨cl, Ar, -, Sz, Nz, Hs, -⟩ := A
    exact rm14U l Z a0 hw ws a1 wt cl (4 : Int32) cs h0 n0 Z0 E1 FC FV Ar Sz Nz SC hcs
theorem rmEM_2 (l : Launch) (Z : State) (a0 : Array Value) (hw : own_H a0 Z) (ws : List Jvm.Cond) (a1 : Addr) (c0 c1 : Int32) (cs : Int32) (vf : Value) (h0 : Heap) (n0 : Nat) (Z0 : n0 ≤ h0.size) (hS : own_S2 Z h0 a1 c0 c1) (SC : own_SC Z h0 cs) (hcs : ¬ cs = (0 : Int32)) (SF : Sta Z h0 "jdk/internal/util/Preconditions" "SIOOBE_FORMATTER" "Ljava/util/function/BiFunction;" vf) (hvf : vf.isRef = true) (SA : own_SA Z h0) (SH : own_SH Z h0) (SL : own_SL Z h0) :
    own_M l Z (⟨"java/lang/String", "isEmpty", "()Z"⟩ : MethodName) jdk_42_method_55_code 1 (some .boolean) ws ({ frames := 0, cells := 0, slots := 0, locals := 0 } : Room) #[(.ref a1)] h0 (fun v h L => v = some (.int 0) ∧ Fr n0 L ∧ h = h0) := by
  rcases hS with ⟨wt, kt, E1, FV, FC, A, hr0, hr1⟩ | ⟨wt, kt, E1, FV, FC, A, hr0, hr1⟩
  · obtain ⟨cl, Ar, -, Sz, Nz, Hs, -⟩ := A
    exact rm13 l Z a0 hw ws a1 wt cl (2 : Int32) h0 n0 Z0 FV Ar Sz Nz (by decide)
  · obtain ⟨cl, Ar, -, Sz, Nz, Hs, -⟩ := A
    exact rm13 l Z a0 hw ws a1 wt cl (4 : Int32) h0 n0 Z0 FV Ar Sz Nz (by decide)
theorem own_Exa2 {Z : State} {h : Heap} {a : Addr} {c0 c1 : Int32} (hS : own_S2 Z h a c0 c1) : Exa Z h a "java/lang/String" := by
  rcases hS with ⟨_, _, E, -⟩ | ⟨_, _, E, -⟩ <;> exact E
theorem d12_87 : decode prog_23_method_2_code 87 = .ok (.iload_n 1, 1) := by decide +kernel
theorem d12_88 : decode prog_23_method_2_code 88 = .ok (.iconst 1, 1) := by decide +kernel
theorem d12_89 : decode prog_23_method_2_code 89 = .ok (.iadd, 1) := by decide +kernel
theorem d12_90 : decode prog_23_method_2_code 90 = .ok (.aload_n 0, 1) := by decide +kernel
theorem d12_91 : decode prog_23_method_2_code 91 = .ok (.invokevirtual 20, 3) := by decide +kernel
theorem d12_94 : decode prog_23_method_2_code 94 = .ok (.if_icmp .ge 22, 3) := by decide +kernel
theorem d12_97 : decode prog_23_method_2_code 97 = .ok (.aload_n 0, 1) := by decide +kernel
theorem d12_98 : decode prog_23_method_2_code 98 = .ok (.iload_n 1, 1) := by decide +kernel
theorem d12_99 : decode prog_23_method_2_code 99 = .ok (.iconst 1, 1) := by decide +kernel
theorem d12_100 : decode prog_23_method_2_code 100 = .ok (.iadd, 1) := by decide +kernel
theorem d12_101 : decode prog_23_method_2_code 101 = .ok (.invokevirtual 24, 3) := by decide +kernel
theorem d12_104 : decode prog_23_method_2_code 104 = .ok (.invokestatic 47, 3) := by decide +kernel
theorem d12_107 : decode prog_23_method_2_code 107 = .ok (.ifCond .eq 9, 3) := by decide +kernel
theorem d12_110 : decode prog_23_method_2_code 110 = .ok (.iinc 1 1, 3) := by decide +kernel
theorem d12_113 : decode prog_23_method_2_code 113 = .ok (.goto 27, 3) := by decide +kernel
def Q12_2 (Z : State) (a1 : Addr) (c0 : Int32) (c1 : Int32) (cs : Int32) (vf : Value) (h0 : Heap) (n0 : Nat) (v : Option Value) (h : Heap) (L : List Loc) : Prop := v = none ∧ Fr n0 L ∧ h = h0
theorem rm12_2 (l : Launch) (Z : State) (a0 : Array Value) (hw : own_H a0 Z) (ws : List Jvm.Cond) (a1 : Addr) (c0 : Int32) (c1 : Int32) (cs : Int32) (vf : Value) (h0 : Heap) (n0 : Nat) (Z0 : n0 ≤ h0.size) (hS : own_S2 Z h0 a1 c0 c1) (SC : own_SC Z h0 cs) (hcs : ¬ cs = (0 : Int32)) (SF : Sta Z h0 "jdk/internal/util/Preconditions" "SIOOBE_FORMATTER" "Ljava/util/function/BiFunction;" vf) (hvf : vf.isRef = true) (SA : own_SA Z h0) (SH : own_SH Z h0) (SL : own_SL Z h0) (hk0 : own_F3 c0 = (0 : Int32) ∧ (¬ own_F4 c0 = (0 : Int32) → ¬ own_F5 c1 = (0 : Int32)) ∧ (own_F4 c0 = (0 : Int32) → ¬ own_F5 c0 = (0 : Int32) → False)) (hk1 : own_F3 c1 = (0 : Int32) ∧ (¬ own_F4 c1 = (0 : Int32) → False) ∧ (own_F4 c1 = (0 : Int32) → ¬ own_F5 c1 = (0 : Int32) → ¬ own_F4 c0 = (0 : Int32))) :
    own_M l Z (⟨"com/example/lexiflow/lexiflow/model/Ids", "check", "(Ljava/lang/String;)V"⟩ : MethodName) prog_23_method_2_code 3 none ws ({ frames := 5, cells := 0, slots := 0, locals := 66 } : Room) #[(.ref a1)] h0 (Q12_2 Z a1 c0 c1 cs vf h0 n0) := by
  refine own_bd (n0 := n0) (plainFor_of_name pn_12) fun p e s m below meth c s₁ Bd hZ hx hby hml hown X0 e0 N0 => ?_
  have pre0 := own_p0 (tb := p.tables) (e := e) (below := below) (s := s₁) (ef_12_1 m a1)
  obtain ⟨T570, L570, X570, e570, N570, st570⟩ := own_pV X0 hx hZ hml hown N0 (ow hw 53 rfl) (ow hw 54 rfl) (notFace_of_selects (args := #[]) (mvT hZ (ow hw 56 rfl))) (ow hw 56 rfl) (ow hw 55 rfl) (ow hw 22 rfl) (ow hw 57 rfl) e0 (rmEM_2 l Z a0 hw [] a1 c0 c1 cs vf h0 n0 Z0 hS SC hcs SF hvf SA SH SL) (own_Exa2 hS) (W := 0) (g := (mkF m 1 #[rv a1, .unset, .unset] [(.ref a1)])) (argsL := []) (rest := []) (lenOf pd_3 rfl) (hb hby d12_1)
  obtain ⟨T571, L571, X571, e571, N571, st571⟩ := own_pV X570 hx hZ hml hown N570 (ow hw 58 rfl) (ow hw 59 rfl) (notFace_of_selects (args := #[]) (mvT hZ (ow hw 61 rfl))) (ow hw 61 rfl) (ow hw 60 rfl) (ow hw 22 rfl) (ow hw 62 rfl) e570 (rmLN_2 l Z a0 hw [] a1 c0 c1 cs vf h0 n0 Z0 hS SC hcs SF hvf SA SH SL) (own_Exa2 hS) (W := 1) (g := (mkF m 21 #[rv a1, iv 0, .unset] [(.ref a1), (.int 0)])) (argsL := []) (rest := [(.int 0)]) (lenOf pd_15 rfl) (hb hby d12_21)
  obtain ⟨T572, L572, X572, e572, N572, st572⟩ := own_pV X571 hx hZ hml hown N571 (ow hw 68 rfl) (ow hw 69 rfl) (notFace_of_selects (args := #[]) (mvT hZ (ow hw 71 rfl))) (ow hw 71 rfl) (ow hw 70 rfl) (ow hw 22 rfl) (ow hw 72 rfl) e571 (rmCH_20 l Z a0 hw [] a1 c0 c1 cs vf h0 n0 Z0 hS SC hcs SF hvf SA SH SL) (own_Exa2 hS) (W := 0) (g := (mkF m 29 #[rv a1, iv 0, .unset] [(.int 0), (.ref a1)])) (argsL := [(.int 0)]) (rest := []) (lenOf pd_16 rfl) (hb hby d12_29)
  obtain ⟨T573, L573, X573, e573, N573, st573⟩ := own_pS X572 hx hZ hml hown N572 (ow hw 90 rfl) (ow hw 91 rfl) (ow hw 51 rfl) (ow hw 92 rfl) e572 (rm21 l Z a0 hw [] c0 h0 n0 Z0) (W := 0) (g := (mkF m 57 #[rv a1, iv 0, iv c0] [(.int c0)])) (argsL := [(.int c0)]) (rest := []) (lenOf pd_0 rfl) (hb hby d12_57)
  obtain ⟨T574, L574, X574, e574, N574, st574⟩ := own_pS X573 hx hZ hml hown N573 (ow hw 93 rfl) (ow hw 94 rfl) (ow hw 95 rfl) (ow hw 96 rfl) e573 (rm22 l Z a0 hw [] c0 h0 n0 Z0) (W := 0) (g := (mkF m 81 #[rv a1, iv 0, iv c0] [(.int c0)])) (argsL := [(.int c0)]) (rest := []) (lenOf pd_0 rfl) (hb hby d12_81)
  have pre575 := own_go pre0 (T574.setTop (mkF m 84 #[rv a1, iv 0, iv c0] [(.int (own_F22 c0))])) fun t kt => by
    refine XS.aloadN X0.here hx rfl (hb hby d12_0) rfl rfl ?_
    refine st570 _ ?_
    refine XS.ifYes X570.here hx rfl (pc0 := 4) (pc' := 17) rfl (hb hby d12_4) rfl ((if0 _ _).trans (teq (by decide : (0 : Int32) = (0 : Int32))).1) (by decide) (by decide) ?_
    refine XS.iconst X570.here hx rfl (hb hby d12_17) ?_
    refine XS.istoreN X570.here hx rfl (hb hby d12_18) rfl (l' := #[rv a1, iv 0, .unset]) rfl ?_
    refine XS.iloadN X570.here hx rfl (hb hby d12_19) rfl ?_
    refine XS.aloadN X570.here hx rfl (hb hby d12_20) rfl rfl ?_
    refine st571 _ ?_
    refine XS.icmpNo X571.here hx rfl (hb hby d12_24) rfl (tlt (by decide : (0 : Int32) < (2 : Int32))).2.1 ?_
    refine XS.aloadN X571.here hx rfl (hb hby d12_27) rfl rfl ?_
    refine XS.iloadN X571.here hx rfl (hb hby d12_28) rfl ?_
    refine st572 _ ?_
    refine XS.istoreN X572.here hx rfl (hb hby d12_32) rfl (l' := #[rv a1, iv 0, iv c0]) rfl ?_
    refine XS.iloadN X572.here hx rfl (hb hby d12_33) rfl ?_
    refine XS.bipush X572.here hx rfl (hb hby d12_34) ?_
    refine XS.icmpYes X572.here hx rfl (pc0 := 36) (pc' := 56) rfl (hb hby d12_36) rfl (feq ((own_lb _ hk0.1).1 : ¬ (c0 = (9 : Int32)))).2 (by decide) (by decide) ?_
    refine XS.iloadN X572.here hx rfl (hb hby d12_56) rfl ?_
    refine st573 _ ?_
    refine XS.ifYes X573.here hx rfl (pc0 := 60) (pc' := 80) rfl (hb hby d12_60) rfl ((if0 _ _).trans (teq ((own_lb _ hk0.1).2 : (own_F21 c0) = (0 : Int32))).1) (by decide) (by decide) ?_
    refine XS.iloadN X573.here hx rfl (hb hby d12_80) rfl ?_
    refine st574 _ ?_
    exact kt
  by_cases hc84_576 : (own_F22 c0) = (0 : Int32)
  · obtain ⟨T577, L577, X577, e577, N577, st577⟩ := own_pS X574 hx hZ hml hown N574 (ow hw 98 rfl) (ow hw 99 rfl) (ow hw 95 rfl) (ow hw 100 rfl) e574 (rm23 l Z a0 hw [] c0 h0 n0 Z0) (W := 0) (g := (mkF m 117 #[rv a1, iv 0, iv c0] [(.int c0)])) (argsL := [(.int c0)]) (rest := []) (lenOf pd_0 rfl) (hb hby d12_117)
    obtain ⟨T578, L578, X578, e578, N578, st578⟩ := own_pV X577 hx hZ hml hown N577 (ow hw 58 rfl) (ow hw 59 rfl) (notFace_of_selects (args := #[]) (mvT hZ (ow hw 61 rfl))) (ow hw 61 rfl) (ow hw 60 rfl) (ow hw 22 rfl) (ow hw 62 rfl) e577 (rmLN_2 l Z a0 hw [] a1 c0 c1 cs vf h0 n0 Z0 hS SC hcs SF hvf SA SH SL) (own_Exa2 hS) (W := 1) (g := (mkF m 21 #[rv a1, iv 1, iv c0] [(.ref a1), (.int 1)])) (argsL := []) (rest := [(.int 1)]) (lenOf pd_15 rfl) (hb hby d12_21)
    obtain ⟨T579, L579, X579, e579, N579, st579⟩ := own_pV X578 hx hZ hml hown N578 (ow hw 68 rfl) (ow hw 69 rfl) (notFace_of_selects (args := #[]) (mvT hZ (ow hw 71 rfl))) (ow hw 71 rfl) (ow hw 70 rfl) (ow hw 22 rfl) (ow hw 72 rfl) e578 (rmCH_21 l Z a0 hw [] a1 c0 c1 cs vf h0 n0 Z0 hS SC hcs SF hvf SA SH SL) (own_Exa2 hS) (W := 0) (g := (mkF m 29 #[rv a1, iv 1, iv c0] [(.int 1), (.ref a1)])) (argsL := [(.int 1)]) (rest := []) (lenOf pd_16 rfl) (hb hby d12_29)
    obtain ⟨T580, L580, X580, e580, N580, st580⟩ := own_pS X579 hx hZ hml hown N579 (ow hw 90 rfl) (ow hw 91 rfl) (ow hw 51 rfl) (ow hw 92 rfl) e579 (rm21 l Z a0 hw [] c1 h0 n0 Z0) (W := 0) (g := (mkF m 57 #[rv a1, iv 1, iv c1] [(.int c1)])) (argsL := [(.int c1)]) (rest := []) (lenOf pd_0 rfl) (hb hby d12_57)
    obtain ⟨T581, L581, X581, e581, N581, st581⟩ := own_pS X580 hx hZ hml hown N580 (ow hw 93 rfl) (ow hw 94 rfl) (ow hw 95 rfl) (ow hw 96 rfl) e580 (rm22 l Z a0 hw [] c1 h0 n0 Z0) (W := 0) (g := (mkF m 81 #[rv a1, iv 1, iv c1] [(.int c1)])) (argsL := [(.int c1)]) (rest := []) (lenOf pd_0 rfl) (hb hby d12_81)
    obtain ⟨T582, L582, X582, e582, N582, st582⟩ := own_pS X581 hx hZ hml hown N581 (ow hw 98 rfl) (ow hw 99 rfl) (ow hw 95 rfl) (ow hw 100 rfl) e581 (rm23 l Z a0 hw [] c1 h0 n0 Z0) (W := 0) (g := (mkF m 117 #[rv a1, iv 1, iv c1] [(.int c1)])) (argsL := [(.int c1)]) (rest := []) (lenOf pd_0 rfl) (hb hby d12_117)
    obtain ⟨T583, L583, X583, e583, N583, st583⟩ := own_pV X582 hx hZ hml hown N582 (ow hw 58 rfl) (ow hw 59 rfl) (notFace_of_selects (args := #[]) (mvT hZ (ow hw 61 rfl))) (ow hw 61 rfl) (ow hw 60 rfl) (ow hw 22 rfl) (ow hw 62 rfl) e582 (rmLN_2 l Z a0 hw [] a1 c0 c1 cs vf h0 n0 Z0 hS SC hcs SF hvf SA SH SL) (own_Exa2 hS) (W := 1) (g := (mkF m 21 #[rv a1, iv 2, iv c1] [(.ref a1), (.int 2)])) (argsL := []) (rest := [(.int 2)]) (lenOf pd_15 rfl) (hb hby d12_21)
    have pre584 := own_go pre575 (T583.setTop (mkF m 146 #[rv a1, iv 2, iv c1] [])) fun t kt => by
      refine XS.ifYes X574.here hx rfl (pc0 := 84) (pc' := 116) rfl (hb hby d12_84) rfl ((if0 _ _).trans (teq hc84_576).1) (by decide) (by decide) ?_
      refine XS.iloadN X574.here hx rfl (hb hby d12_116) rfl ?_
      refine st577 _ ?_
      refine XS.ifYes X577.here hx rfl (pc0 := 120) (pc' := 140) rfl (hb hby d12_120) rfl ((if0 _ _).trans (teq ((own_is _ (by rw [← own_hs]; exact hc84_576) (Classical.byContradiction fun q => hk0.2.2 (by rw [← own_hs]; exact hc84_576) q)) : (own_F23 c0) = (0 : Int32))).1) (by decide) (by decide) ?_
      refine XS.iinc X577.here hx rfl (hb hby d12_140) rfl (l' := #[rv a1, iv 1, iv c0]) rfl ?_
      refine XS.goto X577.here hx rfl (pc0 := 143) (pc' := 19) rfl (hb hby d12_143) (by decide) (by decide) ?_
      refine XS.iloadN X577.here hx rfl (hb hby d12_19) rfl ?_
      refine XS.aloadN X577.here hx rfl (hb hby d12_20) rfl rfl ?_
      refine st578 _ ?_
      refine XS.icmpNo X578.here hx rfl (hb hby d12_24) rfl (tlt (by decide : (1 : Int32) < (2 : Int32))).2.1 ?_
      refine XS.aloadN X578.here hx rfl (hb hby d12_27) rfl rfl ?_
      refine XS.iloadN X578.here hx rfl (hb hby d12_28) rfl ?_
      refine st579 _ ?_
      refine XS.istoreN X579.here hx rfl (hb hby d12_32) rfl (l' := #[rv a1, iv 1, iv c1]) rfl ?_
      refine XS.iloadN X579.here hx rfl (hb hby d12_33) rfl ?_
      refine XS.bipush X579.here hx rfl (hb hby d12_34) ?_
      refine XS.icmpYes X579.here hx rfl (pc0 := 36) (pc' := 56) rfl (hb hby d12_36) rfl (feq ((own_lb _ hk1.1).1 : ¬ (c1 = (9 : Int32)))).2 (by decide) (by decide) ?_
      refine XS.iloadN X579.here hx rfl (hb hby d12_56) rfl ?_
      refine st580 _ ?_
      refine XS.ifYes X580.here hx rfl (pc0 := 60) (pc' := 80) rfl (hb hby d12_60) rfl ((if0 _ _).trans (teq ((own_lb _ hk1.1).2 : (own_F21 c1) = (0 : Int32))).1) (by decide) (by decide) ?_
      refine XS.iloadN X580.here hx rfl (hb hby d12_80) rfl ?_
      refine st581 _ ?_
      refine XS.ifYes X581.here hx rfl (pc0 := 84) (pc' := 116) rfl (hb hby d12_84) rfl ((if0 _ _).trans (teq ((by rw [own_hs]; exact Classical.byContradiction fun q => hk1.2.1 q) : (own_F22 c1) = (0 : Int32))).1) (by decide) (by decide) ?_
      refine XS.iloadN X581.here hx rfl (hb hby d12_116) rfl ?_
      refine st582 _ ?_
      refine XS.ifYes X582.here hx rfl (pc0 := 120) (pc' := 140) rfl (hb hby d12_120) rfl ((if0 _ _).trans (teq ((own_is _ (Classical.byContradiction fun q => hk1.2.1 q) (Classical.byContradiction fun q => hk1.2.2 (Classical.byContradiction fun q => hk1.2.1 q) q (by rw [← own_hs]; exact hc84_576))) : (own_F23 c1) = (0 : Int32))).1) (by decide) (by decide) ?_
      refine XS.iinc X582.here hx rfl (hb hby d12_140) rfl (l' := #[rv a1, iv 2, iv c1]) rfl ?_
      refine XS.goto X582.here hx rfl (pc0 := 143) (pc' := 19) rfl (hb hby d12_143) (by decide) (by decide) ?_
      refine XS.iloadN X582.here hx rfl (hb hby d12_19) rfl ?_
      refine XS.aloadN X582.here hx rfl (hb hby d12_20) rfl rfl ?_
      refine st583 _ ?_
      refine XS.icmpYes X583.here hx rfl (pc0 := 24) (pc' := 146) rfl (hb hby d12_24) rfl (flt (by decide : ¬ ((2 : Int32) < (2 : Int32)))).2.1 (by decide) (by decide) ?_
      exact kt
    refine own_lv X583 Bd.notSynchronized (v := none) (fun _ => rfl) pre584 (fun fs hr => X583.returnOut hx Bd.returns (hb hby d12_146) hr) ?_
    show Q12_2 Z a1 c0 c1 cs vf h0 n0 _ T583.heap _
    rw [e583]
    exact ⟨rfl, N583, rfl⟩
  · obtain ⟨T585, L585, X585, e585, N585, st585⟩ := own_pV X574 hx hZ hml hown N574 (ow hw 58 rfl) (ow hw 59 rfl) (notFace_of_selects (args := #[]) (mvT hZ (ow hw 61 rfl))) (ow hw 61 rfl) (ow hw 60 rfl) (ow hw 22 rfl) (ow hw 62 rfl) e574 (rmLN_2 l Z a0 hw [] a1 c0 c1 cs vf h0 n0 Z0 hS SC hcs SF hvf SA SH SL) (own_Exa2 hS) (W := 1) (g := (mkF m 91 #[rv a1, iv 0, iv c0] [(.ref a1), (.int 1)])) (argsL := []) (rest := [(.int 1)]) (lenOf pd_15 rfl) (hb hby d12_91)
    obtain ⟨T586, L586, X586, e586, N586, st586⟩ := own_pV X585 hx hZ hml hown N585 (ow hw 68 rfl) (ow hw 69 rfl) (notFace_of_selects (args := #[]) (mvT hZ (ow hw 71 rfl))) (ow hw 71 rfl) (ow hw 70 rfl) (ow hw 22 rfl) (ow hw 72 rfl) e585 (rmCH_21 l Z a0 hw [] a1 c0 c1 cs vf h0 n0 Z0 hS SC hcs SF hvf SA SH SL) (own_Exa2 hS) (W := 0) (g := (mkF m 101 #[rv a1, iv 0, iv c0] [(.int 1), (.ref a1)])) (argsL := [(.int 1)]) (rest := []) (lenOf pd_16 rfl) (hb hby d12_101)
    obtain ⟨T587, L587, X587, e587, N587, st587⟩ := own_pS X586 hx hZ hml hown N586 (ow hw 138 rfl) (ow hw 139 rfl) (ow hw 95 rfl) (ow hw 140 rfl) e586 (rm32 l Z a0 hw [] c1 h0 n0 Z0) (W := 0) (g := (mkF m 104 #[rv a1, iv 0, iv c0] [(.int c1)])) (argsL := [(.int c1)]) (rest := []) (lenOf pd_0 rfl) (hb hby d12_104)
    obtain ⟨T588, L588, X588, e588, N588, st588⟩ := own_pV X587 hx hZ hml hown N587 (ow hw 58 rfl) (ow hw 59 rfl) (notFace_of_selects (args := #[]) (mvT hZ (ow hw 61 rfl))) (ow hw 61 rfl) (ow hw 60 rfl) (ow hw 22 rfl) (ow hw 62 rfl) e587 (rmLN_2 l Z a0 hw [] a1 c0 c1 cs vf h0 n0 Z0 hS SC hcs SF hvf SA SH SL) (own_Exa2 hS) (W := 1) (g := (mkF m 21 #[rv a1, iv 2, iv c0] [(.ref a1), (.int 2)])) (argsL := []) (rest := [(.int 2)]) (lenOf pd_15 rfl) (hb hby d12_21)
    have pre589 := own_go pre575 (T588.setTop (mkF m 146 #[rv a1, iv 2, iv c0] [])) fun t kt => by
      refine XS.ifNo X574.here hx rfl (hb hby d12_84) rfl ((if0 _ _).trans (feq hc84_576).1) ?_
      refine XS.iloadN X574.here hx rfl (hb hby d12_87) rfl ?_
      refine XS.iconst X574.here hx rfl (hb hby d12_88) ?_
      refine XS.iadd X574.here hx rfl (hb hby d12_89) rfl ?_
      refine XS.aloadN X574.here hx rfl (hb hby d12_90) rfl rfl ?_
      refine st585 _ ?_
      refine XS.icmpNo X585.here hx rfl (hb hby d12_94) rfl (tlt (by decide : (1 : Int32) < (2 : Int32))).2.1 ?_
      refine XS.aloadN X585.here hx rfl (hb hby d12_97) rfl rfl ?_
      refine XS.iloadN X585.here hx rfl (hb hby d12_98) rfl ?_
      refine XS.iconst X585.here hx rfl (hb hby d12_99) ?_
      refine XS.iadd X585.here hx rfl (hb hby d12_100) rfl ?_
      refine st586 _ ?_
      refine st587 _ ?_
      refine XS.ifNo X587.here hx rfl (hb hby d12_107) rfl ((if0 _ _).trans (feq ((by rw [own_ls]; exact hk0.2.1 (by rw [← own_hs]; exact hc84_576)) : ¬ ((own_F32 c1) = (0 : Int32)))).1) ?_
      refine XS.iinc X587.here hx rfl (hb hby d12_110) rfl (l' := #[rv a1, iv 1, iv c0]) rfl ?_
      refine XS.goto X587.here hx rfl (pc0 := 113) (pc' := 140) rfl (hb hby d12_113) (by decide) (by decide) ?_
      refine XS.iinc X587.here hx rfl (hb hby d12_140) rfl (l' := #[rv a1, iv 2, iv c0]) rfl ?_
      refine XS.goto X587.here hx rfl (pc0 := 143) (pc' := 19) rfl (hb hby d12_143) (by decide) (by decide) ?_
      refine XS.iloadN X587.here hx rfl (hb hby d12_19) rfl ?_
      refine XS.aloadN X587.here hx rfl (hb hby d12_20) rfl rfl ?_
      refine st588 _ ?_
      refine XS.icmpYes X588.here hx rfl (pc0 := 24) (pc' := 146) rfl (hb hby d12_24) rfl (flt (by decide : ¬ ((2 : Int32) < (2 : Int32)))).2.1 (by decide) (by decide) ?_
      exact kt
    refine own_lv X588 Bd.notSynchronized (v := none) (fun _ => rfl) pre589 (fun fs hr => X588.returnOut hx Bd.returns (hb hby d12_146) hr) ?_
    show Q12_2 Z a1 c0 c1 cs vf h0 n0 _ T588.heap _
    rw [e588]
    exact ⟨rfl, N588, rfl⟩
def Q27_30 (Z : State) (a1 : Addr) (p3 : Int32) (kb : ClassId) (y0 : Int32) (y1 : Int32) (y2 : Int32) (y3 : Int32) (y4 : Int32) (y5 : Int32) (h0 : Heap) (n0 : Nat) (v : Option Value) (h : Heap) (L : List Loc) : Prop := v = none ∧ Fr n0 L ∧ Keep h0 h [a1] ∧ Arv Z h a1 kb .byte (6 : Int32) [(.int (own_lo p3)), (.int (own_hi p3)), (.int y2), (.int y3), (.int y4), (.int y5)] (.int (0 : Int32))
theorem rm27_30 (l : Launch) (Z : State) (a0 : Array Value) (hw : own_H a0 Z) (ws : List Jvm.Cond) (a1 : Addr) (p3 : Int32) (kb : ClassId) (y0 : Int32) (y1 : Int32) (y2 : Int32) (y3 : Int32) (y4 : Int32) (y5 : Int32) (h0 : Heap) (n0 : Nat) (Z0 : n0 ≤ h0.size) (P0 : Arv Z h0 a1 kb .byte (6 : Int32) [(.int y0), (.int y1), (.int y2), (.int y3), (.int y4), (.int y5)] (.int (0 : Int32))) (P1 : Old Z n0 h0) (R2 : Sta Z Z.heap "java/lang/StringUTF16" "$assertionsDisabled" "Z" (.int 1)) (R3 : Sta Z Z.heap "java/lang/StringUTF16" "HI_BYTE_SHIFT" "I" (.int 0)) (R4 : Sta Z Z.heap "java/lang/StringUTF16" "LO_BYTE_SHIFT" "I" (.int 8)) (g_a1 : n0 ≤ a1) :
    own_M l Z (⟨"java/lang/StringUTF16", "putChar", "([BII)V"⟩ : MethodName) jdk_52_method_4_code 3 none ws ({ frames := 0, cells := 0, slots := 0, locals := 0 } : Room) #[(.ref a1), (.int 0), (.int p3)] h0 (Q27_30 Z a1 p3 kb y0 y1 y2 y3 y4 y5 h0 n0) := by
  refine own_bd (n0 := n0) (plainFor_of_name pn_27) fun p e s m below meth c s₁ Bd hZ hx hby hml hown X0 e0 N0 => ?_
  have pre0 := own_p0 (tb := p.tables) (e := e) (below := below) (s := s₁) (ef_27_10 m a1 p3)
  obtain ⟨T590, X590, e590, st590⟩ := getS2 X0 hx hZ hown (host := "") (Or.inl (ow hw 119 rfl)) Via.refl e0 (R2.ext P1.2) (g := (mkF m 0 #[rv a1, iv 0, iv p3] [])) rfl (hb hby d27_0)
  obtain ⟨T591, X591, e591, st591⟩ := getS2 X590 hx hZ hown (host := "") (Or.inl (ow hw 120 rfl)) Via.refl e590 (R3.ext P1.2) (g := (mkF m 38 #[rv a1, iv 1, iv p3] [(.int p3), (.int 0), (.ref a1)])) rfl (hb hby d27_38)
  obtain ⟨cl592, Ar592, q592, S592, N592z, H592, G592⟩ := id P0
  obtain ⟨T592, h592, X592, e592, W592, st592⟩ := stB X591 hx hZ e591 Ar592 (j := (0 : Int32)) (inb_of S592 ⟨by decide, by decide⟩) (g := (mkF m 43 #[rv a1, iv 1, iv p3] [(.int ((p3 >>> ((0 : Int32) &&& 31)).toInt8.toInt32)), (.int 0), (.ref a1)])) rfl rfl (hb hby d27_43)
  have V592 : Arv Z h592 a1 kb .byte (6 : Int32) [(.int (nar .byte ((p3 >>> ((0 : Int32) &&& 31)).toInt8.toInt32))), (.int y1), (.int y2), (.int y3), (.int y4), (.int y5)] (.int (0 : Int32)) := Arv.set Ar592 q592 S592 N592z H592 G592 (fits_nar_byte _) W592 0 rfl (Nat.le_of_ble_eq_true rfl)
  have N592 := Fr.snoc X592 N0 g_a1
  have K592 : Keep h0 h592 [a1] := (Keep.refl h0 [a1]).wr W592 (Or.inl (by simp))
  have z593 : n0 ≤ h592.size := (Nat.le_trans Z0 (Keep.of_wr W592).1)
  obtain ⟨T594, X594, e594, st594⟩ := getS2 X592 hx hZ hown (host := "") (Or.inl (ow hw 121 rfl)) Via.refl e592 (R4.ext (P1.wr W592 g_a1).2) (g := (mkF m 47 #[rv a1, iv 1, iv p3] [(.int p3), (.int 1), (.ref a1)])) rfl (hb hby d27_47)
  obtain ⟨cl595, Ar595, q595, S595, N595z, H595, G595⟩ := id V592
  obtain ⟨T595, h595, X595, e595, W595, st595⟩ := stB X594 hx hZ e594 Ar595 (j := (1 : Int32)) (inb_of S595 ⟨by decide, by decide⟩) (g := (mkF m 52 #[rv a1, iv 1, iv p3] [(.int ((p3 >>> ((8 : Int32) &&& 31)).toInt8.toInt32)), (.int 1), (.ref a1)])) rfl rfl (hb hby d27_52)
  have V595 : Arv Z h595 a1 kb .byte (6 : Int32) [(.int (nar .byte ((p3 >>> ((0 : Int32) &&& 31)).toInt8.toInt32))), (.int (nar .byte ((p3 >>> ((8 : Int32) &&& 31)).toInt8.toInt32))), (.int y2), (.int y3), (.int y4), (.int y5)] (.int (0 : Int32)) := Arv.set Ar595 q595 S595 N595z H595 G595 (fits_nar_byte _) W595 1 rfl (Nat.le_of_ble_eq_true rfl)
  have N595 := Fr.snoc X595 N592 g_a1
  have K595 : Keep h0 h595 [a1] := K592.wr W595 (Or.inl (by simp))
  have f596 := ((P1.wr W592 g_a1).wr W595 g_a1)
  have z597 : n0 ≤ h595.size := (Nat.le_trans z593 (Keep.of_wr W595).1)
  have V598 : Arv Z h595 a1 kb .byte (6 : Int32) [(.int (own_lo p3)), (.int (own_hi p3)), (.int y2), (.int y3), (.int y4), (.int y5)] (.int (0 : Int32)) := V595
  have pre599 := own_go pre0 (T595.setTop (mkF m 53 #[rv a1, iv 1, iv p3] [])) fun t kt => by
    refine st590 _ ?_
    refine XS.ifYes X590.here hx rfl (pc0 := 3) (pc' := 28) rfl (hb hby d27_3) rfl ((if0 _ _).trans (feq (by decide : ¬ ((1 : Int32) = (0 : Int32)))).2) (by decide) (by decide) ?_
    refine XS.iloadN X590.here hx rfl (hb hby d27_28) rfl ?_
    refine XS.iconst X590.here hx rfl (hb hby d27_29) ?_
    refine XS.ishl X590.here hx rfl (hb hby d27_30) rfl ?_
    refine XS.istoreN X590.here hx rfl (hb hby d27_31) rfl (l' := #[rv a1, iv 0, iv p3]) rfl ?_
    refine XS.aloadN X590.here hx rfl (hb hby d27_32) rfl rfl ?_
    refine XS.iloadN X590.here hx rfl (hb hby d27_33) rfl ?_
    refine XS.iinc X590.here hx rfl (hb hby d27_34) rfl (l' := #[rv a1, iv 1, iv p3]) rfl ?_
    refine XS.iloadN X590.here hx rfl (hb hby d27_37) rfl ?_
    refine st591 _ ?_
    refine XS.ishr X591.here hx rfl (hb hby d27_41) rfl ?_
    refine XS.i2b X591.here hx rfl (hb hby d27_42) rfl ?_
    refine st592 _ ?_
    refine XS.aloadN X592.here hx rfl (hb hby d27_44) rfl rfl ?_
    refine XS.iloadN X592.here hx rfl (hb hby d27_45) rfl ?_
    refine XS.iloadN X592.here hx rfl (hb hby d27_46) rfl ?_
    refine st594 _ ?_
    refine XS.ishr X594.here hx rfl (hb hby d27_50) rfl ?_
    refine XS.i2b X594.here hx rfl (hb hby d27_51) rfl ?_
    refine st595 _ ?_
    exact kt
  refine own_lv X595 Bd.notSynchronized (v := none) (fun _ => rfl) pre599 (fun fs hr => X595.returnOut hx Bd.returns (hb hby d27_53) hr) ?_
  show Q27_30 Z a1 p3 kb y0 y1 y2 y3 y4 y5 h0 n0 _ T595.heap _
  rw [e595]
  exact ⟨rfl, N595, K595, V598⟩
def Q27_31 (Z : State) (a1 : Addr) (p3 : Int32) (kb : ClassId) (y0 : Int32) (y1 : Int32) (y2 : Int32) (y3 : Int32) (y4 : Int32) (y5 : Int32) (h0 : Heap) (n0 : Nat) (v : Option Value) (h : Heap) (L : List Loc) : Prop := v = none ∧ Fr n0 L ∧ Keep h0 h [a1] ∧ Arv Z h a1 kb .byte (6 : Int32) [(.int y0), (.int y1), (.int (own_lo p3)), (.int (own_hi p3)), (.int y4), (.int y5)] (.int (0 : Int32))
theorem rm27_31 (l : Launch) (Z : State) (a0 : Array Value) (hw : own_H a0 Z) (ws : List Jvm.Cond) (a1 : Addr) (p3 : Int32) (kb : ClassId) (y0 : Int32) (y1 : Int32) (y2 : Int32) (y3 : Int32) (y4 : Int32) (y5 : Int32) (h0 : Heap) (n0 : Nat) (Z0 : n0 ≤ h0.size) (P0 : Arv Z h0 a1 kb .byte (6 : Int32) [(.int y0), (.int y1), (.int y2), (.int y3), (.int y4), (.int y5)] (.int (0 : Int32))) (P1 : Old Z n0 h0) (R2 : Sta Z Z.heap "java/lang/StringUTF16" "$assertionsDisabled" "Z" (.int 1)) (R3 : Sta Z Z.heap "java/lang/StringUTF16" "HI_BYTE_SHIFT" "I" (.int 0)) (R4 : Sta Z Z.heap "java/lang/StringUTF16" "LO_BYTE_SHIFT" "I" (.int 8)) (g_a1 : n0 ≤ a1) :
    own_M l Z (⟨"java/lang/StringUTF16", "putChar", "([BII)V"⟩ : MethodName) jdk_52_method_4_code 3 none ws ({ frames := 0, cells := 0, slots := 0, locals := 0 } : Room) #[(.ref a1), (.int 1), (.int p3)] h0 (Q27_31 Z a1 p3 kb y0 y1 y2 y3 y4 y5 h0 n0) := by
  refine own_bd (n0 := n0) (plainFor_of_name pn_27) fun p e s m below meth c s₁ Bd hZ hx hby hml hown X0 e0 N0 => ?_
  have pre0 := own_p0 (tb := p.tables) (e := e) (below := below) (s := s₁) (ef_27_21 m a1 p3)
  obtain ⟨T600, X600, e600, st600⟩ := getS2 X0 hx hZ hown (host := "") (Or.inl (ow hw 119 rfl)) Via.refl e0 (R2.ext P1.2) (g := (mkF m 0 #[rv a1, iv 1, iv p3] [])) rfl (hb hby d27_0)
  obtain ⟨T601, X601, e601, st601⟩ := getS2 X600 hx hZ hown (host := "") (Or.inl (ow hw 120 rfl)) Via.refl e600 (R3.ext P1.2) (g := (mkF m 38 #[rv a1, iv 3, iv p3] [(.int p3), (.int 2), (.ref a1)])) rfl (hb hby d27_38)
  obtain ⟨cl602, Ar602, q602, S602, N602z, H602, G602⟩ := id P0
  obtain ⟨T602, h602, X602, e602, W602, st602⟩ := stB X601 hx hZ e601 Ar602 (j := (2 : Int32)) (inb_of S602 ⟨by decide, by decide⟩) (g := (mkF m 43 #[rv a1, iv 3, iv p3] [(.int ((p3 >>> ((0 : Int32) &&& 31)).toInt8.toInt32)), (.int 2), (.ref a1)])) rfl rfl (hb hby d27_43)
  have V602 : Arv Z h602 a1 kb .byte (6 : Int32) [(.int y0), (.int y1), (.int (nar .byte ((p3 >>> ((0 : Int32) &&& 31)).toInt8.toInt32))), (.int y3), (.int y4), (.int y5)] (.int (0 : Int32)) := Arv.set Ar602 q602 S602 N602z H602 G602 (fits_nar_byte _) W602 2 rfl (Nat.le_of_ble_eq_true rfl)
  have N602 := Fr.snoc X602 N0 g_a1
  have K602 : Keep h0 h602 [a1] := (Keep.refl h0 [a1]).wr W602 (Or.inl (by simp))
  have z603 : n0 ≤ h602.size := (Nat.le_trans Z0 (Keep.of_wr W602).1)
  obtain ⟨T604, X604, e604, st604⟩ := getS2 X602 hx hZ hown (host := "") (Or.inl (ow hw 121 rfl)) Via.refl e602 (R4.ext (P1.wr W602 g_a1).2) (g := (mkF m 47 #[rv a1, iv 3, iv p3] [(.int p3), (.int 3), (.ref a1)])) rfl (hb hby d27_47)
  obtain ⟨cl605, Ar605, q605, S605, N605z, H605, G605⟩ := id V602
  obtain ⟨T605, h605, X605, e605, W605, st605⟩ := stB X604 hx hZ e604 Ar605 (j := (3 : Int32)) (inb_of S605 ⟨by decide, by decide⟩) (g := (mkF m 52 #[rv a1, iv 3, iv p3] [(.int ((p3 >>> ((8 : Int32) &&& 31)).toInt8.toInt32)), (.int 3), (.ref a1)])) rfl rfl (hb hby d27_52)
  have V605 : Arv Z h605 a1 kb .byte (6 : Int32) [(.int y0), (.int y1), (.int (nar .byte ((p3 >>> ((0 : Int32) &&& 31)).toInt8.toInt32))), (.int (nar .byte ((p3 >>> ((8 : Int32) &&& 31)).toInt8.toInt32))), (.int y4), (.int y5)] (.int (0 : Int32)) := Arv.set Ar605 q605 S605 N605z H605 G605 (fits_nar_byte _) W605 3 rfl (Nat.le_of_ble_eq_true rfl)
  have N605 := Fr.snoc X605 N602 g_a1
  have K605 : Keep h0 h605 [a1] := K602.wr W605 (Or.inl (by simp))
  have f606 := ((P1.wr W602 g_a1).wr W605 g_a1)
  have z607 : n0 ≤ h605.size := (Nat.le_trans z603 (Keep.of_wr W605).1)
  have V608 : Arv Z h605 a1 kb .byte (6 : Int32) [(.int y0), (.int y1), (.int (own_lo p3)), (.int (own_hi p3)), (.int y4), (.int y5)] (.int (0 : Int32)) := V605
  have pre609 := own_go pre0 (T605.setTop (mkF m 53 #[rv a1, iv 3, iv p3] [])) fun t kt => by
    refine st600 _ ?_
    refine XS.ifYes X600.here hx rfl (pc0 := 3) (pc' := 28) rfl (hb hby d27_3) rfl ((if0 _ _).trans (feq (by decide : ¬ ((1 : Int32) = (0 : Int32)))).2) (by decide) (by decide) ?_
    refine XS.iloadN X600.here hx rfl (hb hby d27_28) rfl ?_
    refine XS.iconst X600.here hx rfl (hb hby d27_29) ?_
    refine XS.ishl X600.here hx rfl (hb hby d27_30) rfl ?_
    refine XS.istoreN X600.here hx rfl (hb hby d27_31) rfl (l' := #[rv a1, iv 2, iv p3]) rfl ?_
    refine XS.aloadN X600.here hx rfl (hb hby d27_32) rfl rfl ?_
    refine XS.iloadN X600.here hx rfl (hb hby d27_33) rfl ?_
    refine XS.iinc X600.here hx rfl (hb hby d27_34) rfl (l' := #[rv a1, iv 3, iv p3]) rfl ?_
    refine XS.iloadN X600.here hx rfl (hb hby d27_37) rfl ?_
    refine st601 _ ?_
    refine XS.ishr X601.here hx rfl (hb hby d27_41) rfl ?_
    refine XS.i2b X601.here hx rfl (hb hby d27_42) rfl ?_
    refine st602 _ ?_
    refine XS.aloadN X602.here hx rfl (hb hby d27_44) rfl rfl ?_
    refine XS.iloadN X602.here hx rfl (hb hby d27_45) rfl ?_
    refine XS.iloadN X602.here hx rfl (hb hby d27_46) rfl ?_
    refine st604 _ ?_
    refine XS.ishr X604.here hx rfl (hb hby d27_50) rfl ?_
    refine XS.i2b X604.here hx rfl (hb hby d27_51) rfl ?_
    refine st605 _ ?_
    exact kt
  refine own_lv X605 Bd.notSynchronized (v := none) (fun _ => rfl) pre609 (fun fs hr => X605.returnOut hx Bd.returns (hb hby d27_53) hr) ?_
  show Q27_31 Z a1 p3 kb y0 y1 y2 y3 y4 y5 h0 n0 _ T605.heap _
  rw [e605]
  exact ⟨rfl, N605, K605, V608⟩
theorem ef_27_32 (m : MethodId) (x0 : Addr) (x2 : Int32) : entryFrame m #[(.ref x0), (.int 2), (.int x2)] 3 = mkF m 0 #[.val (.ref x0), .val (.int 2), .val (.int x2)] [] := by first | (simp [entryFrame, mkF, argsToLocals, Value.category]; done) | rfl
def Q27_32 (Z : State) (a1 : Addr) (p3 : Int32) (kb : ClassId) (y0 : Int32) (y1 : Int32) (y2 : Int32) (y3 : Int32) (y4 : Int32) (y5 : Int32) (h0 : Heap) (n0 : Nat) (v : Option Value) (h : Heap) (L : List Loc) : Prop := v = none ∧ Fr n0 L ∧ Keep h0 h [a1] ∧ Arv Z h a1 kb .byte (6 : Int32) [(.int y0), (.int y1), (.int y2), (.int y3), (.int (own_lo p3)), (.int (own_hi p3))] (.int (0 : Int32))
theorem rm27_32 (l : Launch) (Z : State) (a0 : Array Value) (hw : own_H a0 Z) (ws : List Jvm.Cond) (a1 : Addr) (p3 : Int32) (kb : ClassId) (y0 : Int32) (y1 : Int32) (y2 : Int32) (y3 : Int32) (y4 : Int32) (y5 : Int32) (h0 : Heap) (n0 : Nat) (Z0 : n0 ≤ h0.size) (P0 : Arv Z h0 a1 kb .byte (6 : Int32) [(.int y0), (.int y1), (.int y2), (.int y3), (.int y4), (.int y5)] (.int (0 : Int32))) (P1 : Old Z n0 h0) (R2 : Sta Z Z.heap "java/lang/StringUTF16" "$assertionsDisabled" "Z" (.int 1)) (R3 : Sta Z Z.heap "java/lang/StringUTF16" "HI_BYTE_SHIFT" "I" (.int 0)) (R4 : Sta Z Z.heap "java/lang/StringUTF16" "LO_BYTE_SHIFT" "I" (.int 8)) (g_a1 : n0 ≤ a1) :
    own_M l Z (⟨"java/lang/StringUTF16", "putChar", "([BII)V"⟩ : MethodName) jdk_52_method_4_code 3 none ws ({ frames := 0, cells := 0, slots := 0, locals := 0 } : Room) #[(.ref a1), (.int 2), (.int p3)] h0 (Q27_32 Z a1 p3 kb y0 y1 y2 y3 y4 y5 h0 n0) := by
  refine own_bd (n0 := n0) (plainFor_of_name pn_27) fun p e s m below meth c s₁ Bd hZ hx hby hml hown X0 e0 N0 => ?_
  have pre0 := own_p0 (tb := p.tables) (e := e) (below := below) (s := s₁) (ef_27_32 m a1 p3)
  obtain ⟨T610, X610, e610, st610⟩ := getS2 X0 hx hZ hown (host := "") (Or.inl (ow hw 119 rfl)) Via.refl e0 (R2.ext P1.2) (g := (mkF m 0 #[rv a1, iv 2, iv p3] [])) rfl (hb hby d27_0)
  obtain ⟨T611, X611, e611, st611⟩ := getS2 X610 hx hZ hown (host := "") (Or.inl (ow hw 120 rfl)) Via.refl e610 (R3.ext P1.2) (g := (mkF m 38 #[rv a1, iv 5, iv p3] [(.int p3), (.int 4), (.ref a1)])) rfl (hb hby d27_38)
  obtain ⟨cl612, Ar612, q612, S612, N612z, H612, G612⟩ := id P0
  obtain ⟨T612, h612, X612, e612, W612, st612⟩ := stB X611 hx hZ e611 Ar612 (j := (4 : Int32)) (inb_of S612 ⟨by decide, by decide⟩) (g := (mkF m 43 #[rv a1, iv 5, iv p3] [(.int ((p3 >>> ((0 : Int32) &&& 31)).toInt8.toInt32)), (.int 4), (.ref a1)])) rfl rfl (hb hby d27_43)
  have V612 : Arv Z h612 a1 kb .byte (6 : Int32) [(.int y0), (.int y1), (.int y2), (.int y3), (.int (nar .byte ((p3 >>> ((0 : Int32) &&& 31)).toInt8.toInt32))), (.int y5)] (.int (0 : Int32)) := Arv.set Ar612 q612 S612 N612z H612 G612 (fits_nar_byte _) W612 4 rfl (Nat.le_of_ble_eq_true rfl)
  have N612 := Fr.snoc X612 N0 g_a1
  have K612 : Keep h0 h612 [a1] := (Keep.refl h0 [a1]).wr W612 (Or.inl (by simp))
  have z613 : n0 ≤ h612.size := (Nat.le_trans Z0 (Keep.of_wr W612).1)
  obtain ⟨T614, X614, e614, st614⟩ := getS2 X612 hx hZ hown (host := "") (Or.inl (ow hw 121 rfl)) Via.refl e612 (R4.ext (P1.wr W612 g_a1).2) (g := (mkF m 47 #[rv a1, iv 5, iv p3] [(.int p3), (.int 5), (.ref a1)])) rfl (hb hby d27_47)
  obtain ⟨cl615, Ar615, q615, S615, N615z, H615, G615⟩ := id V612
  obtain ⟨T615, h615, X615, e615, W615, st615⟩ := stB X614 hx hZ e614 Ar615 (j := (5 : Int32)) (inb_of S615 ⟨by decide, by decide⟩) (g := (mkF m 52 #[rv a1, iv 5, iv p3] [(.int ((p3 >>> ((8 : Int32) &&& 31)).toInt8.toInt32)), (.int 5), (.ref a1)])) rfl rfl (hb hby d27_52)
  have V615 : Arv Z h615 a1 kb .byte (6 : Int32) [(.int y0), (.int y1), (.int y2), (.int y3), (.int (nar .byte ((p3 >>> ((0 : Int32) &&& 31)).toInt8.toInt32))), (.int (nar .byte ((p3 >>> ((8 : Int32) &&& 31)).toInt8.toInt32)))] (.int (0 : Int32)) := Arv.set Ar615 q615 S615 N615z H615 G615 (fits_nar_byte _) W615 5 rfl (Nat.le_of_ble_eq_true rfl)
  have N615 := Fr.snoc X615 N612 g_a1
  have K615 : Keep h0 h615 [a1] := K612.wr W615 (Or.inl (by simp))
  have f616 := ((P1.wr W612 g_a1).wr W615 g_a1)
  have z617 : n0 ≤ h615.size := (Nat.le_trans z613 (Keep.of_wr W615).1)
  have V618 : Arv Z h615 a1 kb .byte (6 : Int32) [(.int y0), (.int y1), (.int y2), (.int y3), (.int (own_lo p3)), (.int (own_hi p3))] (.int (0 : Int32)) := V615
  have pre619 := own_go pre0 (T615.setTop (mkF m 53 #[rv a1, iv 5, iv p3] [])) fun t kt => by
    refine st610 _ ?_
    refine XS.ifYes X610.here hx rfl (pc0 := 3) (pc' := 28) rfl (hb hby d27_3) rfl ((if0 _ _).trans (feq (by decide : ¬ ((1 : Int32) = (0 : Int32)))).2) (by decide) (by decide) ?_
    refine XS.iloadN X610.here hx rfl (hb hby d27_28) rfl ?_
    refine XS.iconst X610.here hx rfl (hb hby d27_29) ?_
    refine XS.ishl X610.here hx rfl (hb hby d27_30) rfl ?_
    refine XS.istoreN X610.here hx rfl (hb hby d27_31) rfl (l' := #[rv a1, iv 4, iv p3]) rfl ?_
    refine XS.aloadN X610.here hx rfl (hb hby d27_32) rfl rfl ?_
    refine XS.iloadN X610.here hx rfl (hb hby d27_33) rfl ?_
    refine XS.iinc X610.here hx rfl (hb hby d27_34) rfl (l' := #[rv a1, iv 5, iv p3]) rfl ?_
    refine XS.iloadN X610.here hx rfl (hb hby d27_37) rfl ?_
    refine st611 _ ?_
    refine XS.ishr X611.here hx rfl (hb hby d27_41) rfl ?_
    refine XS.i2b X611.here hx rfl (hb hby d27_42) rfl ?_
    refine st612 _ ?_
    refine XS.aloadN X612.here hx rfl (hb hby d27_44) rfl rfl ?_
    refine XS.iloadN X612.here hx rfl (hb hby d27_45) rfl ?_
    refine XS.iloadN X612.here hx rfl (hb hby d27_46) rfl ?_
    refine st614 _ ?_
    refine XS.ishr X614.here hx rfl (hb hby d27_50) rfl ?_
    refine XS.i2b X614.here hx rfl (hb hby d27_51) rfl ?_
    refine st615 _ ?_
    exact kt
  refine own_lv X615 Bd.notSynchronized (v := none) (fun _ => rfl) pre619 (fun fs hr => X615.returnOut hx Bd.returns (hb hby d27_53) hr) ?_
  show Q27_32 Z a1 p3 kb y0 y1 y2 y3 y4 y5 h0 n0 _ T615.heap _
  rw [e615]
  exact ⟨rfl, N615, K615, V618⟩
theorem ef_26_3 (m : MethodId)  : entryFrame m #[(.int 3)] 1 = mkF m 0 #[.val (.int 3)] [] := by first | (simp [entryFrame, mkF, argsToLocals, Value.category]; done) | rfl
def Q26_3 (Z : State)  (h0 : Heap) (n0 : Nat) (v : Option Value) (h : Heap) (L : List Loc) : Prop := v = some (.int 6) ∧ Fr n0 L ∧ h = h0
theorem rm26_3 (l : Launch) (Z : State) (a0 : Array Value) (hw : own_H a0 Z) (ws : List Jvm.Cond)  (h0 : Heap) (n0 : Nat) (Z0 : n0 ≤ h0.size) :
    own_M l Z (⟨"java/lang/StringUTF16", "newBytesLength", "(I)I"⟩ : MethodName) jdk_52_method_3_code 1 (some .int) ws ({ frames := 0, cells := 0, slots := 0, locals := 0 } : Room) #[(.int 3)] h0 (Q26_3 Z  h0 n0) := by
  refine own_bd (n0 := n0) (plainFor_of_name pn_26) fun p e s m below meth c s₁ Bd hZ hx hby hml hown X0 e0 N0 => ?_
  have pre0 := own_p0 (tb := p.tables) (e := e) (below := below) (s := s₁) (ef_26_3 m )
  have pre620 := own_go pre0 (s₁.setTop (mkF m 58 #[iv 3] [(.int 6)])) fun t kt => by
    refine XS.iloadN X0.here hx rfl (hb hby d26_0) rfl ?_
    refine XS.ifYes X0.here hx rfl (pc0 := 1) (pc' := 12) rfl (hb hby d26_1) rfl ((if0 _ _).trans (flt (by decide : ¬ ((3 : Int32) < (0 : Int32)))).2.1) (by decide) (by decide) ?_
    refine XS.iloadN X0.here hx rfl (hb hby d26_12) rfl ?_
    refine X0.ldcInt hx hown (mvT hZ (ow hw 115 rfl)) (g := (mkF m 13 #[iv 3] [(.int 3)])) rfl (hb hby d26_13) _ ?_
    refine XS.icmpYes X0.here hx rfl (pc0 := 15) (pc' := 55) rfl (hb hby d26_15) rfl (tlt (by decide : (3 : Int32) < (1073741823 : Int32))).1 (by decide) (by decide) ?_
    refine XS.iloadN X0.here hx rfl (hb hby d26_55) rfl ?_
    refine XS.iconst X0.here hx rfl (hb hby d26_56) ?_
    refine XS.ishl X0.here hx rfl (hb hby d26_57) rfl ?_
    exact kt
  refine own_lv X0 Bd.notSynchronized (v := some (.int 6)) (own_nv Bd.returns) pre620 (fun fs hr => retI X0 hx Bd.returns (hb hby d26_58) hr) ?_
  show Q26_3 Z  h0 n0 _ s₁.heap _
  rw [e0]
  exact ⟨rfl, N0, rfl⟩
theorem ef_25_3 (m : MethodId)  : entryFrame m #[(.int 3)] 1 = mkF m 0 #[.val (.int 3)] [] := by first | (simp [entryFrame, mkF, argsToLocals, Value.category]; done) | rfl
def Q25_3 (Z : State)  (h0 : Heap) (n0 : Nat) (v : Option Value) (h : Heap) (L : List Loc) : Prop := ∃ (x1 : Addr) (kx1 : ClassId), v = some (.ref x1) ∧ Fr n0 L ∧ Keep h0 h [] ∧ n0 ≤ x1 ∧ h0.size ≤ x1 ∧ Arv Z h x1 kx1 .byte (6 : Int32) [(.int 0), (.int 0), (.int 0), (.int 0), (.int 0), (.int 0)] (.int (0 : Int32))
theorem rm25_3 (l : Launch) (Z : State) (a0 : Array Value) (hw : own_H a0 Z) (ws : List Jvm.Cond)  (h0 : Heap) (n0 : Nat) (Z0 : n0 ≤ h0.size) :
    own_M l Z (⟨"java/lang/StringUTF16", "newBytesFor", "(I)[B"⟩ : MethodName) jdk_52_method_2_code 1 (some (.array .byte)) ws ({ frames := 1, cells := 1, slots := 6, locals := 12 } : Room) #[(.int 3)] h0 (Q25_3 Z  h0 n0) := by
  refine own_bd (n0 := n0) (plainFor_of_name pn_25) fun p e s m below meth c s₁ Bd hZ hx hby hml hown X0 e0 N0 => ?_
  have pre0 := own_p0 (tb := p.tables) (e := e) (below := below) (s := s₁) (ef_25_3 m )
  obtain ⟨T621, L621, X621, e621, N621, st621⟩ := own_pS X0 hx hZ hml hown N0 (ow hw 112 rfl) (ow hw 113 rfl) (ow hw 36 rfl) (ow hw 114 rfl) e0 (rm26_3 l Z a0 hw []  h0 n0 Z0) (W := 0) (g := (mkF m 1 #[iv 3] [(.int 3)])) (argsL := [(.int 3)]) (rest := []) (lenOf pd_8 rfl) (hb hby d25_1)
  obtain ⟨T622, h622, k622, X622, e622, E622, A622, st622⟩ := newP X621 hx hZ (ow hw 38 rfl) e621 (g := (mkF m 4 #[iv 3] [(.int 6)])) rfl (hb hby d25_4) rfl (by decide) (cap := 6) (by decide) (by decide) (by decide) (by decide)
  obtain ⟨b622, g622⟩ : ∃ z, z = h0.size := ⟨_, rfl⟩
  rw [← g622] at A622 st622
  have g_b622 : n0 ≤ b622 := Nat.le_trans Z0 (Nat.le_of_eq g622.symm)
  have sz_b622 : h0.size ≤ b622 := Nat.le_trans (Keep.refl h0 []).1 (Nat.le_of_eq g622.symm)
  have K622 : Keep h0 h622 [] := (Keep.refl h0 []).ext E622
  have V622 : Arv Z h622 b622 k622 .byte (6 : Int32) [(.int 0), (.int 0), (.int 0), (.int 0), (.int 0), (.int 0)] (.int (0 : Int32)) := (Arv.new A622 (by decide)).pad (pad_rep [] (.int (0 : Int32)) 6)
  have pre623 := own_go pre0 (T622.setTop (mkF m 6 #[iv 3] [(.ref b622)])) fun t kt => by
    refine XS.iloadN X0.here hx rfl (hb hby d25_0) rfl ?_
    refine st621 _ ?_
    refine st622 _ ?_
    exact kt
  refine own_lv X622 Bd.notSynchronized (v := some (.ref b622)) (own_nv Bd.returns) pre623 (fun fs hr => retOut X622 hx Bd.returns (own_nref _ rfl) (Or.inr (Or.inr (Or.inr (Or.inr ⟨rfl, rfl, rfl⟩)))) (hb hby d25_6) hr) ?_
  show Q25_3 Z  h0 n0 _ T622.heap _
  rw [e622]
  exact ⟨b622, k622, rfl, N621, K622, g_b622, sz_b622, V622⟩
theorem ef_24_3 (m : MethodId) (x0 : Addr) : entryFrame m #[(.ref x0), (.int 0), (.int 3)] 5 = mkF m 0 #[.val (.ref x0), .val (.int 0), .val (.int 3), .unset, .unset] [] := by first | (simp [entryFrame, mkF, argsToLocals, Value.category]; done) | rfl
def Q24_3 (Z : State) (a1 : Addr) (kc : ClassId) (c0 : Int32) (c1 : Int32) (c2 : Int32) (h0 : Heap) (n0 : Nat) (v : Option Value) (h : Heap) (L : List Loc) : Prop := ∃ (x1 : Addr) (kx1 : ClassId), v = some (.ref x1) ∧ Fr n0 L ∧ Keep h0 h [] ∧ n0 ≤ x1 ∧ h0.size ≤ x1 ∧ Arv Z h x1 kx1 .byte (6 : Int32) [(.int (own_lo c0)), (.int (own_hi c0)), (.int (own_lo c1)), (.int (own_hi c1)), (.int (own_lo c2)), (.int (own_hi c2))] (.int (0 : Int32))
theorem rm24_3 (l : Launch) (Z : State) (a0 : Array Value) (hw : own_H a0 Z) (ws : List Jvm.Cond) (a1 : Addr) (kc : ClassId) (c0 : Int32) (c1 : Int32) (c2 : Int32) (h0 : Heap) (n0 : Nat) (Z0 : n0 ≤ h0.size) (P0 : Arv Z h0 a1 kc .char (3 : Int32) [(.int c0), (.int c1), (.int c2)] (.int (0 : Int32))) (P1 : Old Z n0 h0) (R2 : Sta Z Z.heap "java/lang/StringUTF16" "$assertionsDisabled" "Z" (.int 1)) (R3 : Sta Z Z.heap "java/lang/StringUTF16" "HI_BYTE_SHIFT" "I" (.int 0)) (R4 : Sta Z Z.heap "java/lang/StringUTF16" "LO_BYTE_SHIFT" "I" (.int 8)) :
    own_M l Z (⟨"java/lang/StringUTF16", "toBytes", "([CII)[B"⟩ : MethodName) jdk_52_method_14_code 5 (some (.array .byte)) ws ({ frames := 2, cells := 1, slots := 6, locals := 24 } : Room) #[(.ref a1), (.int 0), (.int 3)] h0 (Q24_3 Z a1 kc c0 c1 c2 h0 n0) := by
  refine own_bd (n0 := n0) (plainFor_of_name pn_24) fun p e s m below meth c s₁ Bd hZ hx hby hml hown X0 e0 N0 => ?_
  have pre0 := own_p0 (tb := p.tables) (e := e) (below := below) (s := s₁) (ef_24_3 m a1)
  obtain ⟨_, T624, L624, X624, hQ624, st624⟩ := own_cS X0 hx hZ hml hown (ow hw 109 rfl) (ow hw 110 rfl) (ow hw 36 rfl) (ow hw 111 rfl) e0 (rm25_3 l Z a0 hw []  h0 n0 Z0) (W := 0) (g := (mkF m 1 #[rv a1, iv 0, iv 3, .unset, .unset] [(.int 3)])) (argsL := [(.int 3)]) (rest := []) (lenOf pd_9 rfl) (hb hby d24_1)
  obtain ⟨b624_0, kk624_0, rfl, N624q, K624q, ga624_0, gz624_0, q624_0⟩ := hQ624
  have N624 := Fr.app N0 N624q
  have ne625 : a1 ≠ b624_0 := Nat.ne_of_lt (Nat.lt_of_lt_of_le P0.lt gz624_0)
  have g_b624_0 : n0 ≤ b624_0 := ga624_0
  have sz_b624_0 : h0.size ≤ b624_0 := Nat.le_trans (Keep.refl h0 []).1 gz624_0
  have K624 : Keep h0 T624.heap [] := (Keep.refl h0 []).trans K624q all0
  have z626 : n0 ≤ T624.heap.size := (Nat.le_trans Z0 (own_ke K624q).1)
  obtain ⟨cl627, Ar627, -, Sz627, Nz627, Hs627, -⟩ := id (P0.ext (own_ke K624q))
  have in627 : ¬ ((0 : Int32) < 0 ∨ cl627.slots.size ≤ ((0 : Int32)).toNatClampNeg) := inb_of Sz627 ⟨by decide, by decide⟩
  have at627 : cl627.slots[((0 : Int32)).toNatClampNeg]? = some (.int c0) := Has.at Hs627 in627 rfl
  obtain ⟨_, T628, L628, X628, hQ628, st628⟩ := own_cS X624 hx hZ hml hown (ow hw 116 rfl) (ow hw 117 rfl) (ow hw 36 rfl) (ow hw 118 rfl) rfl (rm27_30 l Z a0 hw [] b624_0 c0 kk624_0 (0 : Int32) (0 : Int32) (0 : Int32) (0 : Int32) (0 : Int32) (0 : Int32) T624.heap n0 z626 q624_0 (P1.ext (own_ke K624q)) R2 R3 R4 g_b624_0) (W := 0) (g := (mkF m 20 #[rv a1, iv 0, iv 3, rv b624_0, iv 0] [(.int c0), (.int 0), (.ref b624_0)])) (argsL := [(.ref b624_0), (.int 0), (.int c0)]) (rest := []) (lenOf pd_10 rfl) (hb hby d24_20)
  obtain ⟨rfl, N628q, K628q, q628_0⟩ := hQ628
  have N628 := Fr.app N624 N628q
  have K628 : Keep h0 T628.heap [] := K624.trans K628q (allS (Or.inr sz_b624_0) all0)
  have f629 := ((P0.ext (own_ke K624q)).keep K628q (ninS ne625 nin0))
  have f630 := ((P1.ext (own_ke K624q)).keep K628q (allS g_b624_0 all0))
  obtain ⟨cl631, Ar631, -, Sz631, Nz631, Hs631, -⟩ := id f629
  have in631 : ¬ ((1 : Int32) < 0 ∨ cl631.slots.size ≤ ((1 : Int32)).toNatClampNeg) := inb_of Sz631 ⟨by decide, by decide⟩
  have at631 : cl631.slots[((1 : Int32)).toNatClampNeg]? = some (.int c1) := Has.at Hs631 in631 rfl
  obtain ⟨_, T632, L632, X632, hQ632, st632⟩ := own_cS X628 hx hZ hml hown (ow hw 116 rfl) (ow hw 117 rfl) (ow hw 36 rfl) (ow hw 118 rfl) rfl (rm27_31 l Z a0 hw [] b624_0 c1 kk624_0 (own_lo c0) (own_hi c0) (0 : Int32) (0 : Int32) (0 : Int32) (0 : Int32) T628.heap n0 (Nat.le_trans z626 K628q.1) q628_0 f630 R2 R3 R4 g_b624_0) (W := 0) (g := (mkF m 20 #[rv a1, iv 1, iv 3, rv b624_0, iv 1] [(.int c1), (.int 1), (.ref b624_0)])) (argsL := [(.ref b624_0), (.int 1), (.int c1)]) (rest := []) (lenOf pd_10 rfl) (hb hby d24_20)
  obtain ⟨rfl, N632q, K632q, q632_0⟩ := hQ632
  have N632 := Fr.app N628 N632q
  have K632 : Keep h0 T632.heap [] := K628.trans K632q (allS (Or.inr sz_b624_0) all0)
  have f633 := (f629.keep K632q (ninS ne625 nin0))
  have f634 := (f630.keep K632q (allS g_b624_0 all0))
  have z635 : n0 ≤ T632.heap.size := (Nat.le_trans (Nat.le_trans z626 K628q.1) K632q.1)
  obtain ⟨cl636, Ar636, -, Sz636, Nz636, Hs636, -⟩ := id f633
  have in636 : ¬ ((2 : Int32) < 0 ∨ cl636.slots.size ≤ ((2 : Int32)).toNatClampNeg) := inb_of Sz636 ⟨by decide, by decide⟩
  have at636 : cl636.slots[((2 : Int32)).toNatClampNeg]? = some (.int c2) := Has.at Hs636 in636 rfl
  obtain ⟨_, T637, L637, X637, hQ637, st637⟩ := own_cS X632 hx hZ hml hown (ow hw 116 rfl) (ow hw 117 rfl) (ow hw 36 rfl) (ow hw 118 rfl) rfl (rm27_32 l Z a0 hw [] b624_0 c2 kk624_0 (own_lo c0) (own_hi c0) (own_lo c1) (own_hi c1) (0 : Int32) (0 : Int32) T632.heap n0 z635 q632_0 f634 R2 R3 R4 g_b624_0) (W := 0) (g := (mkF m 20 #[rv a1, iv 2, iv 3, rv b624_0, iv 2] [(.int c2), (.int 2), (.ref b624_0)])) (argsL := [(.ref b624_0), (.int 2), (.int c2)]) (rest := []) (lenOf pd_10 rfl) (hb hby d24_20)
  obtain ⟨rfl, N637q, K637q, q637_0⟩ := hQ637
  have N637 := Fr.app N632 N637q
  have K637 : Keep h0 T637.heap [] := K632.trans K637q (allS (Or.inr sz_b624_0) all0)
  have f638 := (f633.keep K637q (ninS ne625 nin0))
  have f639 := (f634.keep K637q (allS g_b624_0 all0))
  have pre640 := own_go pre0 (T637.setTop (mkF m 33 #[rv a1, iv 3, iv 3, rv b624_0, iv 3] [(.ref b624_0)])) fun t kt => by
    refine XS.iloadN X0.here hx rfl (hb hby d24_0) rfl ?_
    refine st624 _ ?_
    refine XS.astoreN X624.here hx rfl (hb hby d24_4) rfl rfl (l' := #[rv a1, iv 0, iv 3, rv b624_0, .unset]) rfl ?_
    refine XS.iconst X624.here hx rfl (hb hby d24_5) ?_
    refine XS.istore X624.here hx rfl (hb hby d24_6) rfl (l' := #[rv a1, iv 0, iv 3, rv b624_0, iv 0]) rfl ?_
    refine XS.iload X624.here hx rfl (hb hby d24_8) rfl ?_
    refine XS.iloadN X624.here hx rfl (hb hby d24_10) rfl ?_
    refine XS.icmpNo X624.here hx rfl (hb hby d24_11) rfl (tlt (by decide : (0 : Int32) < (3 : Int32))).2.1 ?_
    refine XS.aloadN X624.here hx rfl (hb hby d24_14) rfl rfl ?_
    refine XS.iload X624.here hx rfl (hb hby d24_15) rfl ?_
    refine XS.aloadN X624.here hx rfl (hb hby d24_17) rfl rfl ?_
    refine XS.iloadN X624.here hx rfl (hb hby d24_18) rfl ?_
    refine X624.caload hx (j := (0 : Int32)) (v := (.int c0)) (by exact Ar627.1) (State.isArrayOf_alike hZ.alike Ar627.2.1) Ar627.2.2 in627 at627 (g := (mkF m 19 #[rv a1, iv 0, iv 3, rv b624_0, iv 0] [(.int 0), (.ref a1), (.int 0), (.ref b624_0)])) rfl rfl (hb hby d24_19) _ ?_
    refine st628 _ ?_
    refine XS.iinc X628.here hx rfl (hb hby d24_23) rfl (l' := #[rv a1, iv 1, iv 3, rv b624_0, iv 0]) rfl ?_
    refine XS.iinc X628.here hx rfl (hb hby d24_26) rfl (l' := #[rv a1, iv 1, iv 3, rv b624_0, iv 1]) rfl ?_
    refine XS.goto X628.here hx rfl (pc0 := 29) (pc' := 8) rfl (hb hby d24_29) (by decide) (by decide) ?_
    refine XS.iload X628.here hx rfl (hb hby d24_8) rfl ?_
    refine XS.iloadN X628.here hx rfl (hb hby d24_10) rfl ?_
    refine XS.icmpNo X628.here hx rfl (hb hby d24_11) rfl (tlt (by decide : (1 : Int32) < (3 : Int32))).2.1 ?_
    refine XS.aloadN X628.here hx rfl (hb hby d24_14) rfl rfl ?_
    refine XS.iload X628.here hx rfl (hb hby d24_15) rfl ?_
    refine XS.aloadN X628.here hx rfl (hb hby d24_17) rfl rfl ?_
    refine XS.iloadN X628.here hx rfl (hb hby d24_18) rfl ?_
    refine X628.caload hx (j := (1 : Int32)) (v := (.int c1)) (by exact Ar631.1) (State.isArrayOf_alike hZ.alike Ar631.2.1) Ar631.2.2 in631 at631 (g := (mkF m 19 #[rv a1, iv 1, iv 3, rv b624_0, iv 1] [(.int 1), (.ref a1), (.int 1), (.ref b624_0)])) rfl rfl (hb hby d24_19) _ ?_
    refine st632 _ ?_
    refine XS.iinc X632.here hx rfl (hb hby d24_23) rfl (l' := #[rv a1, iv 2, iv 3, rv b624_0, iv 1]) rfl ?_
    refine XS.iinc X632.here hx rfl (hb hby d24_26) rfl (l' := #[rv a1, iv 2, iv 3, rv b624_0, iv 2]) rfl ?_
    refine XS.goto X632.here hx rfl (pc0 := 29) (pc' := 8) rfl (hb hby d24_29) (by decide) (by decide) ?_
    refine XS.iload X632.here hx rfl (hb hby d24_8) rfl ?_
    refine XS.iloadN X632.here hx rfl (hb hby d24_10) rfl ?_
    refine XS.icmpNo X632.here hx rfl (hb hby d24_11) rfl (tlt (by decide : (2 : Int32) < (3 : Int32))).2.1 ?_
    refine XS.aloadN X632.here hx rfl (hb hby d24_14) rfl rfl ?_
    refine XS.iload X632.here hx rfl (hb hby d24_15) rfl ?_
    refine XS.aloadN X632.here hx rfl (hb hby d24_17) rfl rfl ?_
    refine XS.iloadN X632.here hx rfl (hb hby d24_18) rfl ?_
    refine X632.caload hx (j := (2 : Int32)) (v := (.int c2)) (by exact Ar636.1) (State.isArrayOf_alike hZ.alike Ar636.2.1) Ar636.2.2 in636 at636 (g := (mkF m 19 #[rv a1, iv 2, iv 3, rv b624_0, iv 2] [(.int 2), (.ref a1), (.int 2), (.ref b624_0)])) rfl rfl (hb hby d24_19) _ ?_
    refine st637 _ ?_
    refine XS.iinc X637.here hx rfl (hb hby d24_23) rfl (l' := #[rv a1, iv 3, iv 3, rv b624_0, iv 2]) rfl ?_
    refine XS.iinc X637.here hx rfl (hb hby d24_26) rfl (l' := #[rv a1, iv 3, iv 3, rv b624_0, iv 3]) rfl ?_
    refine XS.goto X637.here hx rfl (pc0 := 29) (pc' := 8) rfl (hb hby d24_29) (by decide) (by decide) ?_
    refine XS.iload X637.here hx rfl (hb hby d24_8) rfl ?_
    refine XS.iloadN X637.here hx rfl (hb hby d24_10) rfl ?_
    refine XS.icmpYes X637.here hx rfl (pc0 := 11) (pc' := 32) rfl (hb hby d24_11) rfl (flt (by decide : ¬ ((3 : Int32) < (3 : Int32)))).2.1 (by decide) (by decide) ?_
    refine XS.aloadN X637.here hx rfl (hb hby d24_32) rfl rfl ?_
    exact kt
  refine own_lv X637 Bd.notSynchronized (v := some (.ref b624_0)) (own_nv Bd.returns) pre640 (fun fs hr => retOut X637 hx Bd.returns (own_nref _ rfl) (Or.inr (Or.inr (Or.inr (Or.inr ⟨rfl, rfl, rfl⟩)))) (hb hby d24_33) hr) ?_
  show Q24_3 Z a1 kc c0 c1 c2 h0 n0 _ T637.heap _
  exact ⟨b624_0, kk624_0, rfl, N637, K637, g_b624_0, sz_b624_0, q637_0⟩
theorem ef_10_3L (m : MethodId) (x0 : Addr) (x2 : Addr) : entryFrame m #[(.ref x0), (.int 0), (.ref x2), (.int 0), (.int 3)] 7 = mkF m 0 #[.val (.ref x0), .val (.int 0), .val (.ref x2), .val (.int 0), .val (.int 3), .unset, .unset] [] := by first | (simp [entryFrame, mkF, argsToLocals, Value.category]; done) | rfl
def Q10_3L (Z : State) (a1 : Addr) (a3 : Addr) (kc : ClassId) (kb : ClassId) (c0 : Int32) (c1 : Int32) (c2 : Int32) (h0 : Heap) (n0 : Nat) (v : Option Value) (h : Heap) (L : List Loc) : Prop := v = some (.int 3) ∧ Fr n0 L ∧ Keep h0 h [a3] ∧ Arv Z h a3 kb .byte (3 : Int32) [(.int (own_by c0)), (.int (own_by c1)), (.int (own_by c2))] (.int (0 : Int32))
theorem rm10_3L (l : Launch) (Z : State) (a0 : Array Value) (hw : own_H a0 Z) (ws : List Jvm.Cond) (a1 : Addr) (a3 : Addr) (kc : ClassId) (kb : ClassId) (c0 : Int32) (c1 : Int32) (c2 : Int32) (h0 : Heap) (n0 : Nat) (Z0 : n0 ≤ h0.size) (P0 : Arv Z h0 a1 kc .char (3 : Int32) [(.int c0), (.int c1), (.int c2)] (.int (0 : Int32))) (P1 : Arv Z h0 a3 kb .byte (3 : Int32) [(.int 0), (.int 0), (.int 0)] (.int (0 : Int32))) (ne_a1_a3 : a1 ≠ a3) (g_a3 : n0 ≤ a3) (u0 : ¬ (255 : Int32) < c0) (u1 : ¬ (255 : Int32) < c1) (u2 : ¬ (255 : Int32) < c2) :
    own_M l Z (⟨"java/lang/StringUTF16", "compress", "([CI[BII)I"⟩ : MethodName) jdk_52_method_21_code 7 (some .int) ws ({ frames := 0, cells := 0, slots := 0, locals := 0 } : Room) #[(.ref a1), (.int 0), (.ref a3), (.int 0), (.int 3)] h0 (Q10_3L Z a1 a3 kc kb c0 c1 c2 h0 n0) := by
  refine own_bd (n0 := n0) (plainFor_of_name pn_10) fun p e s m below meth c s₁ Bd hZ hx hby hml hown X0 e0 N0 => ?_
  have pre0 := own_p0 (tb := p.tables) (e := e) (below := below) (s := s₁) (ef_10_3L m a1 a3)
  obtain ⟨cl641, Ar641, -, Sz641, Nz641, Hs641, -⟩ := id P0
  have in641 : ¬ ((0 : Int32) < 0 ∨ cl641.slots.size ≤ ((0 : Int32)).toNatClampNeg) := inb_of Sz641 ⟨by decide, by decide⟩
  have at641 : cl641.slots[((0 : Int32)).toNatClampNeg]? = some (.int c0) := Has.at Hs641 in641 rfl
  obtain ⟨cl642, Ar642, q642, S642, N642z, H642, G642⟩ := id P1
  obtain ⟨T642, h642, X642, e642, W642, st642⟩ := stB X0 hx hZ e0 Ar642 (j := (0 : Int32)) (inb_of S642 ⟨by decide, by decide⟩) (g := (mkF m 31 #[rv a1, iv 0, rv a3, iv 0, iv 3, iv 0, iv c0] [(.int (c0.toInt8.toInt32)), (.int 0), (.ref a3)])) rfl rfl (hb hby d10_31)
  have V642 : Arv Z h642 a3 kb .byte (3 : Int32) [(.int (nar .byte (c0.toInt8.toInt32))), (.int 0), (.int 0)] (.int (0 : Int32)) := Arv.set Ar642 q642 S642 N642z H642 G642 (fits_nar_byte _) W642 0 rfl (Nat.le_of_ble_eq_true rfl)
  have N642 := Fr.snoc X642 N0 g_a3
  have K642 : Keep h0 h642 [a3] := (Keep.refl h0 [a3]).wr W642 (Or.inl (by simp))
  have z643 : n0 ≤ h642.size := (Nat.le_trans Z0 (Keep.of_wr W642).1)
  obtain ⟨cl644, Ar644, -, Sz644, Nz644, Hs644, -⟩ := id (P0.other W642 ne_a1_a3)
  have in644 : ¬ ((1 : Int32) < 0 ∨ cl644.slots.size ≤ ((1 : Int32)).toNatClampNeg) := inb_of Sz644 ⟨by decide, by decide⟩
  have at644 : cl644.slots[((1 : Int32)).toNatClampNeg]? = some (.int c1) := Has.at Hs644 in644 rfl
  obtain ⟨cl645, Ar645, q645, S645, N645z, H645, G645⟩ := id V642
  obtain ⟨T645, h645, X645, e645, W645, st645⟩ := stB X642 hx hZ e642 Ar645 (j := (1 : Int32)) (inb_of S645 ⟨by decide, by decide⟩) (g := (mkF m 31 #[rv a1, iv 1, rv a3, iv 1, iv 3, iv 1, iv c1] [(.int (c1.toInt8.toInt32)), (.int 1), (.ref a3)])) rfl rfl (hb hby d10_31)
  have V645 : Arv Z h645 a3 kb .byte (3 : Int32) [(.int (nar .byte (c0.toInt8.toInt32))), (.int (nar .byte (c1.toInt8.toInt32))), (.int 0)] (.int (0 : Int32)) := Arv.set Ar645 q645 S645 N645z H645 G645 (fits_nar_byte _) W645 1 rfl (Nat.le_of_ble_eq_true rfl)
  have N645 := Fr.snoc X645 N642 g_a3
  have K645 : Keep h0 h645 [a3] := K642.wr W645 (Or.inl (by simp))
  have f646 := ((P0.other W642 ne_a1_a3).other W645 ne_a1_a3)
  have z647 : n0 ≤ h645.size := (Nat.le_trans z643 (Keep.of_wr W645).1)
  obtain ⟨cl648, Ar648, -, Sz648, Nz648, Hs648, -⟩ := id f646
  have in648 : ¬ ((2 : Int32) < 0 ∨ cl648.slots.size ≤ ((2 : Int32)).toNatClampNeg) := inb_of Sz648 ⟨by decide, by decide⟩
  have at648 : cl648.slots[((2 : Int32)).toNatClampNeg]? = some (.int c2) := Has.at Hs648 in648 rfl
  obtain ⟨cl649, Ar649, q649, S649, N649z, H649, G649⟩ := id V645
  obtain ⟨T649, h649, X649, e649, W649, st649⟩ := stB X645 hx hZ e645 Ar649 (j := (2 : Int32)) (inb_of S649 ⟨by decide, by decide⟩) (g := (mkF m 31 #[rv a1, iv 2, rv a3, iv 2, iv 3, iv 2, iv c2] [(.int (c2.toInt8.toInt32)), (.int 2), (.ref a3)])) rfl rfl (hb hby d10_31)
  have V649 : Arv Z h649 a3 kb .byte (3 : Int32) [(.int (nar .byte (c0.toInt8.toInt32))), (.int (nar .byte (c1.toInt8.toInt32))), (.int (nar .byte (c2.toInt8.toInt32)))] (.int (0 : Int32)) := Arv.set Ar649 q649 S649 N649z H649 G649 (fits_nar_byte _) W649 2 rfl (Nat.le_of_ble_eq_true rfl)
  have N649 := Fr.snoc X649 N645 g_a3
  have K649 : Keep h0 h649 [a3] := K645.wr W649 (Or.inl (by simp))
  have z650 : n0 ≤ h649.size := (Nat.le_trans z647 (Keep.of_wr W649).1)
  have V651 : Arv Z h649 a3 kb .byte (3 : Int32) [(.int (own_by c0)), (.int (own_by c1)), (.int (own_by c2))] (.int (0 : Int32)) := V649
  have pre652 := own_go pre0 (T649.setTop (mkF m 46 #[rv a1, iv 3, rv a3, iv 3, iv 3, iv 3, iv c2] [(.int 3)])) fun t kt => by
    refine XS.iconst X0.here hx rfl (hb hby d10_0) ?_
    refine XS.istore X0.here hx rfl (hb hby d10_1) rfl (l' := #[rv a1, iv 0, rv a3, iv 0, iv 3, iv 0, .unset]) rfl ?_
    refine XS.iload X0.here hx rfl (hb hby d10_3) rfl ?_
    refine XS.iload X0.here hx rfl (hb hby d10_5) rfl ?_
    refine XS.icmpNo X0.here hx rfl (hb hby d10_7) rfl (tlt (by decide : (0 : Int32) < (3 : Int32))).2.1 ?_
    refine XS.aloadN X0.here hx rfl (hb hby d10_10) rfl rfl ?_
    refine XS.iloadN X0.here hx rfl (hb hby d10_11) rfl ?_
    refine X0.caload hx (j := (0 : Int32)) (v := (.int c0)) (by rw [e0]; exact Ar641.1) (State.isArrayOf_alike hZ.alike Ar641.2.1) Ar641.2.2 in641 at641 (g := (mkF m 12 #[rv a1, iv 0, rv a3, iv 0, iv 3, iv 0, .unset] [(.int 0), (.ref a1)])) rfl rfl (hb hby d10_12) _ ?_
    refine XS.istore X0.here hx rfl (hb hby d10_13) rfl (l' := #[rv a1, iv 0, rv a3, iv 0, iv 3, iv 0, iv c0]) rfl ?_
    refine XS.iload X0.here hx rfl (hb hby d10_15) rfl ?_
    refine XS.sipush X0.here hx rfl (hb hby d10_17) ?_
    refine XS.icmpYes X0.here hx rfl (pc0 := 20) (pc' := 26) rfl (hb hby d10_20) rfl (flt (u0 : ¬ ((255 : Int32) < c0))).2.2.2 (by decide) (by decide) ?_
    refine XS.aloadN X0.here hx rfl (hb hby d10_26) rfl rfl ?_
    refine XS.iloadN X0.here hx rfl (hb hby d10_27) rfl ?_
    refine XS.iload X0.here hx rfl (hb hby d10_28) rfl ?_
    refine XS.i2b X0.here hx rfl (hb hby d10_30) rfl ?_
    refine st642 _ ?_
    refine XS.iinc X642.here hx rfl (hb hby d10_32) rfl (l' := #[rv a1, iv 1, rv a3, iv 0, iv 3, iv 0, iv c0]) rfl ?_
    refine XS.iinc X642.here hx rfl (hb hby d10_35) rfl (l' := #[rv a1, iv 1, rv a3, iv 1, iv 3, iv 0, iv c0]) rfl ?_
    refine XS.iinc X642.here hx rfl (hb hby d10_38) rfl (l' := #[rv a1, iv 1, rv a3, iv 1, iv 3, iv 1, iv c0]) rfl ?_
    refine XS.goto X642.here hx rfl (pc0 := 41) (pc' := 3) rfl (hb hby d10_41) (by decide) (by decide) ?_
    refine XS.iload X642.here hx rfl (hb hby d10_3) rfl ?_
    refine XS.iload X642.here hx rfl (hb hby d10_5) rfl ?_
    refine XS.icmpNo X642.here hx rfl (hb hby d10_7) rfl (tlt (by decide : (1 : Int32) < (3 : Int32))).2.1 ?_
    refine XS.aloadN X642.here hx rfl (hb hby d10_10) rfl rfl ?_
    refine XS.iloadN X642.here hx rfl (hb hby d10_11) rfl ?_
    refine X642.caload hx (j := (1 : Int32)) (v := (.int c1)) (by rw [e642]; exact Ar644.1) (State.isArrayOf_alike hZ.alike Ar644.2.1) Ar644.2.2 in644 at644 (g := (mkF m 12 #[rv a1, iv 1, rv a3, iv 1, iv 3, iv 1, iv c0] [(.int 1), (.ref a1)])) rfl rfl (hb hby d10_12) _ ?_
    refine XS.istore X642.here hx rfl (hb hby d10_13) rfl (l' := #[rv a1, iv 1, rv a3, iv 1, iv 3, iv 1, iv c1]) rfl ?_
    refine XS.iload X642.here hx rfl (hb hby d10_15) rfl ?_
    refine XS.sipush X642.here hx rfl (hb hby d10_17) ?_
    refine XS.icmpYes X642.here hx rfl (pc0 := 20) (pc' := 26) rfl (hb hby d10_20) rfl (flt (u1 : ¬ ((255 : Int32) < c1))).2.2.2 (by decide) (by decide) ?_
    refine XS.aloadN X642.here hx rfl (hb hby d10_26) rfl rfl ?_
    refine XS.iloadN X642.here hx rfl (hb hby d10_27) rfl ?_
    refine XS.iload X642.here hx rfl (hb hby d10_28) rfl ?_
    refine XS.i2b X642.here hx rfl (hb hby d10_30) rfl ?_
    refine st645 _ ?_
    refine XS.iinc X645.here hx rfl (hb hby d10_32) rfl (l' := #[rv a1, iv 2, rv a3, iv 1, iv 3, iv 1, iv c1]) rfl ?_
    refine XS.iinc X645.here hx rfl (hb hby d10_35) rfl (l' := #[rv a1, iv 2, rv a3, iv 2, iv 3, iv 1, iv c1]) rfl ?_
    refine XS.iinc X645.here hx rfl (hb hby d10_38) rfl (l' := #[rv a1, iv 2, rv a3, iv 2, iv 3, iv 2, iv c1]) rfl ?_
    refine XS.goto X645.here hx rfl (pc0 := 41) (pc' := 3) rfl (hb hby d10_41) (by decide) (by decide) ?_
    refine XS.iload X645.here hx rfl (hb hby d10_3) rfl ?_
    refine XS.iload X645.here hx rfl (hb hby d10_5) rfl ?_
    refine XS.icmpNo X645.here hx rfl (hb hby d10_7) rfl (tlt (by decide : (2 : Int32) < (3 : Int32))).2.1 ?_
    refine XS.aloadN X645.here hx rfl (hb hby d10_10) rfl rfl ?_
    refine XS.iloadN X645.here hx rfl (hb hby d10_11) rfl ?_
    refine X645.caload hx (j := (2 : Int32)) (v := (.int c2)) (by rw [e645]; exact Ar648.1) (State.isArrayOf_alike hZ.alike Ar648.2.1) Ar648.2.2 in648 at648 (g := (mkF m 12 #[rv a1, iv 2, rv a3, iv 2, iv 3, iv 2, iv c1] [(.int 2), (.ref a1)])) rfl rfl (hb hby d10_12) _ ?_
    refine XS.istore X645.here hx rfl (hb hby d10_13) rfl (l' := #[rv a1, iv 2, rv a3, iv 2, iv 3, iv 2, iv c2]) rfl ?_
    refine XS.iload X645.here hx rfl (hb hby d10_15) rfl ?_
    refine XS.sipush X645.here hx rfl (hb hby d10_17) ?_
    refine XS.icmpYes X645.here hx rfl (pc0 := 20) (pc' := 26) rfl (hb hby d10_20) rfl (flt (u2 : ¬ ((255 : Int32) < c2))).2.2.2 (by decide) (by decide) ?_
    refine XS.aloadN X645.here hx rfl (hb hby d10_26) rfl rfl ?_
    refine XS.iloadN X645.here hx rfl (hb hby d10_27) rfl ?_
    refine XS.iload X645.here hx rfl (hb hby d10_28) rfl ?_
    refine XS.i2b X645.here hx rfl (hb hby d10_30) rfl ?_
    refine st649 _ ?_
    refine XS.iinc X649.here hx rfl (hb hby d10_32) rfl (l' := #[rv a1, iv 3, rv a3, iv 2, iv 3, iv 2, iv c2]) rfl ?_
    refine XS.iinc X649.here hx rfl (hb hby d10_35) rfl (l' := #[rv a1, iv 3, rv a3, iv 3, iv 3, iv 2, iv c2]) rfl ?_
    refine XS.iinc X649.here hx rfl (hb hby d10_38) rfl (l' := #[rv a1, iv 3, rv a3, iv 3, iv 3, iv 3, iv c2]) rfl ?_
    refine XS.goto X649.here hx rfl (pc0 := 41) (pc' := 3) rfl (hb hby d10_41) (by decide) (by decide) ?_
    refine XS.iload X649.here hx rfl (hb hby d10_3) rfl ?_
    refine XS.iload X649.here hx rfl (hb hby d10_5) rfl ?_
    refine XS.icmpYes X649.here hx rfl (pc0 := 7) (pc' := 44) rfl (hb hby d10_7) rfl (flt (by decide : ¬ ((3 : Int32) < (3 : Int32)))).2.1 (by decide) (by decide) ?_
    refine XS.iload X649.here hx rfl (hb hby d10_44) rfl ?_
    exact kt
  refine own_lv X649 Bd.notSynchronized (v := some (.int 3)) (own_nv Bd.returns) pre652 (fun fs hr => retI X649 hx Bd.returns (hb hby d10_46) hr) ?_
  show Q10_3L Z a1 a3 kc kb c0 c1 c2 h0 n0 _ T649.heap _
  rw [e649]
  exact ⟨rfl, N649, K649, V651⟩
def Q10_3U0 (Z : State) (a1 : Addr) (a3 : Addr) (kc : ClassId) (kb : ClassId) (c0 : Int32) (c1 : Int32) (c2 : Int32) (h0 : Heap) (n0 : Nat) (v : Option Value) (h : Heap) (L : List Loc) : Prop := v = some (.int 0) ∧ Fr n0 L ∧ Keep h0 h [a3]
theorem rm10_3U0 (l : Launch) (Z : State) (a0 : Array Value) (hw : own_H a0 Z) (ws : List Jvm.Cond) (a1 : Addr) (a3 : Addr) (kc : ClassId) (kb : ClassId) (c0 : Int32) (c1 : Int32) (c2 : Int32) (h0 : Heap) (n0 : Nat) (Z0 : n0 ≤ h0.size) (P0 : Arv Z h0 a1 kc .char (3 : Int32) [(.int c0), (.int c1), (.int c2)] (.int (0 : Int32))) (P1 : Arv Z h0 a3 kb .byte (3 : Int32) [(.int 0), (.int 0), (.int 0)] (.int (0 : Int32))) (ne_a1_a3 : a1 ≠ a3) (g_a3 : n0 ≤ a3) (u0 : (255 : Int32) < c0) :
    own_M l Z (⟨"java/lang/StringUTF16", "compress", "([CI[BII)I"⟩ : MethodName) jdk_52_method_21_code 7 (some .int) ws ({ frames := 0, cells := 0, slots := 0, locals := 0 } : Room) #[(.ref a1), (.int 0), (.ref a3), (.int 0), (.int 3)] h0 (Q10_3U0 Z a1 a3 kc kb c0 c1 c2 h0 n0) := by
  refine own_bd (n0 := n0) (plainFor_of_name pn_10) fun p e s m below meth c s₁ Bd hZ hx hby hml hown X0 e0 N0 => ?_
  have pre0 := own_p0 (tb := p.tables) (e := e) (below := below) (s := s₁) (ef_10_3L m a1 a3)
  obtain ⟨cl653, Ar653, -, Sz653, Nz653, Hs653, -⟩ := id P0
  have in653 : ¬ ((0 : Int32) < 0 ∨ cl653.slots.size ≤ ((0 : Int32)).toNatClampNeg) := inb_of Sz653 ⟨by decide, by decide⟩
  have at653 : cl653.slots[((0 : Int32)).toNatClampNeg]? = some (.int c0) := Has.at Hs653 in653 rfl
  have pre654 := own_go pre0 (s₁.setTop (mkF m 25 #[rv a1, iv 0, rv a3, iv 0, iv 3, iv 0, iv c0] [(.int 0)])) fun t kt => by
    refine XS.iconst X0.here hx rfl (hb hby d10_0) ?_
    refine XS.istore X0.here hx rfl (hb hby d10_1) rfl (l' := #[rv a1, iv 0, rv a3, iv 0, iv 3, iv 0, .unset]) rfl ?_
    refine XS.iload X0.here hx rfl (hb hby d10_3) rfl ?_
    refine XS.iload X0.here hx rfl (hb hby d10_5) rfl ?_
    refine XS.icmpNo X0.here hx rfl (hb hby d10_7) rfl (tlt (by decide : (0 : Int32) < (3 : Int32))).2.1 ?_
    refine XS.aloadN X0.here hx rfl (hb hby d10_10) rfl rfl ?_
    refine XS.iloadN X0.here hx rfl (hb hby d10_11) rfl ?_
    refine X0.caload hx (j := (0 : Int32)) (v := (.int c0)) (by rw [e0]; exact Ar653.1) (State.isArrayOf_alike hZ.alike Ar653.2.1) Ar653.2.2 in653 at653 (g := (mkF m 12 #[rv a1, iv 0, rv a3, iv 0, iv 3, iv 0, .unset] [(.int 0), (.ref a1)])) rfl rfl (hb hby d10_12) _ ?_
    refine XS.istore X0.here hx rfl (hb hby d10_13) rfl (l' := #[rv a1, iv 0, rv a3, iv 0, iv 3, iv 0, iv c0]) rfl ?_
    refine XS.iload X0.here hx rfl (hb hby d10_15) rfl ?_
    refine XS.sipush X0.here hx rfl (hb hby d10_17) ?_
    refine XS.icmpNo X0.here hx rfl (hb hby d10_20) rfl (tlt (u0 : (255 : Int32) < c0)).2.2.2 ?_
    refine XS.iload X0.here hx rfl (hb hby d10_23) rfl ?_
    exact kt
  refine own_lv X0 Bd.notSynchronized (v := some (.int 0)) (own_nv Bd.returns) pre654 (fun fs hr => retI X0 hx Bd.returns (hb hby d10_25) hr) ?_
  show Q10_3U0 Z a1 a3 kc kb c0 c1 c2 h0 n0 _ s₁.heap _
  rw [e0]
  exact ⟨rfl, N0, (Keep.refl h0 [a3])⟩
def Q10_3U1 (Z : State) (a1 : Addr) (a3 : Addr) (kc : ClassId) (kb : ClassId) (c0 : Int32) (c1 : Int32) (c2 : Int32) (h0 : Heap) (n0 : Nat) (v : Option Value) (h : Heap) (L : List Loc) : Prop := v = some (.int 1) ∧ Fr n0 L ∧ Keep h0 h [a3]
theorem rm10_3U1 (l : Launch) (Z : State) (a0 : Array Value) (hw : own_H a0 Z) (ws : List Jvm.Cond) (a1 : Addr) (a3 : Addr) (kc : ClassId) (kb : ClassId) (c0 : Int32) (c1 : Int32) (c2 : Int32) (h0 : Heap) (n0 : Nat) (Z0 : n0 ≤ h0.size) (P0 : Arv Z h0 a1 kc .char (3 : Int32) [(.int c0), (.int c1), (.int c2)] (.int (0 : Int32))) (P1 : Arv Z h0 a3 kb .byte (3 : Int32) [(.int 0), (.int 0), (.int 0)] (.int (0 : Int32))) (ne_a1_a3 : a1 ≠ a3) (g_a3 : n0 ≤ a3) (u0 : ¬ (255 : Int32) < c0) (u1 : (255 : Int32) < c1) :
    own_M l Z (⟨"java/lang/StringUTF16", "compress", "([CI[BII)I"⟩ : MethodName) jdk_52_method_21_code 7 (some .int) ws ({ frames := 0, cells := 0, slots := 0, locals := 0 } : Room) #[(.ref a1), (.int 0), (.ref a3), (.int 0), (.int 3)] h0 (Q10_3U1 Z a1 a3 kc kb c0 c1 c2 h0 n0) := by
  refine own_bd (n0 := n0) (plainFor_of_name pn_10) fun p e s m below meth c s₁ Bd hZ hx hby hml hown X0 e0 N0 => ?_
  have pre0 := own_p0 (tb := p.tables) (e := e) (below := below) (s := s₁) (ef_10_3L m a1 a3)
  obtain ⟨cl655, Ar655, -, Sz655, Nz655, Hs655, -⟩ := id P0
  have in655 : ¬ ((0 : Int32) < 0 ∨ cl655.slots.size ≤ ((0 : Int32)).toNatClampNeg) := inb_of Sz655 ⟨by decide, by decide⟩
  have at655 : cl655.slots[((0 : Int32)).toNatClampNeg]? = some (.int c0) := Has.at Hs655 in655 rfl
  obtain ⟨cl656, Ar656, q656, S656, N656z, H656, G656⟩ := id P1
  obtain ⟨T656, h656, X656, e656, W656, st656⟩ := stB X0 hx hZ e0 Ar656 (j := (0 : Int32)) (inb_of S656 ⟨by decide, by decide⟩) (g := (mkF m 31 #[rv a1, iv 0, rv a3, iv 0, iv 3, iv 0, iv c0] [(.int (c0.toInt8.toInt32)), (.int 0), (.ref a3)])) rfl rfl (hb hby d10_31)
  have V656 : Arv Z h656 a3 kb .byte (3 : Int32) [(.int (nar .byte (c0.toInt8.toInt32))), (.int 0), (.int 0)] (.int (0 : Int32)) := Arv.set Ar656 q656 S656 N656z H656 G656 (fits_nar_byte _) W656 0 rfl (Nat.le_of_ble_eq_true rfl)
  have N656 := Fr.snoc X656 N0 g_a3
  have K656 : Keep h0 h656 [a3] := (Keep.refl h0 [a3]).wr W656 (Or.inl (by simp))
  have z657 : n0 ≤ h656.size := (Nat.le_trans Z0 (Keep.of_wr W656).1)
  obtain ⟨cl658, Ar658, -, Sz658, Nz658, Hs658, -⟩ := id (P0.other W656 ne_a1_a3)
  have in658 : ¬ ((1 : Int32) < 0 ∨ cl658.slots.size ≤ ((1 : Int32)).toNatClampNeg) := inb_of Sz658 ⟨by decide, by decide⟩
  have at658 : cl658.slots[((1 : Int32)).toNatClampNeg]? = some (.int c1) := Has.at Hs658 in658 rfl
  have pre659 := own_go pre0 (T656.setTop (mkF m 25 #[rv a1, iv 1, rv a3, iv 1, iv 3, iv 1, iv c1] [(.int 1)])) fun t kt => by
    refine XS.iconst X0.here hx rfl (hb hby d10_0) ?_
    refine XS.istore X0.here hx rfl (hb hby d10_1) rfl (l' := #[rv a1, iv 0, rv a3, iv 0, iv 3, iv 0, .unset]) rfl ?_
    refine XS.iload X0.here hx rfl (hb hby d10_3) rfl ?_
    refine XS.iload X0.here hx rfl (hb hby d10_5) rfl ?_
    refine XS.icmpNo X0.here hx rfl (hb hby d10_7) rfl (tlt (by decide : (0 : Int32) < (3 : Int32))).2.1 ?_
    refine XS.aloadN X0.here hx rfl (hb hby d10_10) rfl rfl ?_
    refine XS.iloadN X0.here hx rfl (hb hby d10_11) rfl ?_
    refine X0.caload hx (j := (0 : Int32)) (v := (.int c0)) (by rw [e0]; exact Ar655.1) (State.isArrayOf_alike hZ.alike Ar655.2.1) Ar655.2.2 in655 at655 (g := (mkF m 12 #[rv a1, iv 0, rv a3, iv 0, iv 3, iv 0, .unset] [(.int 0), (.ref a1)])) rfl rfl (hb hby d10_12) _ ?_
    refine XS.istore X0.here hx rfl (hb hby d10_13) rfl (l' := #[rv a1, iv 0, rv a3, iv 0, iv 3, iv 0, iv c0]) rfl ?_
    refine XS.iload X0.here hx rfl (hb hby d10_15) rfl ?_
    refine XS.sipush X0.here hx rfl (hb hby d10_17) ?_
    refine XS.icmpYes X0.here hx rfl (pc0 := 20) (pc' := 26) rfl (hb hby d10_20) rfl (flt (u0 : ¬ ((255 : Int32) < c0))).2.2.2 (by decide) (by decide) ?_
    refine XS.aloadN X0.here hx rfl (hb hby d10_26) rfl rfl ?_
    refine XS.iloadN X0.here hx rfl (hb hby d10_27) rfl ?_
    refine XS.iload X0.here hx rfl (hb hby d10_28) rfl ?_
    refine XS.i2b X0.here hx rfl (hb hby d10_30) rfl ?_
    refine st656 _ ?_
    refine XS.iinc X656.here hx rfl (hb hby d10_32) rfl (l' := #[rv a1, iv 1, rv a3, iv 0, iv 3, iv 0, iv c0]) rfl ?_
    refine XS.iinc X656.here hx rfl (hb hby d10_35) rfl (l' := #[rv a1, iv 1, rv a3, iv 1, iv 3, iv 0, iv c0]) rfl ?_
    refine XS.iinc X656.here hx rfl (hb hby d10_38) rfl (l' := #[rv a1, iv 1, rv a3, iv 1, iv 3, iv 1, iv c0]) rfl ?_
    refine XS.goto X656.here hx rfl (pc0 := 41) (pc' := 3) rfl (hb hby d10_41) (by decide) (by decide) ?_
    refine XS.iload X656.here hx rfl (hb hby d10_3) rfl ?_
    refine XS.iload X656.here hx rfl (hb hby d10_5) rfl ?_
    refine XS.icmpNo X656.here hx rfl (hb hby d10_7) rfl (tlt (by decide : (1 : Int32) < (3 : Int32))).2.1 ?_
    refine XS.aloadN X656.here hx rfl (hb hby d10_10) rfl rfl ?_
    refine XS.iloadN X656.here hx rfl (hb hby d10_11) rfl ?_
    refine X656.caload hx (j := (1 : Int32)) (v := (.int c1)) (by rw [e656]; exact Ar658.1) (State.isArrayOf_alike hZ.alike Ar658.2.1) Ar658.2.2 in658 at658 (g := (mkF m 12 #[rv a1, iv 1, rv a3, iv 1, iv 3, iv 1, iv c0] [(.int 1), (.ref a1)])) rfl rfl (hb hby d10_12) _ ?_
    refine XS.istore X656.here hx rfl (hb hby d10_13) rfl (l' := #[rv a1, iv 1, rv a3, iv 1, iv 3, iv 1, iv c1]) rfl ?_
    refine XS.iload X656.here hx rfl (hb hby d10_15) rfl ?_
    refine XS.sipush X656.here hx rfl (hb hby d10_17) ?_
    refine XS.icmpNo X656.here hx rfl (hb hby d10_20) rfl (tlt (u1 : (255 : Int32) < c1)).2.2.2 ?_
    refine XS.iload X656.here hx rfl (hb hby d10_23) rfl ?_
    exact kt
  refine own_lv X656 Bd.notSynchronized (v := some (.int 1)) (own_nv Bd.returns) pre659 (fun fs hr => retI X656 hx Bd.returns (hb hby d10_25) hr) ?_
  show Q10_3U1 Z a1 a3 kc kb c0 c1 c2 h0 n0 _ T656.heap _
  rw [e656]
  exact ⟨rfl, N656, K656⟩
def Q10_3U2 (Z : State) (a1 : Addr) (a3 : Addr) (kc : ClassId) (kb : ClassId) (c0 : Int32) (c1 : Int32) (c2 : Int32) (h0 : Heap) (n0 : Nat) (v : Option Value) (h : Heap) (L : List Loc) : Prop := v = some (.int 2) ∧ Fr n0 L ∧ Keep h0 h [a3]
theorem rm10_3U2 (l : Launch) (Z : State) (a0 : Array Value) (hw : own_H a0 Z) (ws : List Jvm.Cond) (a1 : Addr) (a3 : Addr) (kc : ClassId) (kb : ClassId) (c0 : Int32) (c1 : Int32) (c2 : Int32) (h0 : Heap) (n0 : Nat) (Z0 : n0 ≤ h0.size) (P0 : Arv Z h0 a1 kc .char (3 : Int32) [(.int c0), (.int c1), (.int c2)] (.int (0 : Int32))) (P1 : Arv Z h0 a3 kb .byte (3 : Int32) [(.int 0), (.int 0), (.int 0)] (.int (0 : Int32))) (ne_a1_a3 : a1 ≠ a3) (g_a3 : n0 ≤ a3) (u0 : ¬ (255 : Int32) < c0) (u1 : ¬ (255 : Int32) < c1) (u2 : (255 : Int32) < c2) :
    own_M l Z (⟨"java/lang/StringUTF16", "compress", "([CI[BII)I"⟩ : MethodName) jdk_52_method_21_code 7 (some .int) ws ({ frames := 0, cells := 0, slots := 0, locals := 0 } : Room) #[(.ref a1), (.int 0), (.ref a3), (.int 0), (.int 3)] h0 (Q10_3U2 Z a1 a3 kc kb c0 c1 c2 h0 n0) := by
  refine own_bd (n0 := n0) (plainFor_of_name pn_10) fun p e s m below meth c s₁ Bd hZ hx hby hml hown X0 e0 N0 => ?_
  have pre0 := own_p0 (tb := p.tables) (e := e) (below := below) (s := s₁) (ef_10_3L m a1 a3)
  obtain ⟨cl660, Ar660, -, Sz660, Nz660, Hs660, -⟩ := id P0
  have in660 : ¬ ((0 : Int32) < 0 ∨ cl660.slots.size ≤ ((0 : Int32)).toNatClampNeg) := inb_of Sz660 ⟨by decide, by decide⟩
  have at660 : cl660.slots[((0 : Int32)).toNatClampNeg]? = some (.int c0) := Has.at Hs660 in660 rfl
  obtain ⟨cl661, Ar661, q661, S661, N661z, H661, G661⟩ := id P1
  obtain ⟨T661, h661, X661, e661, W661, st661⟩ := stB X0 hx hZ e0 Ar661 (j := (0 : Int32)) (inb_of S661 ⟨by decide, by decide⟩) (g := (mkF m 31 #[rv a1, iv 0, rv a3, iv 0, iv 3, iv 0, iv c0] [(.int (c0.toInt8.toInt32)), (.int 0), (.ref a3)])) rfl rfl (hb hby d10_31)
  have V661 : Arv Z h661 a3 kb .byte (3 : Int32) [(.int (nar .byte (c0.toInt8.toInt32))), (.int 0), (.int 0)] (.int (0 : Int32)) := Arv.set Ar661 q661 S661 N661z H661 G661 (fits_nar_byte _) W661 0 rfl (Nat.le_of_ble_eq_true rfl)
  have N661 := Fr.snoc X661 N0 g_a3
  have K661 : Keep h0 h661 [a3] := (Keep.refl h0 [a3]).wr W661 (Or.inl (by simp))
  have z662 : n0 ≤ h661.size := (Nat.le_trans Z0 (Keep.of_wr W661).1)
  obtain ⟨cl663, Ar663, -, Sz663, Nz663, Hs663, -⟩ := id (P0.other W661 ne_a1_a3)
  have in663 : ¬ ((1 : Int32) < 0 ∨ cl663.slots.size ≤ ((1 : Int32)).toNatClampNeg) := inb_of Sz663 ⟨by decide, by decide⟩
  have at663 : cl663.slots[((1 : Int32)).toNatClampNeg]? = some (.int c1) := Has.at Hs663 in663 rfl
  obtain ⟨cl664, Ar664, q664, S664, N664z, H664, G664⟩ := id V661
  obtain ⟨T664, h664, X664, e664, W664, st664⟩ := stB X661 hx hZ e661 Ar664 (j := (1 : Int32)) (inb_of S664 ⟨by decide, by decide⟩) (g := (mkF m 31 #[rv a1, iv 1, rv a3, iv 1, iv 3, iv 1, iv c1] [(.int (c1.toInt8.toInt32)), (.int 1), (.ref a3)])) rfl rfl (hb hby d10_31)
  have V664 : Arv Z h664 a3 kb .byte (3 : Int32) [(.int (nar .byte (c0.toInt8.toInt32))), (.int (nar .byte (c1.toInt8.toInt32))), (.int 0)] (.int (0 : Int32)) := Arv.set Ar664 q664 S664 N664z H664 G664 (fits_nar_byte _) W664 1 rfl (Nat.le_of_ble_eq_true rfl)
  have N664 := Fr.snoc X664 N661 g_a3
  have K664 : Keep h0 h664 [a3] := K661.wr W664 (Or.inl (by simp))
  have f665 := ((P0.other W661 ne_a1_a3).other W664 ne_a1_a3)
  have z666 : n0 ≤ h664.size := (Nat.le_trans z662 (Keep.of_wr W664).1)
  obtain ⟨cl667, Ar667, -, Sz667, Nz667, Hs667, -⟩ := id f665
  have in667 : ¬ ((2 : Int32) < 0 ∨ cl667.slots.size ≤ ((2 : Int32)).toNatClampNeg) := inb_of Sz667 ⟨by decide, by decide⟩
  have at667 : cl667.slots[((2 : Int32)).toNatClampNeg]? = some (.int c2) := Has.at Hs667 in667 rfl
  have pre668 := own_go pre0 (T664.setTop (mkF m 25 #[rv a1, iv 2, rv a3, iv 2, iv 3, iv 2, iv c2] [(.int 2)])) fun t kt => by
    refine XS.iconst X0.here hx rfl (hb hby d10_0) ?_
    refine XS.istore X0.here hx rfl (hb hby d10_1) rfl (l' := #[rv a1, iv 0, rv a3, iv 0, iv 3, iv 0, .unset]) rfl ?_
    refine XS.iload X0.here hx rfl (hb hby d10_3) rfl ?_
    refine XS.iload X0.here hx rfl (hb hby d10_5) rfl ?_
    refine XS.icmpNo X0.here hx rfl (hb hby d10_7) rfl (tlt (by decide : (0 : Int32) < (3 : Int32))).2.1 ?_
    refine XS.aloadN X0.here hx rfl (hb hby d10_10) rfl rfl ?_
    refine XS.iloadN X0.here hx rfl (hb hby d10_11) rfl ?_
    refine X0.caload hx (j := (0 : Int32)) (v := (.int c0)) (by rw [e0]; exact Ar660.1) (State.isArrayOf_alike hZ.alike Ar660.2.1) Ar660.2.2 in660 at660 (g := (mkF m 12 #[rv a1, iv 0, rv a3, iv 0, iv 3, iv 0, .unset] [(.int 0), (.ref a1)])) rfl rfl (hb hby d10_12) _ ?_
    refine XS.istore X0.here hx rfl (hb hby d10_13) rfl (l' := #[rv a1, iv 0, rv a3, iv 0, iv 3, iv 0, iv c0]) rfl ?_
    refine XS.iload X0.here hx rfl (hb hby d10_15) rfl ?_
    refine XS.sipush X0.here hx rfl (hb hby d10_17) ?_
    refine XS.icmpYes X0.here hx rfl (pc0 := 20) (pc' := 26) rfl (hb hby d10_20) rfl (flt (u0 : ¬ ((255 : Int32) < c0))).2.2.2 (by decide) (by decide) ?_
    refine XS.aloadN X0.here hx rfl (hb hby d10_26) rfl rfl ?_
    refine XS.iloadN X0.here hx rfl (hb hby d10_27) rfl ?_
    refine XS.iload X0.here hx rfl (hb hby d10_28) rfl ?_
    refine XS.i2b X0.here hx rfl (hb hby d10_30) rfl ?_
    refine st661 _ ?_
    refine XS.iinc X661.here hx rfl (hb hby d10_32) rfl (l' := #[rv a1, iv 1, rv a3, iv 0, iv 3, iv 0, iv c0]) rfl ?_
    refine XS.iinc X661.here hx rfl (hb hby d10_35) rfl (l' := #[rv a1, iv 1, rv a3, iv 1, iv 3, iv 0, iv c0]) rfl ?_
    refine XS.iinc X661.here hx rfl (hb hby d10_38) rfl (l' := #[rv a1, iv 1, rv a3, iv 1, iv 3, iv 1, iv c0]) rfl ?_
    refine XS.goto X661.here hx rfl (pc0 := 41) (pc' := 3) rfl (hb hby d10_41) (by decide) (by decide) ?_
    refine XS.iload X661.here hx rfl (hb hby d10_3) rfl ?_
    refine XS.iload X661.here hx rfl (hb hby d10_5) rfl ?_
    refine XS.icmpNo X661.here hx rfl (hb hby d10_7) rfl (tlt (by decide : (1 : Int32) < (3 : Int32))).2.1 ?_
    refine XS.aloadN X661.here hx rfl (hb hby d10_10) rfl rfl ?_
    refine XS.iloadN X661.here hx rfl (hb hby d10_11) rfl ?_
    refine X661.caload hx (j := (1 : Int32)) (v := (.int c1)) (by rw [e661]; exact Ar663.1) (State.isArrayOf_alike hZ.alike Ar663.2.1) Ar663.2.2 in663 at663 (g := (mkF m 12 #[rv a1, iv 1, rv a3, iv 1, iv 3, iv 1, iv c0] [(.int 1), (.ref a1)])) rfl rfl (hb hby d10_12) _ ?_
    refine XS.istore X661.here hx rfl (hb hby d10_13) rfl (l' := #[rv a1, iv 1, rv a3, iv 1, iv 3, iv 1, iv c1]) rfl ?_
    refine XS.iload X661.here hx rfl (hb hby d10_15) rfl ?_
    refine XS.sipush X661.here hx rfl (hb hby d10_17) ?_
    refine XS.icmpYes X661.here hx rfl (pc0 := 20) (pc' := 26) rfl (hb hby d10_20) rfl (flt (u1 : ¬ ((255 : Int32) < c1))).2.2.2 (by decide) (by decide) ?_
    refine XS.aloadN X661.here hx rfl (hb hby d10_26) rfl rfl ?_
    refine XS.iloadN X661.here hx rfl (hb hby d10_27) rfl ?_
    refine XS.iload X661.here hx rfl (hb hby d10_28) rfl ?_
    refine XS.i2b X661.here hx rfl (hb hby d10_30) rfl ?_
    refine st664 _ ?_
    refine XS.iinc X664.here hx rfl (hb hby d10_32) rfl (l' := #[rv a1, iv 2, rv a3, iv 1, iv 3, iv 1, iv c1]) rfl ?_
    refine XS.iinc X664.here hx rfl (hb hby d10_35) rfl (l' := #[rv a1, iv 2, rv a3, iv 2, iv 3, iv 1, iv c1]) rfl ?_
    refine XS.iinc X664.here hx rfl (hb hby d10_38) rfl (l' := #[rv a1, iv 2, rv a3, iv 2, iv 3, iv 2, iv c1]) rfl ?_
    refine XS.goto X664.here hx rfl (pc0 := 41) (pc' := 3) rfl (hb hby d10_41) (by decide) (by decide) ?_
    refine XS.iload X664.here hx rfl (hb hby d10_3) rfl ?_
    refine XS.iload X664.here hx rfl (hb hby d10_5) rfl ?_
    refine XS.icmpNo X664.here hx rfl (hb hby d10_7) rfl (tlt (by decide : (2 : Int32) < (3 : Int32))).2.1 ?_
    refine XS.aloadN X664.here hx rfl (hb hby d10_10) rfl rfl ?_
    refine XS.iloadN X664.here hx rfl (hb hby d10_11) rfl ?_
    refine X664.caload hx (j := (2 : Int32)) (v := (.int c2)) (by rw [e664]; exact Ar667.1) (State.isArrayOf_alike hZ.alike Ar667.2.1) Ar667.2.2 in667 at667 (g := (mkF m 12 #[rv a1, iv 2, rv a3, iv 2, iv 3, iv 2, iv c1] [(.int 2), (.ref a1)])) rfl rfl (hb hby d10_12) _ ?_
    refine XS.istore X664.here hx rfl (hb hby d10_13) rfl (l' := #[rv a1, iv 2, rv a3, iv 2, iv 3, iv 2, iv c2]) rfl ?_
    refine XS.iload X664.here hx rfl (hb hby d10_15) rfl ?_
    refine XS.sipush X664.here hx rfl (hb hby d10_17) ?_
    refine XS.icmpNo X664.here hx rfl (hb hby d10_20) rfl (tlt (u2 : (255 : Int32) < c2)).2.2.2 ?_
    refine XS.iload X664.here hx rfl (hb hby d10_23) rfl ?_
    exact kt
  refine own_lv X664 Bd.notSynchronized (v := some (.int 2)) (own_nv Bd.returns) pre668 (fun fs hr => retI X664 hx Bd.returns (hb hby d10_25) hr) ?_
  show Q10_3U2 Z a1 a3 kc kb c0 c1 c2 h0 n0 _ T664.heap _
  rw [e664]
  exact ⟨rfl, N664, K664⟩
theorem ef_9_3L (m : MethodId) (x0 : Addr) : entryFrame m #[(.ref x0), (.int 0), (.int 3)] 6 = mkF m 0 #[.val (.ref x0), .val (.int 0), .val (.int 3), .unset, .unset, .unset] [] := by first | (simp [entryFrame, mkF, argsToLocals, Value.category]; done) | rfl
def Q9_3L (Z : State) (a1 : Addr) (kc : ClassId) (c0 : Int32) (c1 : Int32) (c2 : Int32) (h0 : Heap) (n0 : Nat) (v : Option Value) (h : Heap) (L : List Loc) : Prop := ∃ (x1 : Addr) (kx1 : ClassId), v = some (.ref x1) ∧ Fr n0 L ∧ Keep h0 h [] ∧ n0 ≤ x1 ∧ h0.size ≤ x1 ∧ Arv Z h x1 kx1 .byte (3 : Int32) [(.int (own_by c0)), (.int (own_by c1)), (.int (own_by c2))] (.int (0 : Int32))
theorem rm9_3L (l : Launch) (Z : State) (a0 : Array Value) (hw : own_H a0 Z) (ws : List Jvm.Cond) (a1 : Addr) (kc : ClassId) (c0 : Int32) (c1 : Int32) (c2 : Int32) (h0 : Heap) (n0 : Nat) (Z0 : n0 ≤ h0.size) (P0 : Arv Z h0 a1 kc .char (3 : Int32) [(.int c0), (.int c1), (.int c2)] (.int (0 : Int32))) (u0 : ¬ (255 : Int32) < c0) (u1 : ¬ (255 : Int32) < c1) (u2 : ¬ (255 : Int32) < c2) :
    own_M l Z (⟨"java/lang/StringUTF16", "compress", "([CII)[B"⟩ : MethodName) jdk_52_method_16_code 6 (some (.array .byte)) ws ({ frames := 1, cells := 1, slots := 3, locals := 18 } : Room) #[(.ref a1), (.int 0), (.int 3)] h0 (Q9_3L Z a1 kc c0 c1 c2 h0 n0) := by
  refine own_bd (n0 := n0) (plainFor_of_name pn_9) fun p e s m below meth c s₁ Bd hZ hx hby hml hown X0 e0 N0 => ?_
  have pre0 := own_p0 (tb := p.tables) (e := e) (below := below) (s := s₁) (ef_9_3L m a1)
  obtain ⟨T669, h669, k669, X669, e669, E669, A669, st669⟩ := newP X0 hx hZ (ow hw 38 rfl) e0 (g := (mkF m 1 #[rv a1, iv 0, iv 3, .unset, .unset, .unset] [(.int 3)])) rfl (hb hby d9_1) rfl (by decide) (cap := 3) (by decide) (by decide) (by decide) (by decide)
  obtain ⟨b669, g669⟩ : ∃ z, z = h0.size := ⟨_, rfl⟩
  rw [← g669] at A669 st669
  have ne670 : a1 ≠ b669 := Nat.ne_of_lt (Nat.lt_of_lt_of_le P0.lt (Nat.le_of_eq g669.symm))
  have g_b669 : n0 ≤ b669 := Nat.le_trans Z0 (Nat.le_of_eq g669.symm)
  have sz_b669 : h0.size ≤ b669 := Nat.le_trans (Keep.refl h0 []).1 (Nat.le_of_eq g669.symm)
  have K669 : Keep h0 h669 [] := (Keep.refl h0 []).ext E669
  have V669 : Arv Z h669 b669 k669 .byte (3 : Int32) [(.int 0), (.int 0), (.int 0)] (.int (0 : Int32)) := (Arv.new A669 (by decide)).pad (pad_rep [] (.int (0 : Int32)) 3)
  obtain ⟨_, T671, L671, X671, hQ671, st671⟩ := own_cS X669 hx hZ hml hown (ow hw 39 rfl) (ow hw 40 rfl) (ow hw 36 rfl) (ow hw 41 rfl) e669 (rm10_3L l Z a0 hw [] a1 b669 kc k669 c0 c1 c2 h669 n0 (Nat.le_trans Z0 E669.1) (P0.ext E669) V669 ne670 g_b669 u0 u1 u2) (W := 0) (g := (mkF m 9 #[rv a1, iv 0, iv 3, rv b669, .unset, .unset] [(.int 3), (.int 0), (.ref b669), (.int 0), (.ref a1)])) (argsL := [(.ref a1), (.int 0), (.ref b669), (.int 0), (.int 3)]) (rest := []) (lenOf pd_11 rfl) (hb hby d9_9)
  obtain ⟨rfl, N671q, K671q, q671_0⟩ := hQ671
  have N671 := Fr.app N0 N671q
  have K671 : Keep h0 T671.heap [] := K669.trans K671q (allS (Or.inr sz_b669) all0)
  have f672 := ((P0.ext E669).keep K671q (ninS ne670 nin0))
  have z673 : n0 ≤ T671.heap.size := (Nat.le_trans (Nat.le_trans Z0 E669.1) K671q.1)
  have pre674 := own_go pre0 (T671.setTop (mkF m 58 #[rv a1, iv 0, iv 3, rv b669, iv 3, .unset] [(.ref b669)])) fun t kt => by
    refine XS.iloadN X0.here hx rfl (hb hby d9_0) rfl ?_
    refine st669 _ ?_
    refine XS.astoreN X669.here hx rfl (hb hby d9_3) rfl rfl (l' := #[rv a1, iv 0, iv 3, rv b669, .unset, .unset]) rfl ?_
    refine XS.aloadN X669.here hx rfl (hb hby d9_4) rfl rfl ?_
    refine XS.iloadN X669.here hx rfl (hb hby d9_5) rfl ?_
    refine XS.aloadN X669.here hx rfl (hb hby d9_6) rfl rfl ?_
    refine XS.iconst X669.here hx rfl (hb hby d9_7) ?_
    refine XS.iloadN X669.here hx rfl (hb hby d9_8) rfl ?_
    refine st671 _ ?_
    refine XS.istore X671.here hx rfl (hb hby d9_12) rfl (l' := #[rv a1, iv 0, iv 3, rv b669, iv 3, .unset]) rfl ?_
    refine XS.iload X671.here hx rfl (hb hby d9_14) rfl ?_
    refine XS.iloadN X671.here hx rfl (hb hby d9_16) rfl ?_
    refine XS.icmpYes X671.here hx rfl (pc0 := 17) (pc' := 57) rfl (hb hby d9_17) rfl (teq (by decide : (3 : Int32) = (3 : Int32))).1 (by decide) (by decide) ?_
    refine XS.aloadN X671.here hx rfl (hb hby d9_57) rfl rfl ?_
    exact kt
  refine own_lv X671 Bd.notSynchronized (v := some (.ref b669)) (own_nv Bd.returns) pre674 (fun fs hr => retOut X671 hx Bd.returns (own_nref _ rfl) (Or.inr (Or.inr (Or.inr (Or.inr ⟨rfl, rfl, rfl⟩)))) (hb hby d9_58) hr) ?_
  show Q9_3L Z a1 kc c0 c1 c2 h0 n0 _ T671.heap _
  exact ⟨b669, k669, rfl, N671, K671, g_b669, sz_b669, q671_0⟩
def Q9_3U (Z : State) (a1 : Addr) (kc : ClassId) (c0 : Int32) (c1 : Int32) (c2 : Int32) (h0 : Heap) (n0 : Nat) (v : Option Value) (h : Heap) (L : List Loc) : Prop := ∃ (x1 : Addr) (kx1 : ClassId), v = some (.ref x1) ∧ Fr n0 L ∧ Keep h0 h [] ∧ n0 ≤ x1 ∧ h0.size ≤ x1 ∧ Arv Z h x1 kx1 .byte (6 : Int32) [(.int (own_lo c0)), (.int (own_hi c0)), (.int (own_lo c1)), (.int (own_hi c1)), (.int (own_lo c2)), (.int (own_hi c2))] (.int (0 : Int32))
theorem rm9_3U (l : Launch) (Z : State) (a0 : Array Value) (hw : own_H a0 Z) (ws : List Jvm.Cond) (a1 : Addr) (kc : ClassId) (c0 : Int32) (c1 : Int32) (c2 : Int32) (h0 : Heap) (n0 : Nat) (Z0 : n0 ≤ h0.size) (P0 : Arv Z h0 a1 kc .char (3 : Int32) [(.int c0), (.int c1), (.int c2)] (.int (0 : Int32))) (P1 : Old Z n0 h0) (R2 : Sta Z Z.heap "java/lang/StringUTF16" "$assertionsDisabled" "Z" (.int 1)) (R3 : Sta Z Z.heap "java/lang/StringUTF16" "HI_BYTE_SHIFT" "I" (.int 0)) (R4 : Sta Z Z.heap "java/lang/StringUTF16" "LO_BYTE_SHIFT" "I" (.int 8)) (hU : (255 : Int32) < c0 ∨ (255 : Int32) < c1 ∨ (255 : Int32) < c2) (hr0 : ¬ c0 < (0 : Int32) ∧ ¬ (65535 : Int32) < c0) (hr1 : ¬ c1 < (0 : Int32) ∧ ¬ (65535 : Int32) < c1) (hr2 : ¬ c2 < (0 : Int32) ∧ ¬ (65535 : Int32) < c2) :
    own_M l Z (⟨"java/lang/StringUTF16", "compress", "([CII)[B"⟩ : MethodName) jdk_52_method_16_code 6 (some (.array .byte)) ws ({ frames := 3, cells := 2, slots := 9, locals := 40 } : Room) #[(.ref a1), (.int 0), (.int 3)] h0 (Q9_3U Z a1 kc c0 c1 c2 h0 n0) := by
  refine own_bd (n0 := n0) (plainFor_of_name pn_9) fun p e s m below meth c s₁ Bd hZ hx hby hml hown X0 e0 N0 => ?_
  have pre0 := own_p0 (tb := p.tables) (e := e) (below := below) (s := s₁) (ef_9_3L m a1)
  obtain ⟨T675, h675, k675, X675, e675, E675, A675, st675⟩ := newP X0 hx hZ (ow hw 38 rfl) e0 (g := (mkF m 1 #[rv a1, iv 0, iv 3, .unset, .unset, .unset] [(.int 3)])) rfl (hb hby d9_1) rfl (by decide) (cap := 3) (by decide) (by decide) (by decide) (by decide)
  obtain ⟨b675, g675⟩ : ∃ z, z = h0.size := ⟨_, rfl⟩
  rw [← g675] at A675 st675
  have ne676 : a1 ≠ b675 := Nat.ne_of_lt (Nat.lt_of_lt_of_le P0.lt (Nat.le_of_eq g675.symm))
  have g_b675 : n0 ≤ b675 := Nat.le_trans Z0 (Nat.le_of_eq g675.symm)
  have sz_b675 : h0.size ≤ b675 := Nat.le_trans (Keep.refl h0 []).1 (Nat.le_of_eq g675.symm)
  have K675 : Keep h0 h675 [] := (Keep.refl h0 []).ext E675
  have V675 : Arv Z h675 b675 k675 .byte (3 : Int32) [(.int 0), (.int 0), (.int 0)] (.int (0 : Int32)) := (Arv.new A675 (by decide)).pad (pad_rep [] (.int (0 : Int32)) 3)
  have pre677 := own_go pre0 (T675.setTop (mkF m 9 #[rv a1, iv 0, iv 3, rv b675, .unset, .unset] [(.int 3), (.int 0), (.ref b675), (.int 0), (.ref a1)])) fun t kt => by
    refine XS.iloadN X0.here hx rfl (hb hby d9_0) rfl ?_
    refine st675 _ ?_
    refine XS.astoreN X675.here hx rfl (hb hby d9_3) rfl rfl (l' := #[rv a1, iv 0, iv 3, rv b675, .unset, .unset]) rfl ?_
    refine XS.aloadN X675.here hx rfl (hb hby d9_4) rfl rfl ?_
    refine XS.iloadN X675.here hx rfl (hb hby d9_5) rfl ?_
    refine XS.aloadN X675.here hx rfl (hb hby d9_6) rfl rfl ?_
    refine XS.iconst X675.here hx rfl (hb hby d9_7) ?_
    refine XS.iloadN X675.here hx rfl (hb hby d9_8) rfl ?_
    exact kt
  by_cases hk678 : (255 : Int32) < c0
  · obtain ⟨_, T679, L679, X679, hQ679, st679⟩ := own_cS X675 hx hZ hml hown (ow hw 39 rfl) (ow hw 40 rfl) (ow hw 36 rfl) (ow hw 41 rfl) e675 (rm10_3U0 l Z a0 hw [] a1 b675 kc k675 c0 c1 c2 h675 n0 (Nat.le_trans Z0 E675.1) (P0.ext E675) V675 ne676 g_b675 hk678) (W := 0) (g := (mkF m 9 #[rv a1, iv 0, iv 3, rv b675, .unset, .unset] [(.int 3), (.int 0), (.ref b675), (.int 0), (.ref a1)])) (argsL := [(.ref a1), (.int 0), (.ref b675), (.int 0), (.int 3)]) (rest := []) (lenOf pd_11 rfl) (hb hby d9_9)
    obtain ⟨rfl, N679q, K679q⟩ := hQ679
    have N679 := Fr.app N0 N679q
    have K679 : Keep h0 T679.heap [] := K675.trans K679q (allS (Or.inr sz_b675) all0)
    have f680 := ((P0.ext E675).keep K679q (ninS ne676 nin0))
    have f681 := ((P1.ext E675).keep K679q (allS g_b675 all0))
    have z682 : n0 ≤ T679.heap.size := (Nat.le_trans (Nat.le_trans Z0 E675.1) K679q.1)
    obtain ⟨_, T683, L683, X683, hQ683, st683⟩ := own_cS X679 hx hZ hml hown (ow hw 106 rfl) (ow hw 107 rfl) (ow hw 36 rfl) (ow hw 108 rfl) rfl (rm24_3 l Z a0 hw [] a1 kc c0 c1 c2 T679.heap n0 z682 f680 f681 R2 R3 R4) (W := 0) (g := (mkF m 23 #[rv a1, iv 0, iv 3, rv b675, iv 0, .unset] [(.int 3), (.int 0), (.ref a1)])) (argsL := [(.ref a1), (.int 0), (.int 3)]) (rest := []) (lenOf pd_12 rfl) (hb hby d9_23)
    obtain ⟨b683_0, kk683_0, rfl, N683q, K683q, ga683_0, gz683_0, q683_0⟩ := hQ683
    have N683 := Fr.app N679 N683q
    have ne684 : a1 ≠ b683_0 := Nat.ne_of_lt (Nat.lt_of_lt_of_le f680.lt gz683_0)
    have g_b683_0 : n0 ≤ b683_0 := ga683_0
    have sz_b683_0 : h0.size ≤ b683_0 := Nat.le_trans K679.1 gz683_0
    have K683 : Keep h0 T683.heap [] := K679.trans K683q all0
    have z685 : n0 ≤ T683.heap.size := (Nat.le_trans z682 (own_ke K683q).1)
    obtain ⟨cl686, Ar686, -, Sz686, Nz686, Hs686, -⟩ := id q683_0
    obtain ⟨T687, L687, X687, e687, N687, st687⟩ := own_pS X683 hx hZ hml hown N683 (ow hw 122 rfl) (ow hw 123 rfl) (ow hw 36 rfl) (ow hw 124 rfl) rfl (rm28 l Z a0 hw [] b683_0 (0 : Int32) cl686 (6 : Int32) (own_lo c0) (own_hi c0) T683.heap n0 z685 Ar686 Sz686 Nz686 (inb_of Sz686 ⟨by decide, by decide⟩) (Has.at Hs686 (inb_of Sz686 ⟨by decide, by decide⟩) rfl) (inb_of Sz686 ⟨by decide, by decide⟩) (Has.at Hs686 (inb_of Sz686 ⟨by decide, by decide⟩) rfl) (R2.ext (f681.ext (own_ke K683q)).2) (R3.ext (f681.ext (own_ke K683q)).2) (R4.ext (f681.ext (own_ke K683q)).2)) (W := 0) (g := (mkF m 32 #[rv a1, iv 0, iv 3, rv b675, iv 0, rv b683_0] [(.int 0), (.ref b683_0)])) (argsL := [(.ref b683_0), (.int 0)]) (rest := []) (lenOf pd_4 rfl) (hb hby d9_32)
    have pre688 := own_go pre677 (T687.setTop (mkF m 56 #[rv a1, iv 0, iv 3, rv b675, iv 0, rv b683_0] [(.ref b683_0)])) fun t kt => by
      refine st679 _ ?_
      refine XS.istore X679.here hx rfl (hb hby d9_12) rfl (l' := #[rv a1, iv 0, iv 3, rv b675, iv 0, .unset]) rfl ?_
      refine XS.iload X679.here hx rfl (hb hby d9_14) rfl ?_
      refine XS.iloadN X679.here hx rfl (hb hby d9_16) rfl ?_
      refine XS.icmpNo X679.here hx rfl (hb hby d9_17) rfl (feq (by decide : ¬ ((0 : Int32) = (3 : Int32)))).1 ?_
      refine XS.aloadN X679.here hx rfl (hb hby d9_20) rfl rfl ?_
      refine XS.iloadN X679.here hx rfl (hb hby d9_21) rfl ?_
      refine XS.iloadN X679.here hx rfl (hb hby d9_22) rfl ?_
      refine st683 _ ?_
      refine XS.astore X683.here hx rfl (hb hby d9_26) rfl rfl (l' := #[rv a1, iv 0, iv 3, rv b675, iv 0, rv b683_0]) rfl ?_
      refine XS.aload X683.here hx rfl (hb hby d9_28) rfl rfl ?_
      refine XS.iload X683.here hx rfl (hb hby d9_30) rfl ?_
      refine st687 _ ?_
      refine XS.sipush X687.here hx rfl (hb hby d9_35) ?_
      refine XS.icmpYes X687.here hx rfl (pc0 := 38) (pc' := 54) rfl (hb hby d9_38) rfl (tlt ((by rw [own_rtU hr0]; exact hk678) : (255 : Int32) < (own_gc (own_lo c0) (own_hi c0)))).2.2.1 (by decide) (by decide) ?_
      refine XS.aload X687.here hx rfl (hb hby d9_54) rfl rfl ?_
      exact kt
    refine own_lv X687 Bd.notSynchronized (v := some (.ref b683_0)) (own_nv Bd.returns) pre688 (fun fs hr => retOut X687 hx Bd.returns (own_nref _ rfl) (Or.inr (Or.inr (Or.inr (Or.inr ⟨rfl, rfl, rfl⟩)))) (hb hby d9_56) hr) ?_
    show Q9_3U Z a1 kc c0 c1 c2 h0 n0 _ T687.heap _
    rw [e687]
    exact ⟨b683_0, kk683_0, rfl, N687, K683, g_b683_0, sz_b683_0, q683_0⟩
  · by_cases hk689 : (255 : Int32) < c1
    · obtain ⟨_, T690, L690, X690, hQ690, st690⟩ := own_cS X675 hx hZ hml hown (ow hw 39 rfl) (ow hw 40 rfl) (ow hw 36 rfl) (ow hw 41 rfl) e675 (rm10_3U1 l Z a0 hw [] a1 b675 kc k675 c0 c1 c2 h675 n0 (Nat.le_trans Z0 E675.1) (P0.ext E675) V675 ne676 g_b675 hk678 hk689) (W := 0) (g := (mkF m 9 #[rv a1, iv 0, iv 3, rv b675, .unset, .unset] [(.int 3), (.int 0), (.ref b675), (.int 0), (.ref a1)])) (argsL := [(.ref a1), (.int 0), (.ref b675), (.int 0), (.int 3)]) (rest := []) (lenOf pd_11 rfl) (hb hby d9_9)
      obtain ⟨rfl, N690q, K690q⟩ := hQ690
      have N690 := Fr.app N0 N690q
      have K690 : Keep h0 T690.heap [] := K675.trans K690q (allS (Or.inr sz_b675) all0)
      have f691 := ((P0.ext E675).keep K690q (ninS ne676 nin0))
      have f692 := ((P1.ext E675).keep K690q (allS g_b675 all0))
      have z693 : n0 ≤ T690.heap.size := (Nat.le_trans (Nat.le_trans Z0 E675.1) K690q.1)
      obtain ⟨_, T694, L694, X694, hQ694, st694⟩ := own_cS X690 hx hZ hml hown (ow hw 106 rfl) (ow hw 107 rfl) (ow hw 36 rfl) (ow hw 108 rfl) rfl (rm24_3 l Z a0 hw [] a1 kc c0 c1 c2 T690.heap n0 z693 f691 f692 R2 R3 R4) (W := 0) (g := (mkF m 23 #[rv a1, iv 0, iv 3, rv b675, iv 1, .unset] [(.int 3), (.int 0), (.ref a1)])) (argsL := [(.ref a1), (.int 0), (.int 3)]) (rest := []) (lenOf pd_12 rfl) (hb hby d9_23)
      obtain ⟨b694_0, kk694_0, rfl, N694q, K694q, ga694_0, gz694_0, q694_0⟩ := hQ694
      have N694 := Fr.app N690 N694q
      have ne695 : a1 ≠ b694_0 := Nat.ne_of_lt (Nat.lt_of_lt_of_le f691.lt gz694_0)
      have g_b694_0 : n0 ≤ b694_0 := ga694_0
      have sz_b694_0 : h0.size ≤ b694_0 := Nat.le_trans K690.1 gz694_0
      have K694 : Keep h0 T694.heap [] := K690.trans K694q all0
      have z696 : n0 ≤ T694.heap.size := (Nat.le_trans z693 (own_ke K694q).1)
      obtain ⟨cl697, Ar697, -, Sz697, Nz697, Hs697, -⟩ := id q694_0
      obtain ⟨T698, L698, X698, e698, N698, st698⟩ := own_pS X694 hx hZ hml hown N694 (ow hw 122 rfl) (ow hw 123 rfl) (ow hw 36 rfl) (ow hw 124 rfl) rfl (rm28 l Z a0 hw [] b694_0 (1 : Int32) cl697 (6 : Int32) (own_lo c1) (own_hi c1) T694.heap n0 z696 Ar697 Sz697 Nz697 (inb_of Sz697 ⟨by decide, by decide⟩) (Has.at Hs697 (inb_of Sz697 ⟨by decide, by decide⟩) rfl) (inb_of Sz697 ⟨by decide, by decide⟩) (Has.at Hs697 (inb_of Sz697 ⟨by decide, by decide⟩) rfl) (R2.ext (f692.ext (own_ke K694q)).2) (R3.ext (f692.ext (own_ke K694q)).2) (R4.ext (f692.ext (own_ke K694q)).2)) (W := 0) (g := (mkF m 32 #[rv a1, iv 0, iv 3, rv b675, iv 1, rv b694_0] [(.int 1), (.ref b694_0)])) (argsL := [(.ref b694_0), (.int 1)]) (rest := []) (lenOf pd_4 rfl) (hb hby d9_32)
      have pre699 := own_go pre677 (T698.setTop (mkF m 56 #[rv a1, iv 0, iv 3, rv b675, iv 1, rv b694_0] [(.ref b694_0)])) fun t kt => by
        refine st690 _ ?_
        refine XS.istore X690.here hx rfl (hb hby d9_12) rfl (l' := #[rv a1, iv 0, iv 3, rv b675, iv 1, .unset]) rfl ?_
        refine XS.iload X690.here hx rfl (hb hby d9_14) rfl ?_
        refine XS.iloadN X690.here hx rfl (hb hby d9_16) rfl ?_
        refine XS.icmpNo X690.here hx rfl (hb hby d9_17) rfl (feq (by decide : ¬ ((1 : Int32) = (3 : Int32)))).1 ?_
        refine XS.aloadN X690.here hx rfl (hb hby d9_20) rfl rfl ?_
        refine XS.iloadN X690.here hx rfl (hb hby d9_21) rfl ?_
        refine XS.iloadN X690.here hx rfl (hb hby d9_22) rfl ?_
        refine st694 _ ?_
        refine XS.astore X694.here hx rfl (hb hby d9_26) rfl rfl (l' := #[rv a1, iv 0, iv 3, rv b675, iv 1, rv b694_0]) rfl ?_
        refine XS.aload X694.here hx rfl (hb hby d9_28) rfl rfl ?_
        refine XS.iload X694.here hx rfl (hb hby d9_30) rfl ?_
        refine st698 _ ?_
        refine XS.sipush X698.here hx rfl (hb hby d9_35) ?_
        refine XS.icmpYes X698.here hx rfl (pc0 := 38) (pc' := 54) rfl (hb hby d9_38) rfl (tlt ((by rw [own_rtU hr1]; exact hk689) : (255 : Int32) < (own_gc (own_lo c1) (own_hi c1)))).2.2.1 (by decide) (by decide) ?_
        refine XS.aload X698.here hx rfl (hb hby d9_54) rfl rfl ?_
        exact kt
      refine own_lv X698 Bd.notSynchronized (v := some (.ref b694_0)) (own_nv Bd.returns) pre699 (fun fs hr => retOut X698 hx Bd.returns (own_nref _ rfl) (Or.inr (Or.inr (Or.inr (Or.inr ⟨rfl, rfl, rfl⟩)))) (hb hby d9_56) hr) ?_
      show Q9_3U Z a1 kc c0 c1 c2 h0 n0 _ T698.heap _
      rw [e698]
      exact ⟨b694_0, kk694_0, rfl, N698, K694, g_b694_0, sz_b694_0, q694_0⟩
    · by_cases hk700 : (255 : Int32) < c2
      · obtain ⟨_, T701, L701, X701, hQ701, st701⟩ := own_cS X675 hx hZ hml hown (ow hw 39 rfl) (ow hw 40 rfl) (ow hw 36 rfl) (ow hw 41 rfl) e675 (rm10_3U2 l Z a0 hw [] a1 b675 kc k675 c0 c1 c2 h675 n0 (Nat.le_trans Z0 E675.1) (P0.ext E675) V675 ne676 g_b675 hk678 hk689 hk700) (W := 0) (g := (mkF m 9 #[rv a1, iv 0, iv 3, rv b675, .unset, .unset] [(.int 3), (.int 0), (.ref b675), (.int 0), (.ref a1)])) (argsL := [(.ref a1), (.int 0), (.ref b675), (.int 0), (.int 3)]) (rest := []) (lenOf pd_11 rfl) (hb hby d9_9)
        obtain ⟨rfl, N701q, K701q⟩ := hQ701
        have N701 := Fr.app N0 N701q
        have K701 : Keep h0 T701.heap [] := K675.trans K701q (allS (Or.inr sz_b675) all0)
        have f702 := ((P0.ext E675).keep K701q (ninS ne676 nin0))
        have f703 := ((P1.ext E675).keep K701q (allS g_b675 all0))
        have z704 : n0 ≤ T701.heap.size := (Nat.le_trans (Nat.le_trans Z0 E675.1) K701q.1)
        obtain ⟨_, T705, L705, X705, hQ705, st705⟩ := own_cS X701 hx hZ hml hown (ow hw 106 rfl) (ow hw 107 rfl) (ow hw 36 rfl) (ow hw 108 rfl) rfl (rm24_3 l Z a0 hw [] a1 kc c0 c1 c2 T701.heap n0 z704 f702 f703 R2 R3 R4) (W := 0) (g := (mkF m 23 #[rv a1, iv 0, iv 3, rv b675, iv 2, .unset] [(.int 3), (.int 0), (.ref a1)])) (argsL := [(.ref a1), (.int 0), (.int 3)]) (rest := []) (lenOf pd_12 rfl) (hb hby d9_23)
        obtain ⟨b705_0, kk705_0, rfl, N705q, K705q, ga705_0, gz705_0, q705_0⟩ := hQ705
        have N705 := Fr.app N701 N705q
        have ne706 : a1 ≠ b705_0 := Nat.ne_of_lt (Nat.lt_of_lt_of_le f702.lt gz705_0)
        have g_b705_0 : n0 ≤ b705_0 := ga705_0
        have sz_b705_0 : h0.size ≤ b705_0 := Nat.le_trans K701.1 gz705_0
        have K705 : Keep h0 T705.heap [] := K701.trans K705q all0
        have z707 : n0 ≤ T705.heap.size := (Nat.le_trans z704 (own_ke K705q).1)
        obtain ⟨cl708, Ar708, -, Sz708, Nz708, Hs708, -⟩ := id q705_0
        obtain ⟨T709, L709, X709, e709, N709, st709⟩ := own_pS X705 hx hZ hml hown N705 (ow hw 122 rfl) (ow hw 123 rfl) (ow hw 36 rfl) (ow hw 124 rfl) rfl (rm28 l Z a0 hw [] b705_0 (2 : Int32) cl708 (6 : Int32) (own_lo c2) (own_hi c2) T705.heap n0 z707 Ar708 Sz708 Nz708 (inb_of Sz708 ⟨by decide, by decide⟩) (Has.at Hs708 (inb_of Sz708 ⟨by decide, by decide⟩) rfl) (inb_of Sz708 ⟨by decide, by decide⟩) (Has.at Hs708 (inb_of Sz708 ⟨by decide, by decide⟩) rfl) (R2.ext (f703.ext (own_ke K705q)).2) (R3.ext (f703.ext (own_ke K705q)).2) (R4.ext (f703.ext (own_ke K705q)).2)) (W := 0) (g := (mkF m 32 #[rv a1, iv 0, iv 3, rv b675, iv 2, rv b705_0] [(.int 2), (.ref b705_0)])) (argsL := [(.ref b705_0), (.int 2)]) (rest := []) (lenOf pd_4 rfl) (hb hby d9_32)
        have pre710 := own_go pre677 (T709.setTop (mkF m 56 #[rv a1, iv 0, iv 3, rv b675, iv 2, rv b705_0] [(.ref b705_0)])) fun t kt => by
          refine st701 _ ?_
          refine XS.istore X701.here hx rfl (hb hby d9_12) rfl (l' := #[rv a1, iv 0, iv 3, rv b675, iv 2, .unset]) rfl ?_
          refine XS.iload X701.here hx rfl (hb hby d9_14) rfl ?_
          refine XS.iloadN X701.here hx rfl (hb hby d9_16) rfl ?_
          refine XS.icmpNo X701.here hx rfl (hb hby d9_17) rfl (feq (by decide : ¬ ((2 : Int32) = (3 : Int32)))).1 ?_
          refine XS.aloadN X701.here hx rfl (hb hby d9_20) rfl rfl ?_
          refine XS.iloadN X701.here hx rfl (hb hby d9_21) rfl ?_
          refine XS.iloadN X701.here hx rfl (hb hby d9_22) rfl ?_
          refine st705 _ ?_
          refine XS.astore X705.here hx rfl (hb hby d9_26) rfl rfl (l' := #[rv a1, iv 0, iv 3, rv b675, iv 2, rv b705_0]) rfl ?_
          refine XS.aload X705.here hx rfl (hb hby d9_28) rfl rfl ?_
          refine XS.iload X705.here hx rfl (hb hby d9_30) rfl ?_
          refine st709 _ ?_
          refine XS.sipush X709.here hx rfl (hb hby d9_35) ?_
          refine XS.icmpYes X709.here hx rfl (pc0 := 38) (pc' := 54) rfl (hb hby d9_38) rfl (tlt ((by rw [own_rtU hr2]; exact hk700) : (255 : Int32) < (own_gc (own_lo c2) (own_hi c2)))).2.2.1 (by decide) (by decide) ?_
          refine XS.aload X709.here hx rfl (hb hby d9_54) rfl rfl ?_
          exact kt
        refine own_lv X709 Bd.notSynchronized (v := some (.ref b705_0)) (own_nv Bd.returns) pre710 (fun fs hr => retOut X709 hx Bd.returns (own_nref _ rfl) (Or.inr (Or.inr (Or.inr (Or.inr ⟨rfl, rfl, rfl⟩)))) (hb hby d9_56) hr) ?_
        show Q9_3U Z a1 kc c0 c1 c2 h0 n0 _ T709.heap _
        rw [e709]
        exact ⟨b705_0, kk705_0, rfl, N709, K705, g_b705_0, sz_b705_0, q705_0⟩
      · exact absurd hU (by simp [hk678, hk689, hk700])
theorem ef_11_3U (m : MethodId) (x0 : Addr) : entryFrame m #[(.ref x0), (.int 3)] 2 = mkF m 0 #[.val (.ref x0), .val (.int 3)] [] := by first | (simp [entryFrame, mkF, argsToLocals, Value.category]; done) | rfl
def Q11_3U (Z : State) (a1 : Addr) (kb : ClassId) (y0 : Int32) (y1 : Int32) (y2 : Int32) (y3 : Int32) (y4 : Int32) (y5 : Int32) (h0 : Heap) (n0 : Nat) (v : Option Value) (h : Heap) (L : List Loc) : Prop := v = some (.int 1) ∧ Fr n0 L ∧ h = h0
theorem rm11_3U (l : Launch) (Z : State) (a0 : Array Value) (hw : own_H a0 Z) (ws : List Jvm.Cond) (a1 : Addr) (kb : ClassId) (y0 : Int32) (y1 : Int32) (y2 : Int32) (y3 : Int32) (y4 : Int32) (y5 : Int32) (h0 : Heap) (n0 : Nat) (Z0 : n0 ≤ h0.size) (P0 : Arv Z h0 a1 kb .byte (6 : Int32) [(.int y0), (.int y1), (.int y2), (.int y3), (.int y4), (.int y5)] (.int (0 : Int32))) :
    own_M l Z (⟨"java/lang/StringUTF16", "coderFromArrayLen", "([BI)B"⟩ : MethodName) jdk_52_method_15_code 2 (some .byte) ws ({ frames := 0, cells := 0, slots := 0, locals := 0 } : Room) #[(.ref a1), (.int 3)] h0 (Q11_3U Z a1 kb y0 y1 y2 y3 y4 y5 h0 n0) := by
  refine own_bd (n0 := n0) (plainFor_of_name pn_11) fun p e s m below meth c s₁ Bd hZ hx hby hml hown X0 e0 N0 => ?_
  have pre0 := own_p0 (tb := p.tables) (e := e) (below := below) (s := s₁) (ef_11_3U m a1)
  obtain ⟨cl711, Ar711, -, Sz711, Nz711, -, -⟩ := id P0
  have pre712 := own_go pre0 (s₁.setTop (mkF m 8 #[rv a1, iv 3] [(.int 1)])) fun t kt => by
    refine XS.iloadN X0.here hx rfl (hb hby d11_0) rfl ?_
    refine XS.aloadN X0.here hx rfl (hb hby d11_1) rfl rfl ?_
    refine X0.arraylength hx (by rw [e0]; exact Ar711.1) (State.isArrayOf_alike hZ.alike Ar711.2.1) (g := (mkF m 2 #[rv a1, iv 3] [(.ref a1), (.int 3)])) rfl rfl (hb hby d11_2) _ ?_
    rw [len_of Sz711 Nz711]
    refine XS.isub X0.here hx rfl (hb hby d11_3) rfl ?_
    refine XS.bipush X0.here hx rfl (hb hby d11_4) ?_
    refine XS.iushr X0.here hx rfl (hb hby d11_6) rfl ?_
    refine XS.i2b X0.here hx rfl (hb hby d11_7) rfl ?_
    exact kt
  refine own_lv X0 Bd.notSynchronized (v := some (.int 1)) (own_nv Bd.returns) pre712 (fun fs hr => retN X0 hx (t := .byte) Bd.returns (by simp) (hb hby d11_8) hr) ?_
  show Q11_3U Z a1 kb y0 y1 y2 y3 y4 y5 h0 n0 _ s₁.heap _
  rw [e0]
  exact ⟨rfl, N0, rfl⟩
theorem ef_7_3U (m : MethodId) (x0 : Addr) (x1 : Addr) : entryFrame m #[(.ref x0), (.ref x1), (.int 0), (.int 3), .null] 6 = mkF m 0 #[.val (.ref x0), .val (.ref x1), .val (.int 0), .val (.int 3), .val .null, .unset] [] := by first | (simp [entryFrame, mkF, argsToLocals, Value.category]; done) | rfl
def Q7_3U (Z : State) (a1 : Addr) (a2 : Addr) (kc : ClassId) (c0 : Int32) (c1 : Int32) (c2 : Int32) (cs : Int32) (h0 : Heap) (n0 : Nat) (v : Option Value) (h : Heap) (L : List Loc) : Prop := ∃ (x1 : Addr) (kx1 : ClassId), v = none ∧ Fr n0 L ∧ Keep h0 h [a1] ∧ n0 ≤ x1 ∧ h0.size ≤ x1 ∧ Exa Z h a1 "java/lang/String" ∧ Fld Z h a1 "java/lang/String" "value" "[B" (.ref x1) ∧ Fld Z h a1 "java/lang/String" "coder" "B" (.int 1) ∧ Arv Z h x1 kx1 .byte (6 : Int32) [(.int (own_lo c0)), (.int (own_hi c0)), (.int (own_lo c1)), (.int (own_hi c1)), (.int (own_lo c2)), (.int (own_hi c2))] (.int (0 : Int32))
theorem rm7_3U (l : Launch) (Z : State) (a0 : Array Value) (hw : own_H a0 Z) (ws : List Jvm.Cond) (a1 : Addr) (a2 : Addr) (kc : ClassId) (c0 : Int32) (c1 : Int32) (c2 : Int32) (cs : Int32) (h0 : Heap) (n0 : Nat) (Z0 : n0 ≤ h0.size) (P0 : Exa Z h0 a1 "java/lang/String") (P1 : Fld Z h0 a1 "java/lang/String" "value" "[B" .null) (P2 : Fld Z h0 a1 "java/lang/String" "coder" "B" (.int 0)) (P3 : Arv Z h0 a2 kc .char (3 : Int32) [(.int c0), (.int c1), (.int c2)] (.int (0 : Int32))) (P4 : Old Z n0 h0) (R5 : own_SC Z Z.heap cs) (R6 : Sta Z Z.heap "java/lang/StringUTF16" "$assertionsDisabled" "Z" (.int 1)) (R7 : Sta Z Z.heap "java/lang/StringUTF16" "HI_BYTE_SHIFT" "I" (.int 0)) (R8 : Sta Z Z.heap "java/lang/StringUTF16" "LO_BYTE_SHIFT" "I" (.int 8)) (ne_a2_a1 : a2 ≠ a1) (g_a1 : n0 ≤ a1) (hcs : ¬ cs = (0 : Int32)) (hU : (255 : Int32) < c0 ∨ (255 : Int32) < c1 ∨ (255 : Int32) < c2) (hr0 : ¬ c0 < (0 : Int32) ∧ ¬ (65535 : Int32) < c0) (hr1 : ¬ c1 < (0 : Int32) ∧ ¬ (65535 : Int32) < c1) (hr2 : ¬ c2 < (0 : Int32) ∧ ¬ (65535 : Int32) < c2) :
    own_M l Z (⟨"java/lang/String", "<init>", "([CIILjava/lang/Void;)V"⟩ : MethodName) jdk_42_method_149_code 6 none ws ({ frames := 4, cells := 2, slots := 9, locals := 57 } : Room) #[(.ref a1), (.ref a2), (.int 0), (.int 3), .null] h0 (Q7_3U Z a1 a2 kc c0 c1 c2 cs h0 n0) := by
  refine own_bd (n0 := n0) (plainFor_of_name pn_7) fun p e s m below meth c s₁ Bd hZ hx hby hml hown X0 e0 N0 => ?_
  have hnm := (name_of_methodNamed Bd.named Bd.method).1
  have pre0 := own_p0 (tb := p.tables) (e := e) (below := below) (s := s₁) (ef_7_3U m a1 a2)
  obtain ⟨T713, X713, e713, st713⟩ := initO X0 hx hZ hown (ow hw 30 rfl) (ow hw 31 rfl) (ow hw 32 rfl) e0 (g := (mkF m 1 #[rv a1, rv a2, iv 0, iv 3, .val .null, .unset] [(.ref a1)])) rfl (by rw [hml]; rfl) rfl (hb hby d7_1) (by decide) (W := 0) (by show 2 * 0 + _ ≤ _; exact Nat.le_of_eq rfl) (by decide)
  obtain ⟨T714, X714, e714, st714⟩ := getS2 X713 hx hZ hown (host := "") (Or.inl (ow hw 33 rfl)) Via.refl e713 (R5.ext P4.2) (g := (mkF m 27 #[rv a1, rv a2, iv 0, iv 3, .val .null, .unset] [])) rfl (hb hby d7_27)
  obtain ⟨_, T715, L715, X715, hQ715, st715⟩ := own_cS X714 hx hZ hml hown (ow hw 34 rfl) (ow hw 35 rfl) (ow hw 36 rfl) (ow hw 37 rfl) e714 (rm9_3U l Z a0 hw [] a2 kc c0 c1 c2 h0 n0 Z0 P3 P4 R6 R7 R8 hU hr0 hr1 hr2) (W := 0) (g := (mkF m 36 #[rv a1, rv a2, iv 0, iv 3, .val .null, .unset] [(.int 3), (.int 0), (.ref a2)])) (argsL := [(.ref a2), (.int 0), (.int 3)]) (rest := []) (lenOf pd_12 rfl) (hb hby d7_36)
  obtain ⟨b715_0, kk715_0, rfl, N715q, K715q, ga715_0, gz715_0, q715_0⟩ := hQ715
  have N715 := Fr.app N0 N715q
  have ne716 : a1 ≠ b715_0 := Nat.ne_of_lt (Nat.lt_of_lt_of_le P0.lt gz715_0)
  have ne717 : a2 ≠ b715_0 := Nat.ne_of_lt (Nat.lt_of_lt_of_le P3.lt gz715_0)
  have g_b715_0 : n0 ≤ b715_0 := ga715_0
  have sz_b715_0 : h0.size ≤ b715_0 := Nat.le_trans (Keep.refl h0 [a1]).1 gz715_0
  have K715 : Keep h0 T715.heap [a1] := (Keep.refl h0 [a1]).trans K715q all0
  have z718 : n0 ≤ T715.heap.size := (Nat.le_trans Z0 (own_ke K715q).1)
  obtain ⟨T719, L719, X719, e719, N719, st719⟩ := own_pS X715 hx hZ hml hown N715 (ow hw 42 rfl) (ow hw 43 rfl) (ow hw 36 rfl) (ow hw 44 rfl) rfl (rm11_3U l Z a0 hw [] b715_0 kk715_0 (own_lo c0) (own_hi c0) (own_lo c1) (own_hi c1) (own_lo c2) (own_hi c2) T715.heap n0 z718 q715_0) (W := 1) (g := (mkF m 45 #[rv a1, rv a2, iv 0, iv 3, .val .null, rv b715_0] [(.int 3), (.ref b715_0), (.ref a1)])) (argsL := [(.ref b715_0), (.int 3)]) (rest := [(.ref a1)]) (lenOf pd_13 rfl) (hb hby d7_45)
  obtain ⟨T720, h720, X720, e720, W720, st720⟩ := putFN X719 hx hZ hown (ow hw 45 rfl) Via.refl e719 (P2.ext (own_ke K715q)) (P0.ext (own_ke K715q)) (Or.inr ⟨(ow hw 46 rfl), rfl, hnm⟩) (ow hw 21 rfl) (ty := .byte) (v' := (.int (nar .byte (1 : Int32)))) (by decide) rfl (fits_nar_byte _) (g := (mkF m 48 #[rv a1, rv a2, iv 0, iv 3, .val .null, rv b715_0] [(.int 1), (.ref a1)])) rfl rfl (hb hby d7_48)
  have W720' : Wr T715.heap h720 a1 _ (.int 1) := W720
  have N720 := Fr.snoc X720 N719 g_a1
  have K720 : Keep h0 h720 [a1] := K715.wr W720' (Or.inl (by simp))
  have f721 := ((P0.ext (own_ke K715q)).wr W720')
  have f722 := ((P1.ext (own_ke K715q)).other W720' (Or.inr (slot_ne (Or.inr (ow hw 48 rfl)) (Or.inr (ow hw 46 rfl)) (by decide) (t := (.array .byte)) (t' := .byte) (by decide) (by decide))))
  have f723 := ((P3.ext (own_ke K715q)).other W720' ne_a2_a1)
  have f724 := ((P4.ext (own_ke K715q)).wr W720' g_a1)
  have f725 := (q715_0.other W720' (Ne.symm ne716))
  have f726 := ((P2.ext (own_ke K715q)).same W720')
  have z727 : n0 ≤ h720.size := (Nat.le_trans z718 (Keep.of_wr W720').1)
  obtain ⟨T728, h728, X728, e728, W728, st728⟩ := putF X720 hx hZ hown (host := "") (Or.inl (ow hw 47 rfl)) Via.refl e720 f722 f721 (Or.inr ⟨(ow hw 48 rfl), rfl, hnm⟩) (ow hw 21 rfl) (ty := (.array .byte)) (by decide) rfl rfl (g := (mkF m 54 #[rv a1, rv a2, iv 0, iv 3, .val .null, rv b715_0] [(.ref b715_0), (.ref a1)])) rfl rfl (hb hby d7_54)
  have N728 := Fr.snoc X728 N720 g_a1
  have K728 : Keep h0 h728 [a1] := K720.wr W728 (Or.inl (by simp))
  have f729 := (f725.other W728 (Ne.symm ne716))
  have f730 := (f726.other W728 (Or.inr (slot_ne (Or.inr (ow hw 46 rfl)) (Or.inr (ow hw 48 rfl)) (by decide) (t := .byte) (t' := (.array .byte)) (by decide) (by decide))))
  have z731 : n0 ≤ h728.size := (Nat.le_trans z727 (Keep.of_wr W728).1)
  have pre732 := own_go pre0 (T728.setTop (mkF m 57 #[rv a1, rv a2, iv 0, iv 3, .val .null, rv b715_0] [])) fun t kt => by
    refine XS.aloadN X0.here hx rfl (hb hby d7_0) rfl rfl ?_
    refine st713 _ ?_
    refine XS.iloadN X713.here hx rfl (hb hby d7_4) rfl ?_
    refine XS.ifYes X713.here hx rfl (pc0 := 5) (pc' := 27) rfl (hb hby d7_5) rfl ((if0 _ _).trans (feq (by decide : ¬ ((3 : Int32) = (0 : Int32)))).2) (by decide) (by decide) ?_
    refine st714 _ ?_
    refine XS.ifNo X714.here hx rfl (hb hby d7_30) rfl ((if0 _ _).trans (feq (hcs : ¬ (cs = (0 : Int32)))).1) ?_
    refine XS.aloadN X714.here hx rfl (hb hby d7_33) rfl rfl ?_
    refine XS.iloadN X714.here hx rfl (hb hby d7_34) rfl ?_
    refine XS.iloadN X714.here hx rfl (hb hby d7_35) rfl ?_
    refine st715 _ ?_
    refine XS.astore X715.here hx rfl (hb hby d7_39) rfl rfl (l' := #[rv a1, rv a2, iv 0, iv 3, .val .null, rv b715_0]) rfl ?_
    refine XS.aloadN X715.here hx rfl (hb hby d7_41) rfl rfl ?_
    refine XS.aload X715.here hx rfl (hb hby d7_42) rfl rfl ?_
    refine XS.iloadN X715.here hx rfl (hb hby d7_44) rfl ?_
    refine st719 _ ?_
    refine st720 _ ?_
    refine XS.aloadN X720.here hx rfl (hb hby d7_51) rfl rfl ?_
    refine XS.aload X720.here hx rfl (hb hby d7_52) rfl rfl ?_
    refine st728 _ ?_
    exact kt
  refine own_lv X728 Bd.notSynchronized (v := none) (fun _ => rfl) pre732 (fun fs hr => X728.returnOut hx Bd.returns (hb hby d7_57) hr) ?_
  show Q7_3U Z a1 a2 kc c0 c1 c2 cs h0 n0 _ T728.heap _
  rw [e728]
  exact ⟨b715_0, kk715_0, rfl, N728, K728, g_b715_0, sz_b715_0, (f721.wr W728), (f722.same W728), f730, f729⟩
def Q6_3U (Z : State) (a1 : Addr) (a2 : Addr) (kc : ClassId) (c0 : Int32) (c1 : Int32) (c2 : Int32) (cs : Int32) (h0 : Heap) (n0 : Nat) (v : Option Value) (h : Heap) (L : List Loc) : Prop := ∃ (x1 : Addr) (kx1 : ClassId), v = none ∧ Fr n0 L ∧ Keep h0 h [a1] ∧ n0 ≤ x1 ∧ h0.size ≤ x1 ∧ Exa Z h a1 "java/lang/String" ∧ Fld Z h a1 "java/lang/String" "value" "[B" (.ref x1) ∧ Fld Z h a1 "java/lang/String" "coder" "B" (.int 1) ∧ Arv Z h x1 kx1 .byte (6 : Int32) [(.int (own_lo c0)), (.int (own_hi c0)), (.int (own_lo c1)), (.int (own_hi c1)), (.int (own_lo c2)), (.int (own_hi c2))] (.int (0 : Int32))
theorem rm6_3U (l : Launch) (Z : State) (a0 : Array Value) (hw : own_H a0 Z) (ws : List Jvm.Cond) (a1 : Addr) (a2 : Addr) (kc : ClassId) (c0 : Int32) (c1 : Int32) (c2 : Int32) (cs : Int32) (h0 : Heap) (n0 : Nat) (Z0 : n0 ≤ h0.size) (P0 : Exa Z h0 a1 "java/lang/String") (P1 : Fld Z h0 a1 "java/lang/String" "value" "[B" .null) (P2 : Fld Z h0 a1 "java/lang/String" "coder" "B" (.int 0)) (P3 : Arv Z h0 a2 kc .char (3 : Int32) [(.int c0), (.int c1), (.int c2)] (.int (0 : Int32))) (P4 : Old Z n0 h0) (R5 : own_SC Z Z.heap cs) (R6 : Sta Z Z.heap "java/lang/StringUTF16" "$assertionsDisabled" "Z" (.int 1)) (R7 : Sta Z Z.heap "java/lang/StringUTF16" "HI_BYTE_SHIFT" "I" (.int 0)) (R8 : Sta Z Z.heap "java/lang/StringUTF16" "LO_BYTE_SHIFT" "I" (.int 8)) (ne_a2_a1 : a2 ≠ a1) (g_a1 : n0 ≤ a1) (hcs : ¬ cs = (0 : Int32)) (hU : (255 : Int32) < c0 ∨ (255 : Int32) < c1 ∨ (255 : Int32) < c2) (hr0 : ¬ c0 < (0 : Int32) ∧ ¬ (65535 : Int32) < c0) (hr1 : ¬ c1 < (0 : Int32) ∧ ¬ (65535 : Int32) < c1) (hr2 : ¬ c2 < (0 : Int32) ∧ ¬ (65535 : Int32) < c2) :
    own_M l Z (⟨"java/lang/String", "<init>", "([C)V"⟩ : MethodName) jdk_42_method_3_code 2 none ws ({ frames := 5, cells := 2, slots := 9, locals := 74 } : Room) #[(.ref a1), (.ref a2)] h0 (Q6_3U Z a1 a2 kc c0 c1 c2 cs h0 n0) := by
  refine own_bd (n0 := n0) (plainFor_of_name pn_6) fun p e s m below meth c s₁ Bd hZ hx hby hml hown X0 e0 N0 => ?_
  have pre0 := own_p0 (tb := p.tables) (e := e) (below := below) (s := s₁) (ef_6_1U m a1 a2)
  obtain ⟨cl733, Ar733, -, Sz733, Nz733, -, -⟩ := id P3
  obtain ⟨_, T734, L734, X734, hQ734, st734⟩ := own_cI X0 hx hZ hml hown rfl (ow hw 26 rfl) (ow hw 27 rfl) (ow hw 22 rfl) (ow hw 29 rfl) e0 (rm7_3U l Z a0 hw [] a1 a2 kc c0 c1 c2 cs h0 n0 Z0 P0 P1 P2 P3 P4 R5 R6 R7 R8 ne_a2_a1 g_a1 hcs hU hr0 hr1 hr2) (W := 0) (g := (mkF m 6 #[rv a1, rv a2] [.null, (.int 3), (.int 0), (.ref a2), (.ref a1)])) (argsL := [(.ref a2), (.int 0), (.int 3), .null]) (rest := []) (lenOf pd_14 rfl) (hb hby d6_6)
  obtain ⟨b734_0, kk734_0, rfl, N734q, K734q, ga734_0, gz734_0, q734_0, q734_1, q734_2, q734_3⟩ := hQ734
  have N734 := Fr.app N0 N734q
  have ne735 : a1 ≠ b734_0 := Nat.ne_of_lt (Nat.lt_of_lt_of_le P0.lt gz734_0)
  have ne736 : a2 ≠ b734_0 := Nat.ne_of_lt (Nat.lt_of_lt_of_le P3.lt gz734_0)
  have g_b734_0 : n0 ≤ b734_0 := ga734_0
  have sz_b734_0 : h0.size ≤ b734_0 := Nat.le_trans (Keep.refl h0 [a1]).1 gz734_0
  have K734 : Keep h0 T734.heap [a1] := (Keep.refl h0 [a1]).trans K734q (allS (Or.inl (by simp)) all0)
  have f737 := (P3.keep K734q (ninS ne_a2_a1 nin0))
  have f738 := (P4.keep K734q (allS g_a1 all0))
  have pre739 := own_go pre0 (T734.setTop (mkF m 9 #[rv a1, rv a2] [])) fun t kt => by
    refine XS.aloadN X0.here hx rfl (hb hby d6_0) rfl rfl ?_
    refine XS.aloadN X0.here hx rfl (hb hby d6_1) rfl rfl ?_
    refine XS.iconst X0.here hx rfl (hb hby d6_2) ?_
    refine XS.aloadN X0.here hx rfl (hb hby d6_3) rfl rfl ?_
    refine X0.arraylength hx (by rw [e0]; exact Ar733.1) (State.isArrayOf_alike hZ.alike Ar733.2.1) (g := (mkF m 4 #[rv a1, rv a2] [(.ref a2), (.int 0), (.ref a2), (.ref a1)])) rfl rfl (hb hby d6_4) _ ?_
    rw [len_of Sz733 Nz733]
    refine XS.aconstNull X0.here hx rfl (hb hby d6_5) ?_
    refine st734 _ ?_
    exact kt
  refine own_lv X734 Bd.notSynchronized (v := none) (fun _ => rfl) pre739 (fun fs hr => X734.returnOut hx Bd.returns (hb hby d6_9) hr) ?_
  show Q6_3U Z a1 a2 kc c0 c1 c2 cs h0 n0 _ T734.heap _
  exact ⟨b734_0, kk734_0, rfl, N734, K734, g_b734_0, sz_b734_0, q734_0, q734_1, q734_2, q734_3⟩
def Q11_3L (Z : State) (a1 : Addr) (kb : ClassId) (y0 : Int32) (y1 : Int32) (y2 : Int32) (h0 : Heap) (n0 : Nat) (v : Option Value) (h : Heap) (L : List Loc) : Prop := v = some (.int 0) ∧ Fr n0 L ∧ h = h0
theorem rm11_3L (l : Launch) (Z : State) (a0 : Array Value) (hw : own_H a0 Z) (ws : List Jvm.Cond) (a1 : Addr) (kb : ClassId) (y0 : Int32) (y1 : Int32) (y2 : Int32) (h0 : Heap) (n0 : Nat) (Z0 : n0 ≤ h0.size) (P0 : Arv Z h0 a1 kb .byte (3 : Int32) [(.int y0), (.int y1), (.int y2)] (.int (0 : Int32))) :
    own_M l Z (⟨"java/lang/StringUTF16", "coderFromArrayLen", "([BI)B"⟩ : MethodName) jdk_52_method_15_code 2 (some .byte) ws ({ frames := 0, cells := 0, slots := 0, locals := 0 } : Room) #[(.ref a1), (.int 3)] h0 (Q11_3L Z a1 kb y0 y1 y2 h0 n0) := by
  refine own_bd (n0 := n0) (plainFor_of_name pn_11) fun p e s m below meth c s₁ Bd hZ hx hby hml hown X0 e0 N0 => ?_
  have pre0 := own_p0 (tb := p.tables) (e := e) (below := below) (s := s₁) (ef_11_3U m a1)
  obtain ⟨cl740, Ar740, -, Sz740, Nz740, -, -⟩ := id P0
  have pre741 := own_go pre0 (s₁.setTop (mkF m 8 #[rv a1, iv 3] [(.int 0)])) fun t kt => by
    refine XS.iloadN X0.here hx rfl (hb hby d11_0) rfl ?_
    refine XS.aloadN X0.here hx rfl (hb hby d11_1) rfl rfl ?_
    refine X0.arraylength hx (by rw [e0]; exact Ar740.1) (State.isArrayOf_alike hZ.alike Ar740.2.1) (g := (mkF m 2 #[rv a1, iv 3] [(.ref a1), (.int 3)])) rfl rfl (hb hby d11_2) _ ?_
    rw [len_of Sz740 Nz740]
    refine XS.isub X0.here hx rfl (hb hby d11_3) rfl ?_
    refine XS.bipush X0.here hx rfl (hb hby d11_4) ?_
    refine XS.iushr X0.here hx rfl (hb hby d11_6) rfl ?_
    refine XS.i2b X0.here hx rfl (hb hby d11_7) rfl ?_
    exact kt
  refine own_lv X0 Bd.notSynchronized (v := some (.int 0)) (own_nv Bd.returns) pre741 (fun fs hr => retN X0 hx (t := .byte) Bd.returns (by simp) (hb hby d11_8) hr) ?_
  show Q11_3L Z a1 kb y0 y1 y2 h0 n0 _ s₁.heap _
  rw [e0]
  exact ⟨rfl, N0, rfl⟩
def Q7_3L (Z : State) (a1 : Addr) (a2 : Addr) (kc : ClassId) (c0 : Int32) (c1 : Int32) (c2 : Int32) (cs : Int32) (h0 : Heap) (n0 : Nat) (v : Option Value) (h : Heap) (L : List Loc) : Prop := ∃ (x1 : Addr) (kx1 : ClassId), v = none ∧ Fr n0 L ∧ Keep h0 h [a1] ∧ n0 ≤ x1 ∧ h0.size ≤ x1 ∧ Exa Z h a1 "java/lang/String" ∧ Fld Z h a1 "java/lang/String" "value" "[B" (.ref x1) ∧ Fld Z h a1 "java/lang/String" "coder" "B" (.int 0) ∧ Arv Z h x1 kx1 .byte (3 : Int32) [(.int (own_by c0)), (.int (own_by c1)), (.int (own_by c2))] (.int (0 : Int32))
theorem rm7_3L (l : Launch) (Z : State) (a0 : Array Value) (hw : own_H a0 Z) (ws : List Jvm.Cond) (a1 : Addr) (a2 : Addr) (kc : ClassId) (c0 : Int32) (c1 : Int32) (c2 : Int32) (cs : Int32) (h0 : Heap) (n0 : Nat) (Z0 : n0 ≤ h0.size) (P0 : Exa Z h0 a1 "java/lang/String") (P1 : Fld Z h0 a1 "java/lang/String" "value" "[B" .null) (P2 : Fld Z h0 a1 "java/lang/String" "coder" "B" (.int 0)) (P3 : Arv Z h0 a2 kc .char (3 : Int32) [(.int c0), (.int c1), (.int c2)] (.int (0 : Int32))) (P4 : Old Z n0 h0) (R5 : own_SC Z Z.heap cs) (ne_a2_a1 : a2 ≠ a1) (g_a1 : n0 ≤ a1) (hcs : ¬ cs = (0 : Int32)) (u0 : ¬ (255 : Int32) < c0) (u1 : ¬ (255 : Int32) < c1) (u2 : ¬ (255 : Int32) < c2) :
    own_M l Z (⟨"java/lang/String", "<init>", "([CIILjava/lang/Void;)V"⟩ : MethodName) jdk_42_method_149_code 6 none ws ({ frames := 2, cells := 1, slots := 3, locals := 35 } : Room) #[(.ref a1), (.ref a2), (.int 0), (.int 3), .null] h0 (Q7_3L Z a1 a2 kc c0 c1 c2 cs h0 n0) := by
  refine own_bd (n0 := n0) (plainFor_of_name pn_7) fun p e s m below meth c s₁ Bd hZ hx hby hml hown X0 e0 N0 => ?_
  have hnm := (name_of_methodNamed Bd.named Bd.method).1
  have pre0 := own_p0 (tb := p.tables) (e := e) (below := below) (s := s₁) (ef_7_3U m a1 a2)
  obtain ⟨T742, X742, e742, st742⟩ := initO X0 hx hZ hown (ow hw 30 rfl) (ow hw 31 rfl) (ow hw 32 rfl) e0 (g := (mkF m 1 #[rv a1, rv a2, iv 0, iv 3, .val .null, .unset] [(.ref a1)])) rfl (by rw [hml]; rfl) rfl (hb hby d7_1) (by decide) (W := 0) (by show 2 * 0 + _ ≤ _; exact Nat.le_of_eq rfl) (by decide)
  obtain ⟨T743, X743, e743, st743⟩ := getS2 X742 hx hZ hown (host := "") (Or.inl (ow hw 33 rfl)) Via.refl e742 (R5.ext P4.2) (g := (mkF m 27 #[rv a1, rv a2, iv 0, iv 3, .val .null, .unset] [])) rfl (hb hby d7_27)
  obtain ⟨_, T744, L744, X744, hQ744, st744⟩ := own_cS X743 hx hZ hml hown (ow hw 34 rfl) (ow hw 35 rfl) (ow hw 36 rfl) (ow hw 37 rfl) e743 (rm9_3L l Z a0 hw [] a2 kc c0 c1 c2 h0 n0 Z0 P3 u0 u1 u2) (W := 0) (g := (mkF m 36 #[rv a1, rv a2, iv 0, iv 3, .val .null, .unset] [(.int 3), (.int 0), (.ref a2)])) (argsL := [(.ref a2), (.int 0), (.int 3)]) (rest := []) (lenOf pd_12 rfl) (hb hby d7_36)
  obtain ⟨b744_0, kk744_0, rfl, N744q, K744q, ga744_0, gz744_0, q744_0⟩ := hQ744
  have N744 := Fr.app N0 N744q
  have ne745 : a1 ≠ b744_0 := Nat.ne_of_lt (Nat.lt_of_lt_of_le P0.lt gz744_0)
  have ne746 : a2 ≠ b744_0 := Nat.ne_of_lt (Nat.lt_of_lt_of_le P3.lt gz744_0)
  have g_b744_0 : n0 ≤ b744_0 := ga744_0
  have sz_b744_0 : h0.size ≤ b744_0 := Nat.le_trans (Keep.refl h0 [a1]).1 gz744_0
  have K744 : Keep h0 T744.heap [a1] := (Keep.refl h0 [a1]).trans K744q all0
  have z747 : n0 ≤ T744.heap.size := (Nat.le_trans Z0 (own_ke K744q).1)
  obtain ⟨T748, L748, X748, e748, N748, st748⟩ := own_pS X744 hx hZ hml hown N744 (ow hw 42 rfl) (ow hw 43 rfl) (ow hw 36 rfl) (ow hw 44 rfl) rfl (rm11_3L l Z a0 hw [] b744_0 kk744_0 (own_by c0) (own_by c1) (own_by c2) T744.heap n0 z747 q744_0) (W := 1) (g := (mkF m 45 #[rv a1, rv a2, iv 0, iv 3, .val .null, rv b744_0] [(.int 3), (.ref b744_0), (.ref a1)])) (argsL := [(.ref b744_0), (.int 3)]) (rest := [(.ref a1)]) (lenOf pd_13 rfl) (hb hby d7_45)
  obtain ⟨T749, h749, X749, e749, W749, st749⟩ := putFN X748 hx hZ hown (ow hw 45 rfl) Via.refl e748 (P2.ext (own_ke K744q)) (P0.ext (own_ke K744q)) (Or.inr ⟨(ow hw 46 rfl), rfl, hnm⟩) (ow hw 21 rfl) (ty := .byte) (v' := (.int (nar .byte (0 : Int32)))) (by decide) rfl (fits_nar_byte _) (g := (mkF m 48 #[rv a1, rv a2, iv 0, iv 3, .val .null, rv b744_0] [(.int 0), (.ref a1)])) rfl rfl (hb hby d7_48)
  have W749' : Wr T744.heap h749 a1 _ (.int 0) := W749
  have N749 := Fr.snoc X749 N748 g_a1
  have K749 : Keep h0 h749 [a1] := K744.wr W749' (Or.inl (by simp))
  have f750 := ((P0.ext (own_ke K744q)).wr W749')
  have f751 := ((P1.ext (own_ke K744q)).other W749' (Or.inr (slot_ne (Or.inr (ow hw 48 rfl)) (Or.inr (ow hw 46 rfl)) (by decide) (t := (.array .byte)) (t' := .byte) (by decide) (by decide))))
  have f752 := ((P3.ext (own_ke K744q)).other W749' ne_a2_a1)
  have f753 := ((P4.ext (own_ke K744q)).wr W749' g_a1)
  have f754 := (q744_0.other W749' (Ne.symm ne745))
  have f755 := ((P2.ext (own_ke K744q)).same W749')
  have z756 : n0 ≤ h749.size := (Nat.le_trans z747 (Keep.of_wr W749').1)
  obtain ⟨T757, h757, X757, e757, W757, st757⟩ := putF X749 hx hZ hown (host := "") (Or.inl (ow hw 47 rfl)) Via.refl e749 f751 f750 (Or.inr ⟨(ow hw 48 rfl), rfl, hnm⟩) (ow hw 21 rfl) (ty := (.array .byte)) (by decide) rfl rfl (g := (mkF m 54 #[rv a1, rv a2, iv 0, iv 3, .val .null, rv b744_0] [(.ref b744_0), (.ref a1)])) rfl rfl (hb hby d7_54)
  have N757 := Fr.snoc X757 N749 g_a1
  have K757 : Keep h0 h757 [a1] := K749.wr W757 (Or.inl (by simp))
  have f758 := (f754.other W757 (Ne.symm ne745))
  have f759 := (f755.other W757 (Or.inr (slot_ne (Or.inr (ow hw 46 rfl)) (Or.inr (ow hw 48 rfl)) (by decide) (t := .byte) (t' := (.array .byte)) (by decide) (by decide))))
  have z760 : n0 ≤ h757.size := (Nat.le_trans z756 (Keep.of_wr W757).1)
  have pre761 := own_go pre0 (T757.setTop (mkF m 57 #[rv a1, rv a2, iv 0, iv 3, .val .null, rv b744_0] [])) fun t kt => by
    refine XS.aloadN X0.here hx rfl (hb hby d7_0) rfl rfl ?_
    refine st742 _ ?_
    refine XS.iloadN X742.here hx rfl (hb hby d7_4) rfl ?_
    refine XS.ifYes X742.here hx rfl (pc0 := 5) (pc' := 27) rfl (hb hby d7_5) rfl ((if0 _ _).trans (feq (by decide : ¬ ((3 : Int32) = (0 : Int32)))).2) (by decide) (by decide) ?_
    refine st743 _ ?_
    refine XS.ifNo X743.here hx rfl (hb hby d7_30) rfl ((if0 _ _).trans (feq (hcs : ¬ (cs = (0 : Int32)))).1) ?_
    refine XS.aloadN X743.here hx rfl (hb hby d7_33) rfl rfl ?_
    refine XS.iloadN X743.here hx rfl (hb hby d7_34) rfl ?_
    refine XS.iloadN X743.here hx rfl (hb hby d7_35) rfl ?_
    refine st744 _ ?_
    refine XS.astore X744.here hx rfl (hb hby d7_39) rfl rfl (l' := #[rv a1, rv a2, iv 0, iv 3, .val .null, rv b744_0]) rfl ?_
    refine XS.aloadN X744.here hx rfl (hb hby d7_41) rfl rfl ?_
    refine XS.aload X744.here hx rfl (hb hby d7_42) rfl rfl ?_
    refine XS.iloadN X744.here hx rfl (hb hby d7_44) rfl ?_
    refine st748 _ ?_
    refine st749 _ ?_
    refine XS.aloadN X749.here hx rfl (hb hby d7_51) rfl rfl ?_
    refine XS.aload X749.here hx rfl (hb hby d7_52) rfl rfl ?_
    refine st757 _ ?_
    exact kt
  refine own_lv X757 Bd.notSynchronized (v := none) (fun _ => rfl) pre761 (fun fs hr => X757.returnOut hx Bd.returns (hb hby d7_57) hr) ?_
  show Q7_3L Z a1 a2 kc c0 c1 c2 cs h0 n0 _ T757.heap _
  rw [e757]
  exact ⟨b744_0, kk744_0, rfl, N757, K757, g_b744_0, sz_b744_0, (f750.wr W757), (f751.same W757), f759, f758⟩
def Q6_3L (Z : State) (a1 : Addr) (a2 : Addr) (kc : ClassId) (c0 : Int32) (c1 : Int32) (c2 : Int32) (cs : Int32) (h0 : Heap) (n0 : Nat) (v : Option Value) (h : Heap) (L : List Loc) : Prop := ∃ (x1 : Addr) (kx1 : ClassId), v = none ∧ Fr n0 L ∧ Keep h0 h [a1] ∧ n0 ≤ x1 ∧ h0.size ≤ x1 ∧ Exa Z h a1 "java/lang/String" ∧ Fld Z h a1 "java/lang/String" "value" "[B" (.ref x1) ∧ Fld Z h a1 "java/lang/String" "coder" "B" (.int 0) ∧ Arv Z h x1 kx1 .byte (3 : Int32) [(.int (own_by c0)), (.int (own_by c1)), (.int (own_by c2))] (.int (0 : Int32))
theorem rm6_3L (l : Launch) (Z : State) (a0 : Array Value) (hw : own_H a0 Z) (ws : List Jvm.Cond) (a1 : Addr) (a2 : Addr) (kc : ClassId) (c0 : Int32) (c1 : Int32) (c2 : Int32) (cs : Int32) (h0 : Heap) (n0 : Nat) (Z0 : n0 ≤ h0.size) (P0 : Exa Z h0 a1 "java/lang/String") (P1 : Fld Z h0 a1 "java/lang/String" "value" "[B" .null) (P2 : Fld Z h0 a1 "java/lang/String" "coder" "B" (.int 0)) (P3 : Arv Z h0 a2 kc .char (3 : Int32) [(.int c0), (.int c1), (.int c2)] (.int (0 : Int32))) (P4 : Old Z n0 h0) (R5 : own_SC Z Z.heap cs) (ne_a2_a1 : a2 ≠ a1) (g_a1 : n0 ≤ a1) (hcs : ¬ cs = (0 : Int32)) (u0 : ¬ (255 : Int32) < c0) (u1 : ¬ (255 : Int32) < c1) (u2 : ¬ (255 : Int32) < c2) :
    own_M l Z (⟨"java/lang/String", "<init>", "([C)V"⟩ : MethodName) jdk_42_method_3_code 2 none ws ({ frames := 5, cells := 2, slots := 9, locals := 74 } : Room) #[(.ref a1), (.ref a2)] h0 (Q6_3L Z a1 a2 kc c0 c1 c2 cs h0 n0) := by
  refine own_bd (n0 := n0) (plainFor_of_name pn_6) fun p e s m below meth c s₁ Bd hZ hx hby hml hown X0 e0 N0 => ?_
  have pre0 := own_p0 (tb := p.tables) (e := e) (below := below) (s := s₁) (ef_6_1U m a1 a2)
  obtain ⟨cl762, Ar762, -, Sz762, Nz762, -, -⟩ := id P3
  obtain ⟨_, T763, L763, X763, hQ763, st763⟩ := own_cI X0 hx hZ hml hown rfl (ow hw 26 rfl) (ow hw 27 rfl) (ow hw 22 rfl) (ow hw 29 rfl) e0 (rm7_3L l Z a0 hw [] a1 a2 kc c0 c1 c2 cs h0 n0 Z0 P0 P1 P2 P3 P4 R5 ne_a2_a1 g_a1 hcs u0 u1 u2) (W := 0) (g := (mkF m 6 #[rv a1, rv a2] [.null, (.int 3), (.int 0), (.ref a2), (.ref a1)])) (argsL := [(.ref a2), (.int 0), (.int 3), .null]) (rest := []) (lenOf pd_14 rfl) (hb hby d6_6)
  obtain ⟨b763_0, kk763_0, rfl, N763q, K763q, ga763_0, gz763_0, q763_0, q763_1, q763_2, q763_3⟩ := hQ763
  have N763 := Fr.app N0 N763q
  have ne764 : a1 ≠ b763_0 := Nat.ne_of_lt (Nat.lt_of_lt_of_le P0.lt gz763_0)
  have ne765 : a2 ≠ b763_0 := Nat.ne_of_lt (Nat.lt_of_lt_of_le P3.lt gz763_0)
  have g_b763_0 : n0 ≤ b763_0 := ga763_0
  have sz_b763_0 : h0.size ≤ b763_0 := Nat.le_trans (Keep.refl h0 [a1]).1 gz763_0
  have K763 : Keep h0 T763.heap [a1] := (Keep.refl h0 [a1]).trans K763q (allS (Or.inl (by simp)) all0)
  have f766 := (P3.keep K763q (ninS ne_a2_a1 nin0))
  have f767 := (P4.keep K763q (allS g_a1 all0))
  have pre768 := own_go pre0 (T763.setTop (mkF m 9 #[rv a1, rv a2] [])) fun t kt => by
    refine XS.aloadN X0.here hx rfl (hb hby d6_0) rfl rfl ?_
    refine XS.aloadN X0.here hx rfl (hb hby d6_1) rfl rfl ?_
    refine XS.iconst X0.here hx rfl (hb hby d6_2) ?_
    refine XS.aloadN X0.here hx rfl (hb hby d6_3) rfl rfl ?_
    refine X0.arraylength hx (by rw [e0]; exact Ar762.1) (State.isArrayOf_alike hZ.alike Ar762.2.1) (g := (mkF m 4 #[rv a1, rv a2] [(.ref a2), (.int 0), (.ref a2), (.ref a1)])) rfl rfl (hb hby d6_4) _ ?_
    rw [len_of Sz762 Nz762]
    refine XS.aconstNull X0.here hx rfl (hb hby d6_5) ?_
    refine st763 _ ?_
    exact kt
  refine own_lv X763 Bd.notSynchronized (v := none) (fun _ => rfl) pre768 (fun fs hr => X763.returnOut hx Bd.returns (hb hby d6_9) hr) ?_
  show Q6_3L Z a1 a2 kc c0 c1 c2 cs h0 n0 _ T763.heap _
  exact ⟨b763_0, kk763_0, rfl, N763, K763, g_b763_0, sz_b763_0, q763_0, q763_1, q763_2, q763_3⟩
def own_S3 (Z : State) (h : Heap) (a : Addr) (c0 c1 c2 : Int32) : Prop := (∃ (wt : Addr) (kt : ClassId), Exa Z h a "java/lang/String" ∧ Fld Z h a "java/lang/String" "value" "[B" (.ref wt) ∧ Fld Z h a "java/lang/String" "coder" "B" (.int 0) ∧ Arv Z h wt kt .byte 3 [(.int (own_by c0)), (.int (own_by c1)), (.int (own_by c2))] (.int 0) ∧ (¬ c0 < (0 : Int32) ∧ ¬ (255 : Int32) < c0) ∧ (¬ c1 < (0 : Int32) ∧ ¬ (255 : Int32) < c1) ∧ (¬ c2 < (0 : Int32) ∧ ¬ (255 : Int32) < c2)) ∨ (∃ (wt : Addr) (kt : ClassId), Exa Z h a "java/lang/String" ∧ Fld Z h a "java/lang/String" "value" "[B" (.ref wt) ∧ Fld Z h a "java/lang/String" "coder" "B" (.int 1) ∧ Arv Z h wt kt .byte 6 [(.int (own_lo c0)), (.int (own_hi c0)), (.int (own_lo c1)), (.int (own_hi c1)), (.int (own_lo c2)), (.int (own_hi c2))] (.int 0) ∧ (¬ c0 < (0 : Int32) ∧ ¬ (65535 : Int32) < c0) ∧ (¬ c1 < (0 : Int32) ∧ ¬ (65535 : Int32) < c1) ∧ (¬ c2 < (0 : Int32) ∧ ¬ (65535 : Int32) < c2))
theorem rmNS_3 (l : Launch) (Z : State) (a0 : Array Value) (hw : own_H a0 Z) (ws : List Jvm.Cond) (a1 : Addr) (a2 : Addr) (kc : ClassId) (c0 : Int32) (c1 : Int32) (c2 : Int32) (cs : Int32) (h0 : Heap) (n0 : Nat) (Z0 : n0 ≤ h0.size) (P0 : Exa Z h0 a1 "java/lang/String") (P1 : Fld Z h0 a1 "java/lang/String" "value" "[B" .null) (P2 : Fld Z h0 a1 "java/lang/String" "coder" "B" (.int 0)) (P3 : Arv Z h0 a2 kc .char (3 : Int32) [(.int c0), (.int c1), (.int c2)] (.int (0 : Int32))) (P4 : Old Z n0 h0) (R5 : own_SC Z Z.heap cs) (R6 : Sta Z Z.heap "java/lang/StringUTF16" "$assertionsDisabled" "Z" (.int 1)) (R7 : Sta Z Z.heap "java/lang/StringUTF16" "HI_BYTE_SHIFT" "I" (.int 0)) (R8 : Sta Z Z.heap "java/lang/StringUTF16" "LO_BYTE_SHIFT" "I" (.int 8)) (ne_a2_a1 : a2 ≠ a1) (g_a1 : n0 ≤ a1) (hcs : ¬ cs = (0 : Int32)) (hr0 : ¬ c0 < (0 : Int32) ∧ ¬ (65535 : Int32) < c0) (hr1 : ¬ c1 < (0 : Int32) ∧ ¬ (65535 : Int32) < c1) (hr2 : ¬ c2 < (0 : Int32) ∧ ¬ (65535 : Int32) < c2) :
    own_M l Z (⟨"java/lang/String", "<init>", "([C)V"⟩ : MethodName) jdk_42_method_3_code 2 none ws ({ frames := 5, cells := 2, slots := 9, locals := 74 } : Room) #[(.ref a1), (.ref a2)] h0 (fun v h L => v = none ∧ Fr n0 L ∧ Keep h0 h [a1] ∧ own_S3 Z h a1 c0 c1 c2) := by
  by_cases hU : (255 : Int32) < c0 ∨ (255 : Int32) < c1 ∨ (255 : Int32) < c2
  · refine own_mono (rm6_3U l Z a0 hw ws a1 a2 kc c0 c1 c2 cs h0 n0 Z0 P0 P1 P2 P3 P4 R5 R6 R7 R8 ne_a2_a1 g_a1 hcs hU hr0 hr1 hr2) ?_
    rintro v h L ⟨x1, kx1, rfl, N, K, -, -, E, FV, FC, A⟩
    exact ⟨rfl, N, K, Or.inr ⟨x1, kx1, E, FV, FC, A, hr0, hr1, hr2⟩⟩
  · refine own_mono (rm6_3L l Z a0 hw ws a1 a2 kc c0 c1 c2 cs h0 n0 Z0 P0 P1 P2 P3 P4 R5 ne_a2_a1 g_a1 hcs (fun q => hU (Or.inl q)) (fun q => hU (Or.inr (Or.inl q))) (fun q => hU (Or.inr (Or.inr q)))) ?_
    rintro v h L ⟨x1, kx1, rfl, N, K, -, -, E, FV, FC, A⟩
    exact ⟨rfl, N, K, Or.inl ⟨x1, kx1, E, FV, FC, A, ⟨hr0.1, (fun q => hU (Or.inl q))⟩, ⟨hr1.1, (fun q => hU (Or.inr (Or.inl q)))⟩, ⟨hr2.1, (fun q => hU (Or.inr (Or.inr q)))⟩⟩⟩
theorem rmCH_30 (l : Launch) (Z : State) (a0 : Array Value) (hw : own_H a0 Z) (ws : List Jvm.Cond) (a1 : Addr) (c0 c1 c2 : Int32) (cs : Int32) (vf : Value) (h0 : Heap) (n0 : Nat) (Z0 : n0 ≤ h0.size) (hS : own_S3 Z h0 a1 c0 c1 c2) (SC : own_SC Z h0 cs) (hcs : ¬ cs = (0 : Int32)) (SF : Sta Z h0 "jdk/internal/util/Preconditions" "SIOOBE_FORMATTER" "Ljava/util/function/BiFunction;" vf) (hvf : vf.isRef = true) (SA : own_SA Z h0) (SH : own_SH Z h0) (SL : own_SL Z h0) :
    own_M l Z (⟨"java/lang/String", "charAt", "(I)C"⟩ : MethodName) jdk_42_method_56_code 2 (some .char) ws ({ frames := 4, cells := 0, slots := 0, locals := 53 } : Room) #[(.ref a1), (.int 0)] h0 (fun v h L => v = some (.int c0) ∧ Fr n0 L ∧ h = h0) := by
  rcases hS with ⟨wt, kt, E1, FV, FC, A, hr0, hr1, hr2⟩ | ⟨wt, kt, E1, FV, FC, A, hr0, hr1, hr2⟩
  · obtain ⟨cl, Ar, -, Sz, Nz, Hs, -⟩ := A
    have q := rm16L l Z a0 hw ws a1 (0 : Int32) wt cl (3 : Int32) (own_by c0) cs vf h0 n0 Z0 E1 FC FV Ar Sz Nz (by decide) (by decide) (Has.at Hs (inb_of Sz ⟨by decide, by decide⟩) rfl) SC hcs SF hvf
    unfold Q16L at q
    rw [own_rtL hr0] at q
    exact q
  · obtain ⟨cl, Ar, -, Sz, Nz, Hs, -⟩ := A
    have q := rm16U l Z a0 hw ws a1 (0 : Int32) wt cl (6 : Int32) (own_lo c0) (own_hi c0) vf cs h0 n0 Z0 E1 FC FV Ar Sz Nz (by decide) (by decide) (inb_of Sz ⟨by decide, by decide⟩) (Has.at Hs (inb_of Sz ⟨by decide, by decide⟩) rfl) (inb_of Sz ⟨by decide, by decide⟩) (Has.at Hs (inb_of Sz ⟨by decide, by decide⟩) rfl) SA SH SL SF hvf SC hcs
    unfold Q16U at q
    rw [own_rtU hr0, own_ncz hr0, own_ncz hr0] at q
    exact q
theorem rmCH_31 (l : Launch) (Z : State) (a0 : Array Value) (hw : own_H a0 Z) (ws : List Jvm.Cond) (a1 : Addr) (c0 c1 c2 : Int32) (cs : Int32) (vf : Value) (h0 : Heap) (n0 : Nat) (Z0 : n0 ≤ h0.size) (hS : own_S3 Z h0 a1 c0 c1 c2) (SC : own_SC Z h0 cs) (hcs : ¬ cs = (0 : Int32)) (SF : Sta Z h0 "jdk/internal/util/Preconditions" "SIOOBE_FORMATTER" "Ljava/util/function/BiFunction;" vf) (hvf : vf.isRef = true) (SA : own_SA Z h0) (SH : own_SH Z h0) (SL : own_SL Z h0) :
    own_M l Z (⟨"java/lang/String", "charAt", "(I)C"⟩ : MethodName) jdk_42_method_56_code 2 (some .char) ws ({ frames := 4, cells := 0, slots := 0, locals := 53 } : Room) #[(.ref a1), (.int 1)] h0 (fun v h L => v = some (.int c1) ∧ Fr n0 L ∧ h = h0) := by
  rcases hS with ⟨wt, kt, E1, FV, FC, A, hr0, hr1, hr2⟩ | ⟨wt, kt, E1, FV, FC, A, hr0, hr1, hr2⟩
  · obtain ⟨cl, Ar, -, Sz, Nz, Hs, -⟩ := A
    have q := rm16L l Z a0 hw ws a1 (1 : Int32) wt cl (3 : Int32) (own_by c1) cs vf h0 n0 Z0 E1 FC FV Ar Sz Nz (by decide) (by decide) (Has.at Hs (inb_of Sz ⟨by decide, by decide⟩) rfl) SC hcs SF hvf
    unfold Q16L at q
    rw [own_rtL hr1] at q
    exact q
  · obtain ⟨cl, Ar, -, Sz, Nz, Hs, -⟩ := A
    have q := rm16U l Z a0 hw ws a1 (1 : Int32) wt cl (6 : Int32) (own_lo c1) (own_hi c1) vf cs h0 n0 Z0 E1 FC FV Ar Sz Nz (by decide) (by decide) (inb_of Sz ⟨by decide, by decide⟩) (Has.at Hs (inb_of Sz ⟨by decide, by decide⟩) rfl) (inb_of Sz ⟨by decide, by decide⟩) (Has.at Hs (inb_of Sz ⟨by decide, by decide⟩) rfl) SA SH SL SF hvf SC hcs
    unfold Q16U at q
    rw [own_rtU hr1, own_ncz hr1, own_ncz hr1] at q
    exact q
theorem rmCH_32 (l : Launch) (Z : State) (a0 : Array Value) (hw : own_H a0 Z) (ws : List Jvm.Cond) (a1 : Addr) (c0 c1 c2 : Int32) (cs : Int32) (vf : Value) (h0 : Heap) (n0 : Nat) (Z0 : n0 ≤ h0.size) (hS : own_S3 Z h0 a1 c0 c1 c2) (SC : own_SC Z h0 cs) (hcs : ¬ cs = (0 : Int32)) (SF : Sta Z h0 "jdk/internal/util/Preconditions" "SIOOBE_FORMATTER" "Ljava/util/function/BiFunction;" vf) (hvf : vf.isRef = true) (SA : own_SA Z h0) (SH : own_SH Z h0) (SL : own_SL Z h0) :
    own_M l Z (⟨"java/lang/String", "charAt", "(I)C"⟩ : MethodName) jdk_42_method_56_code 2 (some .char) ws ({ frames := 4, cells := 0, slots := 0, locals := 53 } : Room) #[(.ref a1), (.int 2)] h0 (fun v h L => v = some (.int c2) ∧ Fr n0 L ∧ h = h0) := by
  rcases hS with ⟨wt, kt, E1, FV, FC, A, hr0, hr1, hr2⟩ | ⟨wt, kt, E1, FV, FC, A, hr0, hr1, hr2⟩
  · obtain ⟨cl, Ar, -, Sz, Nz, Hs, -⟩ := A
    have q := rm16L l Z a0 hw ws a1 (2 : Int32) wt cl (3 : Int32) (own_by c2) cs vf h0 n0 Z0 E1 FC FV Ar Sz Nz (by decide) (by decide) (Has.at Hs (inb_of Sz ⟨by decide, by decide⟩) rfl) SC hcs SF hvf
    unfold Q16L at q
    rw [own_rtL hr2] at q
    exact q
  · obtain ⟨cl, Ar, -, Sz, Nz, Hs, -⟩ := A
    have q := rm16U l Z a0 hw ws a1 (2 : Int32) wt cl (6 : Int32) (own_lo c2) (own_hi c2) vf cs h0 n0 Z0 E1 FC FV Ar Sz Nz (by decide) (by decide) (inb_of Sz ⟨by decide, by decide⟩) (Has.at Hs (inb_of Sz ⟨by decide, by decide⟩) rfl) (inb_of Sz ⟨by decide, by decide⟩) (Has.at Hs (inb_of Sz ⟨by decide, by decide⟩) rfl) SA SH SL SF hvf SC hcs
    unfold Q16U at q
    rw [own_rtU hr2, own_ncz hr2, own_ncz hr2] at q
    exact q
theorem rmLN_3 (l : Launch) (Z : State) (a0 : Array Value) (hw : own_H a0 Z) (ws : List Jvm.Cond) (a1 : Addr) (c0 c1 c2 : Int32) (cs : Int32) (vf : Value) (h0 : Heap) (n0 : Nat) (Z0 : n0 ≤ h0.size) (hS : own_S3 Z h0 a1 c0 c1 c2) (SC : own_SC Z h0 cs) (hcs : ¬ cs = (0 : Int32)) (SF : Sta Z h0 "jdk/internal/util/Preconditions" "SIOOBE_FORMATTER" "Ljava/util/function/BiFunction;" vf) (hvf : vf.isRef = true) (SA : own_SA Z h0) (SH : own_SH Z h0) (SL : own_SL Z h0) :
    own_M l Z (⟨"java/lang/String", "length", "()I"⟩ : MethodName) jdk_42_method_54_code 1 (some .int) ws ({ frames := 1, cells := 0, slots := 0, locals := 13 } : Room) #[(.ref a1)] h0 (fun v h L => v = some (.int 3) ∧ Fr n0 L ∧ h = h0) := by
  rcases hS with ⟨wt, kt, E1, FV, FC, A, hr0, hr1, hr2⟩ | ⟨wt, kt, E1, FV, FC, A, hr0, hr1, hr2⟩
  · obtain ⟨cl, Ar, -, Sz, Nz, Hs, -⟩ := A
    exact rm14L l Z a0 hw ws a1 wt cl (3 : Int32) cs h0 n0 Z0 E1 FC FV Ar Sz Nz SC hcs
  · obtain ⟨cl, Ar, -, Sz, Nz, Hs, -⟩ := A
    exact rm14U l Z a0 hw ws a1 wt cl (6 : Int32) cs h0 n0 Z0 E1 FC FV Ar Sz Nz SC hcs
theorem rmEM_3 (l : Launch) (Z : State) (a0 : Array Value) (hw : own_H a0 Z) (ws : List Jvm.Cond) (a1 : Addr) (c0 c1 c2 : Int32) (cs : Int32) (vf : Value) (h0 : Heap) (n0 : Nat) (Z0 : n0 ≤ h0.size) (hS : own_S3 Z h0 a1 c0 c1 c2) (SC : own_SC Z h0 cs) (hcs : ¬ cs = (0 : Int32)) (SF : Sta Z h0 "jdk/internal/util/Preconditions" "SIOOBE_FORMATTER" "Ljava/util/function/BiFunction;" vf) (hvf : vf.isRef = true) (SA : own_SA Z h0) (SH : own_SH Z h0) (SL : own_SL Z h0) :
    own_M l Z (⟨"java/lang/String", "isEmpty", "()Z"⟩ : MethodName) jdk_42_method_55_code 1 (some .boolean) ws ({ frames := 0, cells := 0, slots := 0, locals := 0 } : Room) #[(.ref a1)] h0 (fun v h L => v = some (.int 0) ∧ Fr n0 L ∧ h = h0) := by
  rcases hS with ⟨wt, kt, E1, FV, FC, A, hr0, hr1, hr2⟩ | ⟨wt, kt, E1, FV, FC, A, hr0, hr1, hr2⟩
  · obtain ⟨cl, Ar, -, Sz, Nz, Hs, -⟩ := A
    exact rm13 l Z a0 hw ws a1 wt cl (3 : Int32) h0 n0 Z0 FV Ar Sz Nz (by decide)
  · obtain ⟨cl, Ar, -, Sz, Nz, Hs, -⟩ := A
    exact rm13 l Z a0 hw ws a1 wt cl (6 : Int32) h0 n0 Z0 FV Ar Sz Nz (by decide)
theorem own_Exa3 {Z : State} {h : Heap} {a : Addr} {c0 c1 c2 : Int32} (hS : own_S3 Z h a c0 c1 c2) : Exa Z h a "java/lang/String" := by
  rcases hS with ⟨_, _, E, -⟩ | ⟨_, _, E, -⟩ <;> exact E
def Q12_3 (Z : State) (a1 : Addr) (c0 : Int32) (c1 : Int32) (c2 : Int32) (cs : Int32) (vf : Value) (h0 : Heap) (n0 : Nat) (v : Option Value) (h : Heap) (L : List Loc) : Prop := v = none ∧ Fr n0 L ∧ h = h0
theorem rm12_3 (l : Launch) (Z : State) (a0 : Array Value) (hw : own_H a0 Z) (ws : List Jvm.Cond) (a1 : Addr) (c0 : Int32) (c1 : Int32) (c2 : Int32) (cs : Int32) (vf : Value) (h0 : Heap) (n0 : Nat) (Z0 : n0 ≤ h0.size) (hS : own_S3 Z h0 a1 c0 c1 c2) (SC : own_SC Z h0 cs) (hcs : ¬ cs = (0 : Int32)) (SF : Sta Z h0 "jdk/internal/util/Preconditions" "SIOOBE_FORMATTER" "Ljava/util/function/BiFunction;" vf) (hvf : vf.isRef = true) (SA : own_SA Z h0) (SH : own_SH Z h0) (SL : own_SL Z h0) (hk0 : own_F3 c0 = (0 : Int32) ∧ (¬ own_F4 c0 = (0 : Int32) → ¬ own_F5 c1 = (0 : Int32)) ∧ (own_F4 c0 = (0 : Int32) → ¬ own_F5 c0 = (0 : Int32) → False)) (hk1 : own_F3 c1 = (0 : Int32) ∧ (¬ own_F4 c1 = (0 : Int32) → ¬ own_F5 c2 = (0 : Int32)) ∧ (own_F4 c1 = (0 : Int32) → ¬ own_F5 c1 = (0 : Int32) → ¬ own_F4 c0 = (0 : Int32))) (hk2 : own_F3 c2 = (0 : Int32) ∧ (¬ own_F4 c2 = (0 : Int32) → False) ∧ (own_F4 c2 = (0 : Int32) → ¬ own_F5 c2 = (0 : Int32) → ¬ own_F4 c1 = (0 : Int32))) :
    own_M l Z (⟨"com/example/lexiflow/lexiflow/model/Ids", "check", "(Ljava/lang/String;)V"⟩ : MethodName) prog_23_method_2_code 3 none ws ({ frames := 5, cells := 0, slots := 0, locals := 66 } : Room) #[(.ref a1)] h0 (Q12_3 Z a1 c0 c1 c2 cs vf h0 n0) := by
  refine own_bd (n0 := n0) (plainFor_of_name pn_12) fun p e s m below meth c s₁ Bd hZ hx hby hml hown X0 e0 N0 => ?_
  have pre0 := own_p0 (tb := p.tables) (e := e) (below := below) (s := s₁) (ef_12_1 m a1)
  obtain ⟨T769, L769, X769, e769, N769, st769⟩ := own_pV X0 hx hZ hml hown N0 (ow hw 53 rfl) (ow hw 54 rfl) (notFace_of_selects (args := #[]) (mvT hZ (ow hw 56 rfl))) (ow hw 56 rfl) (ow hw 55 rfl) (ow hw 22 rfl) (ow hw 57 rfl) e0 (rmEM_3 l Z a0 hw [] a1 c0 c1 c2 cs vf h0 n0 Z0 hS SC hcs SF hvf SA SH SL) (own_Exa3 hS) (W := 0) (g := (mkF m 1 #[rv a1, .unset, .unset] [(.ref a1)])) (argsL := []) (rest := []) (lenOf pd_3 rfl) (hb hby d12_1)
  obtain ⟨T770, L770, X770, e770, N770, st770⟩ := own_pV X769 hx hZ hml hown N769 (ow hw 58 rfl) (ow hw 59 rfl) (notFace_of_selects (args := #[]) (mvT hZ (ow hw 61 rfl))) (ow hw 61 rfl) (ow hw 60 rfl) (ow hw 22 rfl) (ow hw 62 rfl) e769 (rmLN_3 l Z a0 hw [] a1 c0 c1 c2 cs vf h0 n0 Z0 hS SC hcs SF hvf SA SH SL) (own_Exa3 hS) (W := 1) (g := (mkF m 21 #[rv a1, iv 0, .unset] [(.ref a1), (.int 0)])) (argsL := []) (rest := [(.int 0)]) (lenOf pd_15 rfl) (hb hby d12_21)
  obtain ⟨T771, L771, X771, e771, N771, st771⟩ := own_pV X770 hx hZ hml hown N770 (ow hw 68 rfl) (ow hw 69 rfl) (notFace_of_selects (args := #[]) (mvT hZ (ow hw 71 rfl))) (ow hw 71 rfl) (ow hw 70 rfl) (ow hw 22 rfl) (ow hw 72 rfl) e770 (rmCH_30 l Z a0 hw [] a1 c0 c1 c2 cs vf h0 n0 Z0 hS SC hcs SF hvf SA SH SL) (own_Exa3 hS) (W := 0) (g := (mkF m 29 #[rv a1, iv 0, .unset] [(.int 0), (.ref a1)])) (argsL := [(.int 0)]) (rest := []) (lenOf pd_16 rfl) (hb hby d12_29)
  obtain ⟨T772, L772, X772, e772, N772, st772⟩ := own_pS X771 hx hZ hml hown N771 (ow hw 90 rfl) (ow hw 91 rfl) (ow hw 51 rfl) (ow hw 92 rfl) e771 (rm21 l Z a0 hw [] c0 h0 n0 Z0) (W := 0) (g := (mkF m 57 #[rv a1, iv 0, iv c0] [(.int c0)])) (argsL := [(.int c0)]) (rest := []) (lenOf pd_0 rfl) (hb hby d12_57)
  obtain ⟨T773, L773, X773, e773, N773, st773⟩ := own_pS X772 hx hZ hml hown N772 (ow hw 93 rfl) (ow hw 94 rfl) (ow hw 95 rfl) (ow hw 96 rfl) e772 (rm22 l Z a0 hw [] c0 h0 n0 Z0) (W := 0) (g := (mkF m 81 #[rv a1, iv 0, iv c0] [(.int c0)])) (argsL := [(.int c0)]) (rest := []) (lenOf pd_0 rfl) (hb hby d12_81)
  have pre774 := own_go pre0 (T773.setTop (mkF m 84 #[rv a1, iv 0, iv c0] [(.int (own_F22 c0))])) fun t kt => by
    refine XS.aloadN X0.here hx rfl (hb hby d12_0) rfl rfl ?_
    refine st769 _ ?_
    refine XS.ifYes X769.here hx rfl (pc0 := 4) (pc' := 17) rfl (hb hby d12_4) rfl ((if0 _ _).trans (teq (by decide : (0 : Int32) = (0 : Int32))).1) (by decide) (by decide) ?_
    refine XS.iconst X769.here hx rfl (hb hby d12_17) ?_
    refine XS.istoreN X769.here hx rfl (hb hby d12_18) rfl (l' := #[rv a1, iv 0, .unset]) rfl ?_
    refine XS.iloadN X769.here hx rfl (hb hby d12_19) rfl ?_
    refine XS.aloadN X769.here hx rfl (hb hby d12_20) rfl rfl ?_
    refine st770 _ ?_
    refine XS.icmpNo X770.here hx rfl (hb hby d12_24) rfl (tlt (by decide : (0 : Int32) < (3 : Int32))).2.1 ?_
    refine XS.aloadN X770.here hx rfl (hb hby d12_27) rfl rfl ?_
    refine XS.iloadN X770.here hx rfl (hb hby d12_28) rfl ?_
    refine st771 _ ?_
    refine XS.istoreN X771.here hx rfl (hb hby d12_32) rfl (l' := #[rv a1, iv 0, iv c0]) rfl ?_
    refine XS.iloadN X771.here hx rfl (hb hby d12_33) rfl ?_
    refine XS.bipush X771.here hx rfl (hb hby d12_34) ?_
    refine XS.icmpYes X771.here hx rfl (pc0 := 36) (pc' := 56) rfl (hb hby d12_36) rfl (feq ((own_lb _ hk0.1).1 : ¬ (c0 = (9 : Int32)))).2 (by decide) (by decide) ?_
    refine XS.iloadN X771.here hx rfl (hb hby d12_56) rfl ?_
    refine st772 _ ?_
    refine XS.ifYes X772.here hx rfl (pc0 := 60) (pc' := 80) rfl (hb hby d12_60) rfl ((if0 _ _).trans (teq ((own_lb _ hk0.1).2 : (own_F21 c0) = (0 : Int32))).1) (by decide) (by decide) ?_
    refine XS.iloadN X772.here hx rfl (hb hby d12_80) rfl ?_
    refine st773 _ ?_
    exact kt
  by_cases hc84_775 : (own_F22 c0) = (0 : Int32)
  · obtain ⟨T776, L776, X776, e776, N776, st776⟩ := own_pS X773 hx hZ hml hown N773 (ow hw 98 rfl) (ow hw 99 rfl) (ow hw 95 rfl) (ow hw 100 rfl) e773 (rm23 l Z a0 hw [] c0 h0 n0 Z0) (W := 0) (g := (mkF m 117 #[rv a1, iv 0, iv c0] [(.int c0)])) (argsL := [(.int c0)]) (rest := []) (lenOf pd_0 rfl) (hb hby d12_117)
    obtain ⟨T777, L777, X777, e777, N777, st777⟩ := own_pV X776 hx hZ hml hown N776 (ow hw 58 rfl) (ow hw 59 rfl) (notFace_of_selects (args := #[]) (mvT hZ (ow hw 61 rfl))) (ow hw 61 rfl) (ow hw 60 rfl) (ow hw 22 rfl) (ow hw 62 rfl) e776 (rmLN_3 l Z a0 hw [] a1 c0 c1 c2 cs vf h0 n0 Z0 hS SC hcs SF hvf SA SH SL) (own_Exa3 hS) (W := 1) (g := (mkF m 21 #[rv a1, iv 1, iv c0] [(.ref a1), (.int 1)])) (argsL := []) (rest := [(.int 1)]) (lenOf pd_15 rfl) (hb hby d12_21)
    obtain ⟨T778, L778, X778, e778, N778, st778⟩ := own_pV X777 hx hZ hml hown N777 (ow hw 68 rfl) (ow hw 69 rfl) (notFace_of_selects (args := #[]) (mvT hZ (ow hw 71 rfl))) (ow hw 71 rfl) (ow hw 70 rfl) (ow hw 22 rfl) (ow hw 72 rfl) e777 (rmCH_31 l Z a0 hw [] a1 c0 c1 c2 cs vf h0 n0 Z0 hS SC hcs SF hvf SA SH SL) (own_Exa3 hS) (W := 0) (g := (mkF m 29 #[rv a1, iv 1, iv c0] [(.int 1), (.ref a1)])) (argsL := [(.int 1)]) (rest := []) (lenOf pd_16 rfl) (hb hby d12_29)
    obtain ⟨T779, L779, X779, e779, N779, st779⟩ := own_pS X778 hx hZ hml hown N778 (ow hw 90 rfl) (ow hw 91 rfl) (ow hw 51 rfl) (ow hw 92 rfl) e778 (rm21 l Z a0 hw [] c1 h0 n0 Z0) (W := 0) (g := (mkF m 57 #[rv a1, iv 1, iv c1] [(.int c1)])) (argsL := [(.int c1)]) (rest := []) (lenOf pd_0 rfl) (hb hby d12_57)
    obtain ⟨T780, L780, X780, e780, N780, st780⟩ := own_pS X779 hx hZ hml hown N779 (ow hw 93 rfl) (ow hw 94 rfl) (ow hw 95 rfl) (ow hw 96 rfl) e779 (rm22 l Z a0 hw [] c1 h0 n0 Z0) (W := 0) (g := (mkF m 81 #[rv a1, iv 1, iv c1] [(.int c1)])) (argsL := [(.int c1)]) (rest := []) (lenOf pd_0 rfl) (hb hby d12_81)
    have pre781 := own_go pre774 (T780.setTop (mkF m 84 #[rv a1, iv 1, iv c1] [(.int (own_F22 c1))])) fun t kt => by
      refine XS.ifYes X773.here hx rfl (pc0 := 84) (pc' := 116) rfl (hb hby d12_84) rfl ((if0 _ _).trans (teq hc84_775).1) (by decide) (by decide) ?_
      refine XS.iloadN X773.here hx rfl (hb hby d12_116) rfl ?_
      refine st776 _ ?_
      refine XS.ifYes X776.here hx rfl (pc0 := 120) (pc' := 140) rfl (hb hby d12_120) rfl ((if0 _ _).trans (teq ((own_is _ (by rw [← own_hs]; exact hc84_775) (Classical.byContradiction fun q => hk0.2.2 (by rw [← own_hs]; exact hc84_775) q)) : (own_F23 c0) = (0 : Int32))).1) (by decide) (by decide) ?_
      refine XS.iinc X776.here hx rfl (hb hby d12_140) rfl (l' := #[rv a1, iv 1, iv c0]) rfl ?_
      refine XS.goto X776.here hx rfl (pc0 := 143) (pc' := 19) rfl (hb hby d12_143) (by decide) (by decide) ?_
      refine XS.iloadN X776.here hx rfl (hb hby d12_19) rfl ?_
      refine XS.aloadN X776.here hx rfl (hb hby d12_20) rfl rfl ?_
      refine st777 _ ?_
      refine XS.icmpNo X777.here hx rfl (hb hby d12_24) rfl (tlt (by decide : (1 : Int32) < (3 : Int32))).2.1 ?_
      refine XS.aloadN X777.here hx rfl (hb hby d12_27) rfl rfl ?_
      refine XS.iloadN X777.here hx rfl (hb hby d12_28) rfl ?_
      refine st778 _ ?_
      refine XS.istoreN X778.here hx rfl (hb hby d12_32) rfl (l' := #[rv a1, iv 1, iv c1]) rfl ?_
      refine XS.iloadN X778.here hx rfl (hb hby d12_33) rfl ?_
      refine XS.bipush X778.here hx rfl (hb hby d12_34) ?_
      refine XS.icmpYes X778.here hx rfl (pc0 := 36) (pc' := 56) rfl (hb hby d12_36) rfl (feq ((own_lb _ hk1.1).1 : ¬ (c1 = (9 : Int32)))).2 (by decide) (by decide) ?_
      refine XS.iloadN X778.here hx rfl (hb hby d12_56) rfl ?_
      refine st779 _ ?_
      refine XS.ifYes X779.here hx rfl (pc0 := 60) (pc' := 80) rfl (hb hby d12_60) rfl ((if0 _ _).trans (teq ((own_lb _ hk1.1).2 : (own_F21 c1) = (0 : Int32))).1) (by decide) (by decide) ?_
      refine XS.iloadN X779.here hx rfl (hb hby d12_80) rfl ?_
      refine st780 _ ?_
      exact kt
    by_cases hc84_782 : (own_F22 c1) = (0 : Int32)
    · obtain ⟨T783, L783, X783, e783, N783, st783⟩ := own_pS X780 hx hZ hml hown N780 (ow hw 98 rfl) (ow hw 99 rfl) (ow hw 95 rfl) (ow hw 100 rfl) e780 (rm23 l Z a0 hw [] c1 h0 n0 Z0) (W := 0) (g := (mkF m 117 #[rv a1, iv 1, iv c1] [(.int c1)])) (argsL := [(.int c1)]) (rest := []) (lenOf pd_0 rfl) (hb hby d12_117)
      obtain ⟨T784, L784, X784, e784, N784, st784⟩ := own_pV X783 hx hZ hml hown N783 (ow hw 58 rfl) (ow hw 59 rfl) (notFace_of_selects (args := #[]) (mvT hZ (ow hw 61 rfl))) (ow hw 61 rfl) (ow hw 60 rfl) (ow hw 22 rfl) (ow hw 62 rfl) e783 (rmLN_3 l Z a0 hw [] a1 c0 c1 c2 cs vf h0 n0 Z0 hS SC hcs SF hvf SA SH SL) (own_Exa3 hS) (W := 1) (g := (mkF m 21 #[rv a1, iv 2, iv c1] [(.ref a1), (.int 2)])) (argsL := []) (rest := [(.int 2)]) (lenOf pd_15 rfl) (hb hby d12_21)
      obtain ⟨T785, L785, X785, e785, N785, st785⟩ := own_pV X784 hx hZ hml hown N784 (ow hw 68 rfl) (ow hw 69 rfl) (notFace_of_selects (args := #[]) (mvT hZ (ow hw 71 rfl))) (ow hw 71 rfl) (ow hw 70 rfl) (ow hw 22 rfl) (ow hw 72 rfl) e784 (rmCH_32 l Z a0 hw [] a1 c0 c1 c2 cs vf h0 n0 Z0 hS SC hcs SF hvf SA SH SL) (own_Exa3 hS) (W := 0) (g := (mkF m 29 #[rv a1, iv 2, iv c1] [(.int 2), (.ref a1)])) (argsL := [(.int 2)]) (rest := []) (lenOf pd_16 rfl) (hb hby d12_29)
      obtain ⟨T786, L786, X786, e786, N786, st786⟩ := own_pS X785 hx hZ hml hown N785 (ow hw 90 rfl) (ow hw 91 rfl) (ow hw 51 rfl) (ow hw 92 rfl) e785 (rm21 l Z a0 hw [] c2 h0 n0 Z0) (W := 0) (g := (mkF m 57 #[rv a1, iv 2, iv c2] [(.int c2)])) (argsL := [(.int c2)]) (rest := []) (lenOf pd_0 rfl) (hb hby d12_57)
      obtain ⟨T787, L787, X787, e787, N787, st787⟩ := own_pS X786 hx hZ hml hown N786 (ow hw 93 rfl) (ow hw 94 rfl) (ow hw 95 rfl) (ow hw 96 rfl) e786 (rm22 l Z a0 hw [] c2 h0 n0 Z0) (W := 0) (g := (mkF m 81 #[rv a1, iv 2, iv c2] [(.int c2)])) (argsL := [(.int c2)]) (rest := []) (lenOf pd_0 rfl) (hb hby d12_81)
      obtain ⟨T788, L788, X788, e788, N788, st788⟩ := own_pS X787 hx hZ hml hown N787 (ow hw 98 rfl) (ow hw 99 rfl) (ow hw 95 rfl) (ow hw 100 rfl) e787 (rm23 l Z a0 hw [] c2 h0 n0 Z0) (W := 0) (g := (mkF m 117 #[rv a1, iv 2, iv c2] [(.int c2)])) (argsL := [(.int c2)]) (rest := []) (lenOf pd_0 rfl) (hb hby d12_117)
      obtain ⟨T789, L789, X789, e789, N789, st789⟩ := own_pV X788 hx hZ hml hown N788 (ow hw 58 rfl) (ow hw 59 rfl) (notFace_of_selects (args := #[]) (mvT hZ (ow hw 61 rfl))) (ow hw 61 rfl) (ow hw 60 rfl) (ow hw 22 rfl) (ow hw 62 rfl) e788 (rmLN_3 l Z a0 hw [] a1 c0 c1 c2 cs vf h0 n0 Z0 hS SC hcs SF hvf SA SH SL) (own_Exa3 hS) (W := 1) (g := (mkF m 21 #[rv a1, iv 3, iv c2] [(.ref a1), (.int 3)])) (argsL := []) (rest := [(.int 3)]) (lenOf pd_15 rfl) (hb hby d12_21)
      have pre790 := own_go pre781 (T789.setTop (mkF m 146 #[rv a1, iv 3, iv c2] [])) fun t kt => by
        refine XS.ifYes X780.here hx rfl (pc0 := 84) (pc' := 116) rfl (hb hby d12_84) rfl ((if0 _ _).trans (teq hc84_782).1) (by decide) (by decide) ?_
        refine XS.iloadN X780.here hx rfl (hb hby d12_116) rfl ?_
        refine st783 _ ?_
        refine XS.ifYes X783.here hx rfl (pc0 := 120) (pc' := 140) rfl (hb hby d12_120) rfl ((if0 _ _).trans (teq ((own_is _ (by rw [← own_hs]; exact hc84_782) (Classical.byContradiction fun q => hk1.2.2 (by rw [← own_hs]; exact hc84_782) q (by rw [← own_hs]; exact hc84_775))) : (own_F23 c1) = (0 : Int32))).1) (by decide) (by decide) ?_
        refine XS.iinc X783.here hx rfl (hb hby d12_140) rfl (l' := #[rv a1, iv 2, iv c1]) rfl ?_
        refine XS.goto X783.here hx rfl (pc0 := 143) (pc' := 19) rfl (hb hby d12_143) (by decide) (by decide) ?_
        refine XS.iloadN X783.here hx rfl (hb hby d12_19) rfl ?_
        refine XS.aloadN X783.here hx rfl (hb hby d12_20) rfl rfl ?_
        refine st784 _ ?_
        refine XS.icmpNo X784.here hx rfl (hb hby d12_24) rfl (tlt (by decide : (2 : Int32) < (3 : Int32))).2.1 ?_
        refine XS.aloadN X784.here hx rfl (hb hby d12_27) rfl rfl ?_
        refine XS.iloadN X784.here hx rfl (hb hby d12_28) rfl ?_
        refine st785 _ ?_
        refine XS.istoreN X785.here hx rfl (hb hby d12_32) rfl (l' := #[rv a1, iv 2, iv c2]) rfl ?_
        refine XS.iloadN X785.here hx rfl (hb hby d12_33) rfl ?_
        refine XS.bipush X785.here hx rfl (hb hby d12_34) ?_
        refine XS.icmpYes X785.here hx rfl (pc0 := 36) (pc' := 56) rfl (hb hby d12_36) rfl (feq ((own_lb _ hk2.1).1 : ¬ (c2 = (9 : Int32)))).2 (by decide) (by decide) ?_
        refine XS.iloadN X785.here hx rfl (hb hby d12_56) rfl ?_
        refine st786 _ ?_
        refine XS.ifYes X786.here hx rfl (pc0 := 60) (pc' := 80) rfl (hb hby d12_60) rfl ((if0 _ _).trans (teq ((own_lb _ hk2.1).2 : (own_F21 c2) = (0 : Int32))).1) (by decide) (by decide) ?_
        refine XS.iloadN X786.here hx rfl (hb hby d12_80) rfl ?_
        refine st787 _ ?_
        refine XS.ifYes X787.here hx rfl (pc0 := 84) (pc' := 116) rfl (hb hby d12_84) rfl ((if0 _ _).trans (teq ((by rw [own_hs]; exact Classical.byContradiction fun q => hk2.2.1 q) : (own_F22 c2) = (0 : Int32))).1) (by decide) (by decide) ?_
        refine XS.iloadN X787.here hx rfl (hb hby d12_116) rfl ?_
        refine st788 _ ?_
        refine XS.ifYes X788.here hx rfl (pc0 := 120) (pc' := 140) rfl (hb hby d12_120) rfl ((if0 _ _).trans (teq ((own_is _ (Classical.byContradiction fun q => hk2.2.1 q) (Classical.byContradiction fun q => hk2.2.2 (Classical.byContradiction fun q => hk2.2.1 q) q (by rw [← own_hs]; exact hc84_782))) : (own_F23 c2) = (0 : Int32))).1) (by decide) (by decide) ?_
        refine XS.iinc X788.here hx rfl (hb hby d12_140) rfl (l' := #[rv a1, iv 3, iv c2]) rfl ?_
        refine XS.goto X788.here hx rfl (pc0 := 143) (pc' := 19) rfl (hb hby d12_143) (by decide) (by decide) ?_
        refine XS.iloadN X788.here hx rfl (hb hby d12_19) rfl ?_
        refine XS.aloadN X788.here hx rfl (hb hby d12_20) rfl rfl ?_
        refine st789 _ ?_
        refine XS.icmpYes X789.here hx rfl (pc0 := 24) (pc' := 146) rfl (hb hby d12_24) rfl (flt (by decide : ¬ ((3 : Int32) < (3 : Int32)))).2.1 (by decide) (by decide) ?_
        exact kt
      refine own_lv X789 Bd.notSynchronized (v := none) (fun _ => rfl) pre790 (fun fs hr => X789.returnOut hx Bd.returns (hb hby d12_146) hr) ?_
      show Q12_3 Z a1 c0 c1 c2 cs vf h0 n0 _ T789.heap _
      rw [e789]
      exact ⟨rfl, N789, rfl⟩
    · obtain ⟨T791, L791, X791, e791, N791, st791⟩ := own_pV X780 hx hZ hml hown N780 (ow hw 58 rfl) (ow hw 59 rfl) (notFace_of_selects (args := #[]) (mvT hZ (ow hw 61 rfl))) (ow hw 61 rfl) (ow hw 60 rfl) (ow hw 22 rfl) (ow hw 62 rfl) e780 (rmLN_3 l Z a0 hw [] a1 c0 c1 c2 cs vf h0 n0 Z0 hS SC hcs SF hvf SA SH SL) (own_Exa3 hS) (W := 1) (g := (mkF m 91 #[rv a1, iv 1, iv c1] [(.ref a1), (.int 2)])) (argsL := []) (rest := [(.int 2)]) (lenOf pd_15 rfl) (hb hby d12_91)
      obtain ⟨T792, L792, X792, e792, N792, st792⟩ := own_pV X791 hx hZ hml hown N791 (ow hw 68 rfl) (ow hw 69 rfl) (notFace_of_selects (args := #[]) (mvT hZ (ow hw 71 rfl))) (ow hw 71 rfl) (ow hw 70 rfl) (ow hw 22 rfl) (ow hw 72 rfl) e791 (rmCH_32 l Z a0 hw [] a1 c0 c1 c2 cs vf h0 n0 Z0 hS SC hcs SF hvf SA SH SL) (own_Exa3 hS) (W := 0) (g := (mkF m 101 #[rv a1, iv 1, iv c1] [(.int 2), (.ref a1)])) (argsL := [(.int 2)]) (rest := []) (lenOf pd_16 rfl) (hb hby d12_101)
      obtain ⟨T793, L793, X793, e793, N793, st793⟩ := own_pS X792 hx hZ hml hown N792 (ow hw 138 rfl) (ow hw 139 rfl) (ow hw 95 rfl) (ow hw 140 rfl) e792 (rm32 l Z a0 hw [] c2 h0 n0 Z0) (W := 0) (g := (mkF m 104 #[rv a1, iv 1, iv c1] [(.int c2)])) (argsL := [(.int c2)]) (rest := []) (lenOf pd_0 rfl) (hb hby d12_104)
      obtain ⟨T794, L794, X794, e794, N794, st794⟩ := own_pV X793 hx hZ hml hown N793 (ow hw 58 rfl) (ow hw 59 rfl) (notFace_of_selects (args := #[]) (mvT hZ (ow hw 61 rfl))) (ow hw 61 rfl) (ow hw 60 rfl) (ow hw 22 rfl) (ow hw 62 rfl) e793 (rmLN_3 l Z a0 hw [] a1 c0 c1 c2 cs vf h0 n0 Z0 hS SC hcs SF hvf SA SH SL) (own_Exa3 hS) (W := 1) (g := (mkF m 21 #[rv a1, iv 3, iv c1] [(.ref a1), (.int 3)])) (argsL := []) (rest := [(.int 3)]) (lenOf pd_15 rfl) (hb hby d12_21)
      have pre795 := own_go pre781 (T794.setTop (mkF m 146 #[rv a1, iv 3, iv c1] [])) fun t kt => by
        refine XS.ifNo X780.here hx rfl (hb hby d12_84) rfl ((if0 _ _).trans (feq hc84_782).1) ?_
        refine XS.iloadN X780.here hx rfl (hb hby d12_87) rfl ?_
        refine XS.iconst X780.here hx rfl (hb hby d12_88) ?_
        refine XS.iadd X780.here hx rfl (hb hby d12_89) rfl ?_
        refine XS.aloadN X780.here hx rfl (hb hby d12_90) rfl rfl ?_
        refine st791 _ ?_
        refine XS.icmpNo X791.here hx rfl (hb hby d12_94) rfl (tlt (by decide : (2 : Int32) < (3 : Int32))).2.1 ?_
        refine XS.aloadN X791.here hx rfl (hb hby d12_97) rfl rfl ?_
        refine XS.iloadN X791.here hx rfl (hb hby d12_98) rfl ?_
        refine XS.iconst X791.here hx rfl (hb hby d12_99) ?_
        refine XS.iadd X791.here hx rfl (hb hby d12_100) rfl ?_
        refine st792 _ ?_
        refine st793 _ ?_
        refine XS.ifNo X793.here hx rfl (hb hby d12_107) rfl ((if0 _ _).trans (feq ((by rw [own_ls]; exact hk1.2.1 (by rw [← own_hs]; exact hc84_782)) : ¬ ((own_F32 c2) = (0 : Int32)))).1) ?_
        refine XS.iinc X793.here hx rfl (hb hby d12_110) rfl (l' := #[rv a1, iv 2, iv c1]) rfl ?_
        refine XS.goto X793.here hx rfl (pc0 := 113) (pc' := 140) rfl (hb hby d12_113) (by decide) (by decide) ?_
        refine XS.iinc X793.here hx rfl (hb hby d12_140) rfl (l' := #[rv a1, iv 3, iv c1]) rfl ?_
        refine XS.goto X793.here hx rfl (pc0 := 143) (pc' := 19) rfl (hb hby d12_143) (by decide) (by decide) ?_
        refine XS.iloadN X793.here hx rfl (hb hby d12_19) rfl ?_
        refine XS.aloadN X793.here hx rfl (hb hby d12_20) rfl rfl ?_
        refine st794 _ ?_
        refine XS.icmpYes X794.here hx rfl (pc0 := 24) (pc' := 146) rfl (hb hby d12_24) rfl (flt (by decide : ¬ ((3 : Int32) < (3 : Int32)))).2.1 (by decide) (by decide) ?_
        exact kt
      refine own_lv X794 Bd.notSynchronized (v := none) (fun _ => rfl) pre795 (fun fs hr => X794.returnOut hx Bd.returns (hb hby d12_146) hr) ?_
      show Q12_3 Z a1 c0 c1 c2 cs vf h0 n0 _ T794.heap _
      rw [e794]
      exact ⟨rfl, N794, rfl⟩
  · obtain ⟨T796, L796, X796, e796, N796, st796⟩ := own_pV X773 hx hZ hml hown N773 (ow hw 58 rfl) (ow hw 59 rfl) (notFace_of_selects (args := #[]) (mvT hZ (ow hw 61 rfl))) (ow hw 61 rfl) (ow hw 60 rfl) (ow hw 22 rfl) (ow hw 62 rfl) e773 (rmLN_3 l Z a0 hw [] a1 c0 c1 c2 cs vf h0 n0 Z0 hS SC hcs SF hvf SA SH SL) (own_Exa3 hS) (W := 1) (g := (mkF m 91 #[rv a1, iv 0, iv c0] [(.ref a1), (.int 1)])) (argsL := []) (rest := [(.int 1)]) (lenOf pd_15 rfl) (hb hby d12_91)
    obtain ⟨T797, L797, X797, e797, N797, st797⟩ := own_pV X796 hx hZ hml hown N796 (ow hw 68 rfl) (ow hw 69 rfl) (notFace_of_selects (args := #[]) (mvT hZ (ow hw 71 rfl))) (ow hw 71 rfl) (ow hw 70 rfl) (ow hw 22 rfl) (ow hw 72 rfl) e796 (rmCH_31 l Z a0 hw [] a1 c0 c1 c2 cs vf h0 n0 Z0 hS SC hcs SF hvf SA SH SL) (own_Exa3 hS) (W := 0) (g := (mkF m 101 #[rv a1, iv 0, iv c0] [(.int 1), (.ref a1)])) (argsL := [(.int 1)]) (rest := []) (lenOf pd_16 rfl) (hb hby d12_101)
    obtain ⟨T798, L798, X798, e798, N798, st798⟩ := own_pS X797 hx hZ hml hown N797 (ow hw 138 rfl) (ow hw 139 rfl) (ow hw 95 rfl) (ow hw 140 rfl) e797 (rm32 l Z a0 hw [] c1 h0 n0 Z0) (W := 0) (g := (mkF m 104 #[rv a1, iv 0, iv c0] [(.int c1)])) (argsL := [(.int c1)]) (rest := []) (lenOf pd_0 rfl) (hb hby d12_104)
    obtain ⟨T799, L799, X799, e799, N799, st799⟩ := own_pV X798 hx hZ hml hown N798 (ow hw 58 rfl) (ow hw 59 rfl) (notFace_of_selects (args := #[]) (mvT hZ (ow hw 61 rfl))) (ow hw 61 rfl) (ow hw 60 rfl) (ow hw 22 rfl) (ow hw 62 rfl) e798 (rmLN_3 l Z a0 hw [] a1 c0 c1 c2 cs vf h0 n0 Z0 hS SC hcs SF hvf SA SH SL) (own_Exa3 hS) (W := 1) (g := (mkF m 21 #[rv a1, iv 2, iv c0] [(.ref a1), (.int 2)])) (argsL := []) (rest := [(.int 2)]) (lenOf pd_15 rfl) (hb hby d12_21)
    obtain ⟨T800, L800, X800, e800, N800, st800⟩ := own_pV X799 hx hZ hml hown N799 (ow hw 68 rfl) (ow hw 69 rfl) (notFace_of_selects (args := #[]) (mvT hZ (ow hw 71 rfl))) (ow hw 71 rfl) (ow hw 70 rfl) (ow hw 22 rfl) (ow hw 72 rfl) e799 (rmCH_32 l Z a0 hw [] a1 c0 c1 c2 cs vf h0 n0 Z0 hS SC hcs SF hvf SA SH SL) (own_Exa3 hS) (W := 0) (g := (mkF m 29 #[rv a1, iv 2, iv c0] [(.int 2), (.ref a1)])) (argsL := [(.int 2)]) (rest := []) (lenOf pd_16 rfl) (hb hby d12_29)
    obtain ⟨T801, L801, X801, e801, N801, st801⟩ := own_pS X800 hx hZ hml hown N800 (ow hw 90 rfl) (ow hw 91 rfl) (ow hw 51 rfl) (ow hw 92 rfl) e800 (rm21 l Z a0 hw [] c2 h0 n0 Z0) (W := 0) (g := (mkF m 57 #[rv a1, iv 2, iv c2] [(.int c2)])) (argsL := [(.int c2)]) (rest := []) (lenOf pd_0 rfl) (hb hby d12_57)
    obtain ⟨T802, L802, X802, e802, N802, st802⟩ := own_pS X801 hx hZ hml hown N801 (ow hw 93 rfl) (ow hw 94 rfl) (ow hw 95 rfl) (ow hw 96 rfl) e801 (rm22 l Z a0 hw [] c2 h0 n0 Z0) (W := 0) (g := (mkF m 81 #[rv a1, iv 2, iv c2] [(.int c2)])) (argsL := [(.int c2)]) (rest := []) (lenOf pd_0 rfl) (hb hby d12_81)
    obtain ⟨T803, L803, X803, e803, N803, st803⟩ := own_pS X802 hx hZ hml hown N802 (ow hw 98 rfl) (ow hw 99 rfl) (ow hw 95 rfl) (ow hw 100 rfl) e802 (rm23 l Z a0 hw [] c2 h0 n0 Z0) (W := 0) (g := (mkF m 117 #[rv a1, iv 2, iv c2] [(.int c2)])) (argsL := [(.int c2)]) (rest := []) (lenOf pd_0 rfl) (hb hby d12_117)
    obtain ⟨T804, L804, X804, e804, N804, st804⟩ := own_pV X803 hx hZ hml hown N803 (ow hw 58 rfl) (ow hw 59 rfl) (notFace_of_selects (args := #[]) (mvT hZ (ow hw 61 rfl))) (ow hw 61 rfl) (ow hw 60 rfl) (ow hw 22 rfl) (ow hw 62 rfl) e803 (rmLN_3 l Z a0 hw [] a1 c0 c1 c2 cs vf h0 n0 Z0 hS SC hcs SF hvf SA SH SL) (own_Exa3 hS) (W := 1) (g := (mkF m 21 #[rv a1, iv 3, iv c2] [(.ref a1), (.int 3)])) (argsL := []) (rest := [(.int 3)]) (lenOf pd_15 rfl) (hb hby d12_21)
    have pre805 := own_go pre774 (T804.setTop (mkF m 146 #[rv a1, iv 3, iv c2] [])) fun t kt => by
      refine XS.ifNo X773.here hx rfl (hb hby d12_84) rfl ((if0 _ _).trans (feq hc84_775).1) ?_
      refine XS.iloadN X773.here hx rfl (hb hby d12_87) rfl ?_
      refine XS.iconst X773.here hx rfl (hb hby d12_88) ?_
      refine XS.iadd X773.here hx rfl (hb hby d12_89) rfl ?_
      refine XS.aloadN X773.here hx rfl (hb hby d12_90) rfl rfl ?_
      refine st796 _ ?_
      refine XS.icmpNo X796.here hx rfl (hb hby d12_94) rfl (tlt (by decide : (1 : Int32) < (3 : Int32))).2.1 ?_
      refine XS.aloadN X796.here hx rfl (hb hby d12_97) rfl rfl ?_
      refine XS.iloadN X796.here hx rfl (hb hby d12_98) rfl ?_
      refine XS.iconst X796.here hx rfl (hb hby d12_99) ?_
      refine XS.iadd X796.here hx rfl (hb hby d12_100) rfl ?_
      refine st797 _ ?_
      refine st798 _ ?_
      refine XS.ifNo X798.here hx rfl (hb hby d12_107) rfl ((if0 _ _).trans (feq ((by rw [own_ls]; exact hk0.2.1 (by rw [← own_hs]; exact hc84_775)) : ¬ ((own_F32 c1) = (0 : Int32)))).1) ?_
      refine XS.iinc X798.here hx rfl (hb hby d12_110) rfl (l' := #[rv a1, iv 1, iv c0]) rfl ?_
      refine XS.goto X798.here hx rfl (pc0 := 113) (pc' := 140) rfl (hb hby d12_113) (by decide) (by decide) ?_
      refine XS.iinc X798.here hx rfl (hb hby d12_140) rfl (l' := #[rv a1, iv 2, iv c0]) rfl ?_
      refine XS.goto X798.here hx rfl (pc0 := 143) (pc' := 19) rfl (hb hby d12_143) (by decide) (by decide) ?_
      refine XS.iloadN X798.here hx rfl (hb hby d12_19) rfl ?_
      refine XS.aloadN X798.here hx rfl (hb hby d12_20) rfl rfl ?_
      refine st799 _ ?_
      refine XS.icmpNo X799.here hx rfl (hb hby d12_24) rfl (tlt (by decide : (2 : Int32) < (3 : Int32))).2.1 ?_
      refine XS.aloadN X799.here hx rfl (hb hby d12_27) rfl rfl ?_
      refine XS.iloadN X799.here hx rfl (hb hby d12_28) rfl ?_
      refine st800 _ ?_
      refine XS.istoreN X800.here hx rfl (hb hby d12_32) rfl (l' := #[rv a1, iv 2, iv c2]) rfl ?_
      refine XS.iloadN X800.here hx rfl (hb hby d12_33) rfl ?_
      refine XS.bipush X800.here hx rfl (hb hby d12_34) ?_
      refine XS.icmpYes X800.here hx rfl (pc0 := 36) (pc' := 56) rfl (hb hby d12_36) rfl (feq ((own_lb _ hk2.1).1 : ¬ (c2 = (9 : Int32)))).2 (by decide) (by decide) ?_
      refine XS.iloadN X800.here hx rfl (hb hby d12_56) rfl ?_
      refine st801 _ ?_
      refine XS.ifYes X801.here hx rfl (pc0 := 60) (pc' := 80) rfl (hb hby d12_60) rfl ((if0 _ _).trans (teq ((own_lb _ hk2.1).2 : (own_F21 c2) = (0 : Int32))).1) (by decide) (by decide) ?_
      refine XS.iloadN X801.here hx rfl (hb hby d12_80) rfl ?_
      refine st802 _ ?_
      refine XS.ifYes X802.here hx rfl (pc0 := 84) (pc' := 116) rfl (hb hby d12_84) rfl ((if0 _ _).trans (teq ((by rw [own_hs]; exact Classical.byContradiction fun q => hk2.2.1 q) : (own_F22 c2) = (0 : Int32))).1) (by decide) (by decide) ?_
      refine XS.iloadN X802.here hx rfl (hb hby d12_116) rfl ?_
      refine st803 _ ?_
      refine XS.ifYes X803.here hx rfl (pc0 := 120) (pc' := 140) rfl (hb hby d12_120) rfl ((if0 _ _).trans (teq ((own_is _ (Classical.byContradiction fun q => hk2.2.1 q) (Classical.byContradiction fun q => hk2.2.2 (Classical.byContradiction fun q => hk2.2.1 q) q (own_hl _ (hk0.2.1 (by rw [← own_hs]; exact hc84_775))))) : (own_F23 c2) = (0 : Int32))).1) (by decide) (by decide) ?_
      refine XS.iinc X803.here hx rfl (hb hby d12_140) rfl (l' := #[rv a1, iv 3, iv c2]) rfl ?_
      refine XS.goto X803.here hx rfl (pc0 := 143) (pc' := 19) rfl (hb hby d12_143) (by decide) (by decide) ?_
      refine XS.iloadN X803.here hx rfl (hb hby d12_19) rfl ?_
      refine XS.aloadN X803.here hx rfl (hb hby d12_20) rfl rfl ?_
      refine st804 _ ?_
      refine XS.icmpYes X804.here hx rfl (pc0 := 24) (pc' := 146) rfl (hb hby d12_24) rfl (flt (by decide : ¬ ((3 : Int32) < (3 : Int32)))).2.1 (by decide) (by decide) ?_
      exact kt
    refine own_lv X804 Bd.notSynchronized (v := none) (fun _ => rfl) pre805 (fun fs hr => X804.returnOut hx Bd.returns (hb hby d12_146) hr) ?_
    show Q12_3 Z a1 c0 c1 c2 cs vf h0 n0 _ T804.heap _
    rw [e804]
    exact ⟨rfl, N804, rfl⟩
def Q27_40 (Z : State) (a1 : Addr) (p3 : Int32) (kb : ClassId) (y0 : Int32) (y1 : Int32) (y2 : Int32) (y3 : Int32) (y4 : Int32) (y5 : Int32) (y6 : Int32) (y7 : Int32) (h0 : Heap) (n0 : Nat) (v : Option Value) (h : Heap) (L : List Loc) : Prop := v = none ∧ Fr n0 L ∧ Keep h0 h [a1] ∧ Arv Z h a1 kb .byte (8 : Int32) [(.int (own_lo p3)), (.int (own_hi p3)), (.int y2), (.int y3), (.int y4), (.int y5), (.int y6), (.int y7)] (.int (0 : Int32))
theorem rm27_40 (l : Launch) (Z : State) (a0 : Array Value) (hw : own_H a0 Z) (ws : List Jvm.Cond) (a1 : Addr) (p3 : Int32) (kb : ClassId) (y0 : Int32) (y1 : Int32) (y2 : Int32) (y3 : Int32) (y4 : Int32) (y5 : Int32) (y6 : Int32) (y7 : Int32) (h0 : Heap) (n0 : Nat) (Z0 : n0 ≤ h0.size) (P0 : Arv Z h0 a1 kb .byte (8 : Int32) [(.int y0), (.int y1), (.int y2), (.int y3), (.int y4), (.int y5), (.int y6), (.int y7)] (.int (0 : Int32))) (P1 : Old Z n0 h0) (R2 : Sta Z Z.heap "java/lang/StringUTF16" "$assertionsDisabled" "Z" (.int 1)) (R3 : Sta Z Z.heap "java/lang/StringUTF16" "HI_BYTE_SHIFT" "I" (.int 0)) (R4 : Sta Z Z.heap "java/lang/StringUTF16" "LO_BYTE_SHIFT" "I" (.int 8)) (g_a1 : n0 ≤ a1) :
    own_M l Z (⟨"java/lang/StringUTF16", "putChar", "([BII)V"⟩ : MethodName) jdk_52_method_4_code 3 none ws ({ frames := 0, cells := 0, slots := 0, locals := 0 } : Room) #[(.ref a1), (.int 0), (.int p3)] h0 (Q27_40 Z a1 p3 kb y0 y1 y2 y3 y4 y5 y6 y7 h0 n0) := by
  refine own_bd (n0 := n0) (plainFor_of_name pn_27) fun p e s m below meth c s₁ Bd hZ hx hby hml hown X0 e0 N0 => ?_
  have pre0 := own_p0 (tb := p.tables) (e := e) (below := below) (s := s₁) (ef_27_10 m a1 p3)
  obtain ⟨T806, X806, e806, st806⟩ := getS2 X0 hx hZ hown (host := "") (Or.inl (ow hw 119 rfl)) Via.refl e0 (R2.ext P1.2) (g := (mkF m 0 #[rv a1, iv 0, iv p3] [])) rfl (hb hby d27_0)
  obtain ⟨T807, X807, e807, st807⟩ := getS2 X806 hx hZ hown (host := "") (Or.inl (ow hw 120 rfl)) Via.refl e806 (R3.ext P1.2) (g := (mkF m 38 #[rv a1, iv 1, iv p3] [(.int p3), (.int 0), (.ref a1)])) rfl (hb hby d27_38)
  obtain ⟨cl808, Ar808, q808, S808, N808z, H808, G808⟩ := id P0
  obtain ⟨T808, h808, X808, e808, W808, st808⟩ := stB X807 hx hZ e807 Ar808 (j := (0 : Int32)) (inb_of S808 ⟨by decide, by decide⟩) (g := (mkF m 43 #[rv a1, iv 1, iv p3] [(.int ((p3 >>> ((0 : Int32) &&& 31)).toInt8.toInt32)), (.int 0), (.ref a1)])) rfl rfl (hb hby d27_43)
  have V808 : Arv Z h808 a1 kb .byte (8 : Int32) [(.int (nar .byte ((p3 >>> ((0 : Int32) &&& 31)).toInt8.toInt32))), (.int y1), (.int y2), (.int y3), (.int y4), (.int y5), (.int y6), (.int y7)] (.int (0 : Int32)) := Arv.set Ar808 q808 S808 N808z H808 G808 (fits_nar_byte _) W808 0 rfl (Nat.le_of_ble_eq_true rfl)
  have N808 := Fr.snoc X808 N0 g_a1
  have K808 : Keep h0 h808 [a1] := (Keep.refl h0 [a1]).wr W808 (Or.inl (by simp))
  have z809 : n0 ≤ h808.size := (Nat.le_trans Z0 (Keep.of_wr W808).1)
  obtain ⟨T810, X810, e810, st810⟩ := getS2 X808 hx hZ hown (host := "") (Or.inl (ow hw 121 rfl)) Via.refl e808 (R4.ext (P1.wr W808 g_a1).2) (g := (mkF m 47 #[rv a1, iv 1, iv p3] [(.int p3), (.int 1), (.ref a1)])) rfl (hb hby d27_47)
  obtain ⟨cl811, Ar811, q811, S811, N811z, H811, G811⟩ := id V808
  obtain ⟨T811, h811, X811, e811, W811, st811⟩ := stB X810 hx hZ e810 Ar811 (j := (1 : Int32)) (inb_of S811 ⟨by decide, by decide⟩) (g := (mkF m 52 #[rv a1, iv 1, iv p3] [(.int ((p3 >>> ((8 : Int32) &&& 31)).toInt8.toInt32)), (.int 1), (.ref a1)])) rfl rfl (hb hby d27_52)
  have V811 : Arv Z h811 a1 kb .byte (8 : Int32) [(.int (nar .byte ((p3 >>> ((0 : Int32) &&& 31)).toInt8.toInt32))), (.int (nar .byte ((p3 >>> ((8 : Int32) &&& 31)).toInt8.toInt32))), (.int y2), (.int y3), (.int y4), (.int y5), (.int y6), (.int y7)] (.int (0 : Int32)) := Arv.set Ar811 q811 S811 N811z H811 G811 (fits_nar_byte _) W811 1 rfl (Nat.le_of_ble_eq_true rfl)
  have N811 := Fr.snoc X811 N808 g_a1
  have K811 : Keep h0 h811 [a1] := K808.wr W811 (Or.inl (by simp))
  have f812 := ((P1.wr W808 g_a1).wr W811 g_a1)
  have z813 : n0 ≤ h811.size := (Nat.le_trans z809 (Keep.of_wr W811).1)
  have V814 : Arv Z h811 a1 kb .byte (8 : Int32) [(.int (own_lo p3)), (.int (own_hi p3)), (.int y2), (.int y3), (.int y4), (.int y5), (.int y6), (.int y7)] (.int (0 : Int32)) := V811
  have pre815 := own_go pre0 (T811.setTop (mkF m 53 #[rv a1, iv 1, iv p3] [])) fun t kt => by
    refine st806 _ ?_
    refine XS.ifYes X806.here hx rfl (pc0 := 3) (pc' := 28) rfl (hb hby d27_3) rfl ((if0 _ _).trans (feq (by decide : ¬ ((1 : Int32) = (0 : Int32)))).2) (by decide) (by decide) ?_
    refine XS.iloadN X806.here hx rfl (hb hby d27_28) rfl ?_
    refine XS.iconst X806.here hx rfl (hb hby d27_29) ?_
    refine XS.ishl X806.here hx rfl (hb hby d27_30) rfl ?_
    refine XS.istoreN X806.here hx rfl (hb hby d27_31) rfl (l' := #[rv a1, iv 0, iv p3]) rfl ?_
    refine XS.aloadN X806.here hx rfl (hb hby d27_32) rfl rfl ?_
    refine XS.iloadN X806.here hx rfl (hb hby d27_33) rfl ?_
    refine XS.iinc X806.here hx rfl (hb hby d27_34) rfl (l' := #[rv a1, iv 1, iv p3]) rfl ?_
    refine XS.iloadN X806.here hx rfl (hb hby d27_37) rfl ?_
    refine st807 _ ?_
    refine XS.ishr X807.here hx rfl (hb hby d27_41) rfl ?_
    refine XS.i2b X807.here hx rfl (hb hby d27_42) rfl ?_
    refine st808 _ ?_
    refine XS.aloadN X808.here hx rfl (hb hby d27_44) rfl rfl ?_
    refine XS.iloadN X808.here hx rfl (hb hby d27_45) rfl ?_
    refine XS.iloadN X808.here hx rfl (hb hby d27_46) rfl ?_
    refine st810 _ ?_
    refine XS.ishr X810.here hx rfl (hb hby d27_50) rfl ?_
    refine XS.i2b X810.here hx rfl (hb hby d27_51) rfl ?_
    refine st811 _ ?_
    exact kt
  refine own_lv X811 Bd.notSynchronized (v := none) (fun _ => rfl) pre815 (fun fs hr => X811.returnOut hx Bd.returns (hb hby d27_53) hr) ?_
  show Q27_40 Z a1 p3 kb y0 y1 y2 y3 y4 y5 y6 y7 h0 n0 _ T811.heap _
  rw [e811]
  exact ⟨rfl, N811, K811, V814⟩
def Q27_41 (Z : State) (a1 : Addr) (p3 : Int32) (kb : ClassId) (y0 : Int32) (y1 : Int32) (y2 : Int32) (y3 : Int32) (y4 : Int32) (y5 : Int32) (y6 : Int32) (y7 : Int32) (h0 : Heap) (n0 : Nat) (v : Option Value) (h : Heap) (L : List Loc) : Prop := v = none ∧ Fr n0 L ∧ Keep h0 h [a1] ∧ Arv Z h a1 kb .byte (8 : Int32) [(.int y0), (.int y1), (.int (own_lo p3)), (.int (own_hi p3)), (.int y4), (.int y5), (.int y6), (.int y7)] (.int (0 : Int32))
theorem rm27_41 (l : Launch) (Z : State) (a0 : Array Value) (hw : own_H a0 Z) (ws : List Jvm.Cond) (a1 : Addr) (p3 : Int32) (kb : ClassId) (y0 : Int32) (y1 : Int32) (y2 : Int32) (y3 : Int32) (y4 : Int32) (y5 : Int32) (y6 : Int32) (y7 : Int32) (h0 : Heap) (n0 : Nat) (Z0 : n0 ≤ h0.size) (P0 : Arv Z h0 a1 kb .byte (8 : Int32) [(.int y0), (.int y1), (.int y2), (.int y3), (.int y4), (.int y5), (.int y6), (.int y7)] (.int (0 : Int32))) (P1 : Old Z n0 h0) (R2 : Sta Z Z.heap "java/lang/StringUTF16" "$assertionsDisabled" "Z" (.int 1)) (R3 : Sta Z Z.heap "java/lang/StringUTF16" "HI_BYTE_SHIFT" "I" (.int 0)) (R4 : Sta Z Z.heap "java/lang/StringUTF16" "LO_BYTE_SHIFT" "I" (.int 8)) (g_a1 : n0 ≤ a1) :
    own_M l Z (⟨"java/lang/StringUTF16", "putChar", "([BII)V"⟩ : MethodName) jdk_52_method_4_code 3 none ws ({ frames := 0, cells := 0, slots := 0, locals := 0 } : Room) #[(.ref a1), (.int 1), (.int p3)] h0 (Q27_41 Z a1 p3 kb y0 y1 y2 y3 y4 y5 y6 y7 h0 n0) := by
  refine own_bd (n0 := n0) (plainFor_of_name pn_27) fun p e s m below meth c s₁ Bd hZ hx hby hml hown X0 e0 N0 => ?_
  have pre0 := own_p0 (tb := p.tables) (e := e) (below := below) (s := s₁) (ef_27_21 m a1 p3)
  obtain ⟨T816, X816, e816, st816⟩ := getS2 X0 hx hZ hown (host := "") (Or.inl (ow hw 119 rfl)) Via.refl e0 (R2.ext P1.2) (g := (mkF m 0 #[rv a1, iv 1, iv p3] [])) rfl (hb hby d27_0)
  obtain ⟨T817, X817, e817, st817⟩ := getS2 X816 hx hZ hown (host := "") (Or.inl (ow hw 120 rfl)) Via.refl e816 (R3.ext P1.2) (g := (mkF m 38 #[rv a1, iv 3, iv p3] [(.int p3), (.int 2), (.ref a1)])) rfl (hb hby d27_38)
  obtain ⟨cl818, Ar818, q818, S818, N818z, H818, G818⟩ := id P0
  obtain ⟨T818, h818, X818, e818, W818, st818⟩ := stB X817 hx hZ e817 Ar818 (j := (2 : Int32)) (inb_of S818 ⟨by decide, by decide⟩) (g := (mkF m 43 #[rv a1, iv 3, iv p3] [(.int ((p3 >>> ((0 : Int32) &&& 31)).toInt8.toInt32)), (.int 2), (.ref a1)])) rfl rfl (hb hby d27_43)
  have V818 : Arv Z h818 a1 kb .byte (8 : Int32) [(.int y0), (.int y1), (.int (nar .byte ((p3 >>> ((0 : Int32) &&& 31)).toInt8.toInt32))), (.int y3), (.int y4), (.int y5), (.int y6), (.int y7)] (.int (0 : Int32)) := Arv.set Ar818 q818 S818 N818z H818 G818 (fits_nar_byte _) W818 2 rfl (Nat.le_of_ble_eq_true rfl)
  have N818 := Fr.snoc X818 N0 g_a1
  have K818 : Keep h0 h818 [a1] := (Keep.refl h0 [a1]).wr W818 (Or.inl (by simp))
  have z819 : n0 ≤ h818.size := (Nat.le_trans Z0 (Keep.of_wr W818).1)
  obtain ⟨T820, X820, e820, st820⟩ := getS2 X818 hx hZ hown (host := "") (Or.inl (ow hw 121 rfl)) Via.refl e818 (R4.ext (P1.wr W818 g_a1).2) (g := (mkF m 47 #[rv a1, iv 3, iv p3] [(.int p3), (.int 3), (.ref a1)])) rfl (hb hby d27_47)
  obtain ⟨cl821, Ar821, q821, S821, N821z, H821, G821⟩ := id V818
  obtain ⟨T821, h821, X821, e821, W821, st821⟩ := stB X820 hx hZ e820 Ar821 (j := (3 : Int32)) (inb_of S821 ⟨by decide, by decide⟩) (g := (mkF m 52 #[rv a1, iv 3, iv p3] [(.int ((p3 >>> ((8 : Int32) &&& 31)).toInt8.toInt32)), (.int 3), (.ref a1)])) rfl rfl (hb hby d27_52)
  have V821 : Arv Z h821 a1 kb .byte (8 : Int32) [(.int y0), (.int y1), (.int (nar .byte ((p3 >>> ((0 : Int32) &&& 31)).toInt8.toInt32))), (.int (nar .byte ((p3 >>> ((8 : Int32) &&& 31)).toInt8.toInt32))), (.int y4), (.int y5), (.int y6), (.int y7)] (.int (0 : Int32)) := Arv.set Ar821 q821 S821 N821z H821 G821 (fits_nar_byte _) W821 3 rfl (Nat.le_of_ble_eq_true rfl)
  have N821 := Fr.snoc X821 N818 g_a1
  have K821 : Keep h0 h821 [a1] := K818.wr W821 (Or.inl (by simp))
  have f822 := ((P1.wr W818 g_a1).wr W821 g_a1)
  have z823 : n0 ≤ h821.size := (Nat.le_trans z819 (Keep.of_wr W821).1)
  have V824 : Arv Z h821 a1 kb .byte (8 : Int32) [(.int y0), (.int y1), (.int (own_lo p3)), (.int (own_hi p3)), (.int y4), (.int y5), (.int y6), (.int y7)] (.int (0 : Int32)) := V821
  have pre825 := own_go pre0 (T821.setTop (mkF m 53 #[rv a1, iv 3, iv p3] [])) fun t kt => by
    refine st816 _ ?_
    refine XS.ifYes X816.here hx rfl (pc0 := 3) (pc' := 28) rfl (hb hby d27_3) rfl ((if0 _ _).trans (feq (by decide : ¬ ((1 : Int32) = (0 : Int32)))).2) (by decide) (by decide) ?_
    refine XS.iloadN X816.here hx rfl (hb hby d27_28) rfl ?_
    refine XS.iconst X816.here hx rfl (hb hby d27_29) ?_
    refine XS.ishl X816.here hx rfl (hb hby d27_30) rfl ?_
    refine XS.istoreN X816.here hx rfl (hb hby d27_31) rfl (l' := #[rv a1, iv 2, iv p3]) rfl ?_
    refine XS.aloadN X816.here hx rfl (hb hby d27_32) rfl rfl ?_
    refine XS.iloadN X816.here hx rfl (hb hby d27_33) rfl ?_
    refine XS.iinc X816.here hx rfl (hb hby d27_34) rfl (l' := #[rv a1, iv 3, iv p3]) rfl ?_
    refine XS.iloadN X816.here hx rfl (hb hby d27_37) rfl ?_
    refine st817 _ ?_
    refine XS.ishr X817.here hx rfl (hb hby d27_41) rfl ?_
    refine XS.i2b X817.here hx rfl (hb hby d27_42) rfl ?_
    refine st818 _ ?_
    refine XS.aloadN X818.here hx rfl (hb hby d27_44) rfl rfl ?_
    refine XS.iloadN X818.here hx rfl (hb hby d27_45) rfl ?_
    refine XS.iloadN X818.here hx rfl (hb hby d27_46) rfl ?_
    refine st820 _ ?_
    refine XS.ishr X820.here hx rfl (hb hby d27_50) rfl ?_
    refine XS.i2b X820.here hx rfl (hb hby d27_51) rfl ?_
    refine st821 _ ?_
    exact kt
  refine own_lv X821 Bd.notSynchronized (v := none) (fun _ => rfl) pre825 (fun fs hr => X821.returnOut hx Bd.returns (hb hby d27_53) hr) ?_
  show Q27_41 Z a1 p3 kb y0 y1 y2 y3 y4 y5 y6 y7 h0 n0 _ T821.heap _
  rw [e821]
  exact ⟨rfl, N821, K821, V824⟩
def Q27_42 (Z : State) (a1 : Addr) (p3 : Int32) (kb : ClassId) (y0 : Int32) (y1 : Int32) (y2 : Int32) (y3 : Int32) (y4 : Int32) (y5 : Int32) (y6 : Int32) (y7 : Int32) (h0 : Heap) (n0 : Nat) (v : Option Value) (h : Heap) (L : List Loc) : Prop := v = none ∧ Fr n0 L ∧ Keep h0 h [a1] ∧ Arv Z h a1 kb .byte (8 : Int32) [(.int y0), (.int y1), (.int y2), (.int y3), (.int (own_lo p3)), (.int (own_hi p3)), (.int y6), (.int y7)] (.int (0 : Int32))
theorem rm27_42 (l : Launch) (Z : State) (a0 : Array Value) (hw : own_H a0 Z) (ws : List Jvm.Cond) (a1 : Addr) (p3 : Int32) (kb : ClassId) (y0 : Int32) (y1 : Int32) (y2 : Int32) (y3 : Int32) (y4 : Int32) (y5 : Int32) (y6 : Int32) (y7 : Int32) (h0 : Heap) (n0 : Nat) (Z0 : n0 ≤ h0.size) (P0 : Arv Z h0 a1 kb .byte (8 : Int32) [(.int y0), (.int y1), (.int y2), (.int y3), (.int y4), (.int y5), (.int y6), (.int y7)] (.int (0 : Int32))) (P1 : Old Z n0 h0) (R2 : Sta Z Z.heap "java/lang/StringUTF16" "$assertionsDisabled" "Z" (.int 1)) (R3 : Sta Z Z.heap "java/lang/StringUTF16" "HI_BYTE_SHIFT" "I" (.int 0)) (R4 : Sta Z Z.heap "java/lang/StringUTF16" "LO_BYTE_SHIFT" "I" (.int 8)) (g_a1 : n0 ≤ a1) :
    own_M l Z (⟨"java/lang/StringUTF16", "putChar", "([BII)V"⟩ : MethodName) jdk_52_method_4_code 3 none ws ({ frames := 0, cells := 0, slots := 0, locals := 0 } : Room) #[(.ref a1), (.int 2), (.int p3)] h0 (Q27_42 Z a1 p3 kb y0 y1 y2 y3 y4 y5 y6 y7 h0 n0) := by
  refine own_bd (n0 := n0) (plainFor_of_name pn_27) fun p e s m below meth c s₁ Bd hZ hx hby hml hown X0 e0 N0 => ?_
  have pre0 := own_p0 (tb := p.tables) (e := e) (below := below) (s := s₁) (ef_27_32 m a1 p3)
  obtain ⟨T826, X826, e826, st826⟩ := getS2 X0 hx hZ hown (host := "") (Or.inl (ow hw 119 rfl)) Via.refl e0 (R2.ext P1.2) (g := (mkF m 0 #[rv a1, iv 2, iv p3] [])) rfl (hb hby d27_0)
  obtain ⟨T827, X827, e827, st827⟩ := getS2 X826 hx hZ hown (host := "") (Or.inl (ow hw 120 rfl)) Via.refl e826 (R3.ext P1.2) (g := (mkF m 38 #[rv a1, iv 5, iv p3] [(.int p3), (.int 4), (.ref a1)])) rfl (hb hby d27_38)
  obtain ⟨cl828, Ar828, q828, S828, N828z, H828, G828⟩ := id P0
  obtain ⟨T828, h828, X828, e828, W828, st828⟩ := stB X827 hx hZ e827 Ar828 (j := (4 : Int32)) (inb_of S828 ⟨by decide, by decide⟩) (g := (mkF m 43 #[rv a1, iv 5, iv p3] [(.int ((p3 >>> ((0 : Int32) &&& 31)).toInt8.toInt32)), (.int 4), (.ref a1)])) rfl rfl (hb hby d27_43)
  have V828 : Arv Z h828 a1 kb .byte (8 : Int32) [(.int y0), (.int y1), (.int y2), (.int y3), (.int (nar .byte ((p3 >>> ((0 : Int32) &&& 31)).toInt8.toInt32))), (.int y5), (.int y6), (.int y7)] (.int (0 : Int32)) := Arv.set Ar828 q828 S828 N828z H828 G828 (fits_nar_byte _) W828 4 rfl (Nat.le_of_ble_eq_true rfl)
  have N828 := Fr.snoc X828 N0 g_a1
  have K828 : Keep h0 h828 [a1] := (Keep.refl h0 [a1]).wr W828 (Or.inl (by simp))
  have z829 : n0 ≤ h828.size := (Nat.le_trans Z0 (Keep.of_wr W828).1)
  obtain ⟨T830, X830, e830, st830⟩ := getS2 X828 hx hZ hown (host := "") (Or.inl (ow hw 121 rfl)) Via.refl e828 (R4.ext (P1.wr W828 g_a1).2) (g := (mkF m 47 #[rv a1, iv 5, iv p3] [(.int p3), (.int 5), (.ref a1)])) rfl (hb hby d27_47)
  obtain ⟨cl831, Ar831, q831, S831, N831z, H831, G831⟩ := id V828
  obtain ⟨T831, h831, X831, e831, W831, st831⟩ := stB X830 hx hZ e830 Ar831 (j := (5 : Int32)) (inb_of S831 ⟨by decide, by decide⟩) (g := (mkF m 52 #[rv a1, iv 5, iv p3] [(.int ((p3 >>> ((8 : Int32) &&& 31)).toInt8.toInt32)), (.int 5), (.ref a1)])) rfl rfl (hb hby d27_52)
  have V831 : Arv Z h831 a1 kb .byte (8 : Int32) [(.int y0), (.int y1), (.int y2), (.int y3), (.int (nar .byte ((p3 >>> ((0 : Int32) &&& 31)).toInt8.toInt32))), (.int (nar .byte ((p3 >>> ((8 : Int32) &&& 31)).toInt8.toInt32))), (.int y6), (.int y7)] (.int (0 : Int32)) := Arv.set Ar831 q831 S831 N831z H831 G831 (fits_nar_byte _) W831 5 rfl (Nat.le_of_ble_eq_true rfl)
  have N831 := Fr.snoc X831 N828 g_a1
  have K831 : Keep h0 h831 [a1] := K828.wr W831 (Or.inl (by simp))
  have f832 := ((P1.wr W828 g_a1).wr W831 g_a1)
  have z833 : n0 ≤ h831.size := (Nat.le_trans z829 (Keep.of_wr W831).1)
  have V834 : Arv Z h831 a1 kb .byte (8 : Int32) [(.int y0), (.int y1), (.int y2), (.int y3), (.int (own_lo p3)), (.int (own_hi p3)), (.int y6), (.int y7)] (.int (0 : Int32)) := V831
  have pre835 := own_go pre0 (T831.setTop (mkF m 53 #[rv a1, iv 5, iv p3] [])) fun t kt => by
    refine st826 _ ?_
    refine XS.ifYes X826.here hx rfl (pc0 := 3) (pc' := 28) rfl (hb hby d27_3) rfl ((if0 _ _).trans (feq (by decide : ¬ ((1 : Int32) = (0 : Int32)))).2) (by decide) (by decide) ?_
    refine XS.iloadN X826.here hx rfl (hb hby d27_28) rfl ?_
    refine XS.iconst X826.here hx rfl (hb hby d27_29) ?_
    refine XS.ishl X826.here hx rfl (hb hby d27_30) rfl ?_
    refine XS.istoreN X826.here hx rfl (hb hby d27_31) rfl (l' := #[rv a1, iv 4, iv p3]) rfl ?_
    refine XS.aloadN X826.here hx rfl (hb hby d27_32) rfl rfl ?_
    refine XS.iloadN X826.here hx rfl (hb hby d27_33) rfl ?_
    refine XS.iinc X826.here hx rfl (hb hby d27_34) rfl (l' := #[rv a1, iv 5, iv p3]) rfl ?_
    refine XS.iloadN X826.here hx rfl (hb hby d27_37) rfl ?_
    refine st827 _ ?_
    refine XS.ishr X827.here hx rfl (hb hby d27_41) rfl ?_
    refine XS.i2b X827.here hx rfl (hb hby d27_42) rfl ?_
    refine st828 _ ?_
    refine XS.aloadN X828.here hx rfl (hb hby d27_44) rfl rfl ?_
    refine XS.iloadN X828.here hx rfl (hb hby d27_45) rfl ?_
    refine XS.iloadN X828.here hx rfl (hb hby d27_46) rfl ?_
    refine st830 _ ?_
    refine XS.ishr X830.here hx rfl (hb hby d27_50) rfl ?_
    refine XS.i2b X830.here hx rfl (hb hby d27_51) rfl ?_
    refine st831 _ ?_
    exact kt
  refine own_lv X831 Bd.notSynchronized (v := none) (fun _ => rfl) pre835 (fun fs hr => X831.returnOut hx Bd.returns (hb hby d27_53) hr) ?_
  show Q27_42 Z a1 p3 kb y0 y1 y2 y3 y4 y5 y6 y7 h0 n0 _ T831.heap _
  rw [e831]
  exact ⟨rfl, N831, K831, V834⟩
theorem ef_27_43 (m : MethodId) (x0 : Addr) (x2 : Int32) : entryFrame m #[(.ref x0), (.int 3), (.int x2)] 3 = mkF m 0 #[.val (.ref x0), .val (.int 3), .val (.int x2)] [] := by first | (simp [entryFrame, mkF, argsToLocals, Value.category]; done) | rfl
def Q27_43 (Z : State) (a1 : Addr) (p3 : Int32) (kb : ClassId) (y0 : Int32) (y1 : Int32) (y2 : Int32) (y3 : Int32) (y4 : Int32) (y5 : Int32) (y6 : Int32) (y7 : Int32) (h0 : Heap) (n0 : Nat) (v : Option Value) (h : Heap) (L : List Loc) : Prop := v = none ∧ Fr n0 L ∧ Keep h0 h [a1] ∧ Arv Z h a1 kb .byte (8 : Int32) [(.int y0), (.int y1), (.int y2), (.int y3), (.int y4), (.int y5), (.int (own_lo p3)), (.int (own_hi p3))] (.int (0 : Int32))
theorem rm27_43 (l : Launch) (Z : State) (a0 : Array Value) (hw : own_H a0 Z) (ws : List Jvm.Cond) (a1 : Addr) (p3 : Int32) (kb : ClassId) (y0 : Int32) (y1 : Int32) (y2 : Int32) (y3 : Int32) (y4 : Int32) (y5 : Int32) (y6 : Int32) (y7 : Int32) (h0 : Heap) (n0 : Nat) (Z0 : n0 ≤ h0.size) (P0 : Arv Z h0 a1 kb .byte (8 : Int32) [(.int y0), (.int y1), (.int y2), (.int y3), (.int y4), (.int y5), (.int y6), (.int y7)] (.int (0 : Int32))) (P1 : Old Z n0 h0) (R2 : Sta Z Z.heap "java/lang/StringUTF16" "$assertionsDisabled" "Z" (.int 1)) (R3 : Sta Z Z.heap "java/lang/StringUTF16" "HI_BYTE_SHIFT" "I" (.int 0)) (R4 : Sta Z Z.heap "java/lang/StringUTF16" "LO_BYTE_SHIFT" "I" (.int 8)) (g_a1 : n0 ≤ a1) :
    own_M l Z (⟨"java/lang/StringUTF16", "putChar", "([BII)V"⟩ : MethodName) jdk_52_method_4_code 3 none ws ({ frames := 0, cells := 0, slots := 0, locals := 0 } : Room) #[(.ref a1), (.int 3), (.int p3)] h0 (Q27_43 Z a1 p3 kb y0 y1 y2 y3 y4 y5 y6 y7 h0 n0) := by
  refine own_bd (n0 := n0) (plainFor_of_name pn_27) fun p e s m below meth c s₁ Bd hZ hx hby hml hown X0 e0 N0 => ?_
  have pre0 := own_p0 (tb := p.tables) (e := e) (below := below) (s := s₁) (ef_27_43 m a1 p3)
  obtain ⟨T836, X836, e836, st836⟩ := getS2 X0 hx hZ hown (host := "") (Or.inl (ow hw 119 rfl)) Via.refl e0 (R2.ext P1.2) (g := (mkF m 0 #[rv a1, iv 3, iv p3] [])) rfl (hb hby d27_0)
  obtain ⟨T837, X837, e837, st837⟩ := getS2 X836 hx hZ hown (host := "") (Or.inl (ow hw 120 rfl)) Via.refl e836 (R3.ext P1.2) (g := (mkF m 38 #[rv a1, iv 7, iv p3] [(.int p3), (.int 6), (.ref a1)])) rfl (hb hby d27_38)
  obtain ⟨cl838, Ar838, q838, S838, N838z, H838, G838⟩ := id P0
  obtain ⟨T838, h838, X838, e838, W838, st838⟩ := stB X837 hx hZ e837 Ar838 (j := (6 : Int32)) (inb_of S838 ⟨by decide, by decide⟩) (g := (mkF m 43 #[rv a1, iv 7, iv p3] [(.int ((p3 >>> ((0 : Int32) &&& 31)).toInt8.toInt32)), (.int 6), (.ref a1)])) rfl rfl (hb hby d27_43)
  have V838 : Arv Z h838 a1 kb .byte (8 : Int32) [(.int y0), (.int y1), (.int y2), (.int y3), (.int y4), (.int y5), (.int (nar .byte ((p3 >>> ((0 : Int32) &&& 31)).toInt8.toInt32))), (.int y7)] (.int (0 : Int32)) := Arv.set Ar838 q838 S838 N838z H838 G838 (fits_nar_byte _) W838 6 rfl (Nat.le_of_ble_eq_true rfl)
  have N838 := Fr.snoc X838 N0 g_a1
  have K838 : Keep h0 h838 [a1] := (Keep.refl h0 [a1]).wr W838 (Or.inl (by simp))
  have z839 : n0 ≤ h838.size := (Nat.le_trans Z0 (Keep.of_wr W838).1)
  obtain ⟨T840, X840, e840, st840⟩ := getS2 X838 hx hZ hown (host := "") (Or.inl (ow hw 121 rfl)) Via.refl e838 (R4.ext (P1.wr W838 g_a1).2) (g := (mkF m 47 #[rv a1, iv 7, iv p3] [(.int p3), (.int 7), (.ref a1)])) rfl (hb hby d27_47)
  obtain ⟨cl841, Ar841, q841, S841, N841z, H841, G841⟩ := id V838
  obtain ⟨T841, h841, X841, e841, W841, st841⟩ := stB X840 hx hZ e840 Ar841 (j := (7 : Int32)) (inb_of S841 ⟨by decide, by decide⟩) (g := (mkF m 52 #[rv a1, iv 7, iv p3] [(.int ((p3 >>> ((8 : Int32) &&& 31)).toInt8.toInt32)), (.int 7), (.ref a1)])) rfl rfl (hb hby d27_52)
  have V841 : Arv Z h841 a1 kb .byte (8 : Int32) [(.int y0), (.int y1), (.int y2), (.int y3), (.int y4), (.int y5), (.int (nar .byte ((p3 >>> ((0 : Int32) &&& 31)).toInt8.toInt32))), (.int (nar .byte ((p3 >>> ((8 : Int32) &&& 31)).toInt8.toInt32)))] (.int (0 : Int32)) := Arv.set Ar841 q841 S841 N841z H841 G841 (fits_nar_byte _) W841 7 rfl (Nat.le_of_ble_eq_true rfl)
  have N841 := Fr.snoc X841 N838 g_a1
  have K841 : Keep h0 h841 [a1] := K838.wr W841 (Or.inl (by simp))
  have f842 := ((P1.wr W838 g_a1).wr W841 g_a1)
  have z843 : n0 ≤ h841.size := (Nat.le_trans z839 (Keep.of_wr W841).1)
  have V844 : Arv Z h841 a1 kb .byte (8 : Int32) [(.int y0), (.int y1), (.int y2), (.int y3), (.int y4), (.int y5), (.int (own_lo p3)), (.int (own_hi p3))] (.int (0 : Int32)) := V841
  have pre845 := own_go pre0 (T841.setTop (mkF m 53 #[rv a1, iv 7, iv p3] [])) fun t kt => by
    refine st836 _ ?_
    refine XS.ifYes X836.here hx rfl (pc0 := 3) (pc' := 28) rfl (hb hby d27_3) rfl ((if0 _ _).trans (feq (by decide : ¬ ((1 : Int32) = (0 : Int32)))).2) (by decide) (by decide) ?_
    refine XS.iloadN X836.here hx rfl (hb hby d27_28) rfl ?_
    refine XS.iconst X836.here hx rfl (hb hby d27_29) ?_
    refine XS.ishl X836.here hx rfl (hb hby d27_30) rfl ?_
    refine XS.istoreN X836.here hx rfl (hb hby d27_31) rfl (l' := #[rv a1, iv 6, iv p3]) rfl ?_
    refine XS.aloadN X836.here hx rfl (hb hby d27_32) rfl rfl ?_
    refine XS.iloadN X836.here hx rfl (hb hby d27_33) rfl ?_
    refine XS.iinc X836.here hx rfl (hb hby d27_34) rfl (l' := #[rv a1, iv 7, iv p3]) rfl ?_
    refine XS.iloadN X836.here hx rfl (hb hby d27_37) rfl ?_
    refine st837 _ ?_
    refine XS.ishr X837.here hx rfl (hb hby d27_41) rfl ?_
    refine XS.i2b X837.here hx rfl (hb hby d27_42) rfl ?_
    refine st838 _ ?_
    refine XS.aloadN X838.here hx rfl (hb hby d27_44) rfl rfl ?_
    refine XS.iloadN X838.here hx rfl (hb hby d27_45) rfl ?_
    refine XS.iloadN X838.here hx rfl (hb hby d27_46) rfl ?_
    refine st840 _ ?_
    refine XS.ishr X840.here hx rfl (hb hby d27_50) rfl ?_
    refine XS.i2b X840.here hx rfl (hb hby d27_51) rfl ?_
    refine st841 _ ?_
    exact kt
  refine own_lv X841 Bd.notSynchronized (v := none) (fun _ => rfl) pre845 (fun fs hr => X841.returnOut hx Bd.returns (hb hby d27_53) hr) ?_
  show Q27_43 Z a1 p3 kb y0 y1 y2 y3 y4 y5 y6 y7 h0 n0 _ T841.heap _
  rw [e841]
  exact ⟨rfl, N841, K841, V844⟩
theorem ef_26_4 (m : MethodId)  : entryFrame m #[(.int 4)] 1 = mkF m 0 #[.val (.int 4)] [] := by first | (simp [entryFrame, mkF, argsToLocals, Value.category]; done) | rfl
def Q26_4 (Z : State)  (h0 : Heap) (n0 : Nat) (v : Option Value) (h : Heap) (L : List Loc) : Prop := v = some (.int 8) ∧ Fr n0 L ∧ h = h0
theorem rm26_4 (l : Launch) (Z : State) (a0 : Array Value) (hw : own_H a0 Z) (ws : List Jvm.Cond)  (h0 : Heap) (n0 : Nat) (Z0 : n0 ≤ h0.size) :
    own_M l Z (⟨"java/lang/StringUTF16", "newBytesLength", "(I)I"⟩ : MethodName) jdk_52_method_3_code 1 (some .int) ws ({ frames := 0, cells := 0, slots := 0, locals := 0 } : Room) #[(.int 4)] h0 (Q26_4 Z  h0 n0) := by
  refine own_bd (n0 := n0) (plainFor_of_name pn_26) fun p e s m below meth c s₁ Bd hZ hx hby hml hown X0 e0 N0 => ?_
  have pre0 := own_p0 (tb := p.tables) (e := e) (below := below) (s := s₁) (ef_26_4 m )
  have pre846 := own_go pre0 (s₁.setTop (mkF m 58 #[iv 4] [(.int 8)])) fun t kt => by
    refine XS.iloadN X0.here hx rfl (hb hby d26_0) rfl ?_
    refine XS.ifYes X0.here hx rfl (pc0 := 1) (pc' := 12) rfl (hb hby d26_1) rfl ((if0 _ _).trans (flt (by decide : ¬ ((4 : Int32) < (0 : Int32)))).2.1) (by decide) (by decide) ?_
    refine XS.iloadN X0.here hx rfl (hb hby d26_12) rfl ?_
    refine X0.ldcInt hx hown (mvT hZ (ow hw 115 rfl)) (g := (mkF m 13 #[iv 4] [(.int 4)])) rfl (hb hby d26_13) _ ?_
    refine XS.icmpYes X0.here hx rfl (pc0 := 15) (pc' := 55) rfl (hb hby d26_15) rfl (tlt (by decide : (4 : Int32) < (1073741823 : Int32))).1 (by decide) (by decide) ?_
    refine XS.iloadN X0.here hx rfl (hb hby d26_55) rfl ?_
    refine XS.iconst X0.here hx rfl (hb hby d26_56) ?_
    refine XS.ishl X0.here hx rfl (hb hby d26_57) rfl ?_
    exact kt
  refine own_lv X0 Bd.notSynchronized (v := some (.int 8)) (own_nv Bd.returns) pre846 (fun fs hr => retI X0 hx Bd.returns (hb hby d26_58) hr) ?_
  show Q26_4 Z  h0 n0 _ s₁.heap _
  rw [e0]
  exact ⟨rfl, N0, rfl⟩
theorem ef_25_4 (m : MethodId)  : entryFrame m #[(.int 4)] 1 = mkF m 0 #[.val (.int 4)] [] := by first | (simp [entryFrame, mkF, argsToLocals, Value.category]; done) | rfl
def Q25_4 (Z : State)  (h0 : Heap) (n0 : Nat) (v : Option Value) (h : Heap) (L : List Loc) : Prop := ∃ (x1 : Addr) (kx1 : ClassId), v = some (.ref x1) ∧ Fr n0 L ∧ Keep h0 h [] ∧ n0 ≤ x1 ∧ h0.size ≤ x1 ∧ Arv Z h x1 kx1 .byte (8 : Int32) [(.int 0), (.int 0), (.int 0), (.int 0), (.int 0), (.int 0), (.int 0), (.int 0)] (.int (0 : Int32))
theorem rm25_4 (l : Launch) (Z : State) (a0 : Array Value) (hw : own_H a0 Z) (ws : List Jvm.Cond)  (h0 : Heap) (n0 : Nat) (Z0 : n0 ≤ h0.size) :
    own_M l Z (⟨"java/lang/StringUTF16", "newBytesFor", "(I)[B"⟩ : MethodName) jdk_52_method_2_code 1 (some (.array .byte)) ws ({ frames := 1, cells := 1, slots := 8, locals := 12 } : Room) #[(.int 4)] h0 (Q25_4 Z  h0 n0) := by
  refine own_bd (n0 := n0) (plainFor_of_name pn_25) fun p e s m below meth c s₁ Bd hZ hx hby hml hown X0 e0 N0 => ?_
  have pre0 := own_p0 (tb := p.tables) (e := e) (below := below) (s := s₁) (ef_25_4 m )
  obtain ⟨T847, L847, X847, e847, N847, st847⟩ := own_pS X0 hx hZ hml hown N0 (ow hw 112 rfl) (ow hw 113 rfl) (ow hw 36 rfl) (ow hw 114 rfl) e0 (rm26_4 l Z a0 hw []  h0 n0 Z0) (W := 0) (g := (mkF m 1 #[iv 4] [(.int 4)])) (argsL := [(.int 4)]) (rest := []) (lenOf pd_8 rfl) (hb hby d25_1)
  obtain ⟨T848, h848, k848, X848, e848, E848, A848, st848⟩ := newP X847 hx hZ (ow hw 38 rfl) e847 (g := (mkF m 4 #[iv 4] [(.int 8)])) rfl (hb hby d25_4) rfl (by decide) (cap := 8) (by decide) (by decide) (by decide) (by decide)
  obtain ⟨b848, g848⟩ : ∃ z, z = h0.size := ⟨_, rfl⟩
  rw [← g848] at A848 st848
  have g_b848 : n0 ≤ b848 := Nat.le_trans Z0 (Nat.le_of_eq g848.symm)
  have sz_b848 : h0.size ≤ b848 := Nat.le_trans (Keep.refl h0 []).1 (Nat.le_of_eq g848.symm)
  have K848 : Keep h0 h848 [] := (Keep.refl h0 []).ext E848
  have V848 : Arv Z h848 b848 k848 .byte (8 : Int32) [(.int 0), (.int 0), (.int 0), (.int 0), (.int 0), (.int 0), (.int 0), (.int 0)] (.int (0 : Int32)) := (Arv.new A848 (by decide)).pad (pad_rep [] (.int (0 : Int32)) 8)
  have pre849 := own_go pre0 (T848.setTop (mkF m 6 #[iv 4] [(.ref b848)])) fun t kt => by
    refine XS.iloadN X0.here hx rfl (hb hby d25_0) rfl ?_
    refine st847 _ ?_
    refine st848 _ ?_
    exact kt
  refine own_lv X848 Bd.notSynchronized (v := some (.ref b848)) (own_nv Bd.returns) pre849 (fun fs hr => retOut X848 hx Bd.returns (own_nref _ rfl) (Or.inr (Or.inr (Or.inr (Or.inr ⟨rfl, rfl, rfl⟩)))) (hb hby d25_6) hr) ?_
  show Q25_4 Z  h0 n0 _ T848.heap _
  rw [e848]
  exact ⟨b848, k848, rfl, N847, K848, g_b848, sz_b848, V848⟩
theorem ef_24_4 (m : MethodId) (x0 : Addr) : entryFrame m #[(.ref x0), (.int 0), (.int 4)] 5 = mkF m 0 #[.val (.ref x0), .val (.int 0), .val (.int 4), .unset, .unset] [] := by first | (simp [entryFrame, mkF, argsToLocals, Value.category]; done) | rfl
def Q24_4 (Z : State) (a1 : Addr) (kc : ClassId) (c0 : Int32) (c1 : Int32) (c2 : Int32) (c3 : Int32) (h0 : Heap) (n0 : Nat) (v : Option Value) (h : Heap) (L : List Loc) : Prop := ∃ (x1 : Addr) (kx1 : ClassId), v = some (.ref x1) ∧ Fr n0 L ∧ Keep h0 h [] ∧ n0 ≤ x1 ∧ h0.size ≤ x1 ∧ Arv Z h x1 kx1 .byte (8 : Int32) [(.int (own_lo c0)), (.int (own_hi c0)), (.int (own_lo c1)), (.int (own_hi c1)), (.int (own_lo c2)), (.int (own_hi c2)), (.int (own_lo c3)), (.int (own_hi c3))] (.int (0 : Int32))
theorem rm24_4 (l : Launch) (Z : State) (a0 : Array Value) (hw : own_H a0 Z) (ws : List Jvm.Cond) (a1 : Addr) (kc : ClassId) (c0 : Int32) (c1 : Int32) (c2 : Int32) (c3 : Int32) (h0 : Heap) (n0 : Nat) (Z0 : n0 ≤ h0.size) (P0 : Arv Z h0 a1 kc .char (4 : Int32) [(.int c0), (.int c1), (.int c2), (.int c3)] (.int (0 : Int32))) (P1 : Old Z n0 h0) (R2 : Sta Z Z.heap "java/lang/StringUTF16" "$assertionsDisabled" "Z" (.int 1)) (R3 : Sta Z Z.heap "java/lang/StringUTF16" "HI_BYTE_SHIFT" "I" (.int 0)) (R4 : Sta Z Z.heap "java/lang/StringUTF16" "LO_BYTE_SHIFT" "I" (.int 8)) :
    own_M l Z (⟨"java/lang/StringUTF16", "toBytes", "([CII)[B"⟩ : MethodName) jdk_52_method_14_code 5 (some (.array .byte)) ws ({ frames := 2, cells := 1, slots := 8, locals := 24 } : Room) #[(.ref a1), (.int 0), (.int 4)] h0 (Q24_4 Z a1 kc c0 c1 c2 c3 h0 n0) := by
  refine own_bd (n0 := n0) (plainFor_of_name pn_24) fun p e s m below meth c s₁ Bd hZ hx hby hml hown X0 e0 N0 => ?_
  have pre0 := own_p0 (tb := p.tables) (e := e) (below := below) (s := s₁) (ef_24_4 m a1)
  obtain ⟨_, T850, L850, X850, hQ850, st850⟩ := own_cS X0 hx hZ hml hown (ow hw 109 rfl) (ow hw 110 rfl) (ow hw 36 rfl) (ow hw 111 rfl) e0 (rm25_4 l Z a0 hw []  h0 n0 Z0) (W := 0) (g := (mkF m 1 #[rv a1, iv 0, iv 4, .unset, .unset] [(.int 4)])) (argsL := [(.int 4)]) (rest := []) (lenOf pd_9 rfl) (hb hby d24_1)
  obtain ⟨b850_0, kk850_0, rfl, N850q, K850q, ga850_0, gz850_0, q850_0⟩ := hQ850
  have N850 := Fr.app N0 N850q
  have ne851 : a1 ≠ b850_0 := Nat.ne_of_lt (Nat.lt_of_lt_of_le P0.lt gz850_0)
  have g_b850_0 : n0 ≤ b850_0 := ga850_0
  have sz_b850_0 : h0.size ≤ b850_0 := Nat.le_trans (Keep.refl h0 []).1 gz850_0
  have K850 : Keep h0 T850.heap [] := (Keep.refl h0 []).trans K850q all0
  have z852 : n0 ≤ T850.heap.size := (Nat.le_trans Z0 (own_ke K850q).1)
  obtain ⟨cl853, Ar853, -, Sz853, Nz853, Hs853, -⟩ := id (P0.ext (own_ke K850q))
  have in853 : ¬ ((0 : Int32) < 0 ∨ cl853.slots.size ≤ ((0 : Int32)).toNatClampNeg) := inb_of Sz853 ⟨by decide, by decide⟩
  have at853 : cl853.slots[((0 : Int32)).toNatClampNeg]? = some (.int c0) := Has.at Hs853 in853 rfl
  obtain ⟨_, T854, L854, X854, hQ854, st854⟩ := own_cS X850 hx hZ hml hown (ow hw 116 rfl) (ow hw 117 rfl) (ow hw 36 rfl) (ow hw 118 rfl) rfl (rm27_40 l Z a0 hw [] b850_0 c0 kk850_0 (0 : Int32) (0 : Int32) (0 : Int32) (0 : Int32) (0 : Int32) (0 : Int32) (0 : Int32) (0 : Int32) T850.heap n0 z852 q850_0 (P1.ext (own_ke K850q)) R2 R3 R4 g_b850_0) (W := 0) (g := (mkF m 20 #[rv a1, iv 0, iv 4, rv b850_0, iv 0] [(.int c0), (.int 0), (.ref b850_0)])) (argsL := [(.ref b850_0), (.int 0), (.int c0)]) (rest := []) (lenOf pd_10 rfl) (hb hby d24_20)
  obtain ⟨rfl, N854q, K854q, q854_0⟩ := hQ854
  have N854 := Fr.app N850 N854q
  have K854 : Keep h0 T854.heap [] := K850.trans K854q (allS (Or.inr sz_b850_0) all0)
  have f855 := ((P0.ext (own_ke K850q)).keep K854q (ninS ne851 nin0))
  have f856 := ((P1.ext (own_ke K850q)).keep K854q (allS g_b850_0 all0))
  obtain ⟨cl857, Ar857, -, Sz857, Nz857, Hs857, -⟩ := id f855
  have in857 : ¬ ((1 : Int32) < 0 ∨ cl857.slots.size ≤ ((1 : Int32)).toNatClampNeg) := inb_of Sz857 ⟨by decide, by decide⟩
  have at857 : cl857.slots[((1 : Int32)).toNatClampNeg]? = some (.int c1) := Has.at Hs857 in857 rfl
  obtain ⟨_, T858, L858, X858, hQ858, st858⟩ := own_cS X854 hx hZ hml hown (ow hw 116 rfl) (ow hw 117 rfl) (ow hw 36 rfl) (ow hw 118 rfl) rfl (rm27_41 l Z a0 hw [] b850_0 c1 kk850_0 (own_lo c0) (own_hi c0) (0 : Int32) (0 : Int32) (0 : Int32) (0 : Int32) (0 : Int32) (0 : Int32) T854.heap n0 (Nat.le_trans z852 K854q.1) q854_0 f856 R2 R3 R4 g_b850_0) (W := 0) (g := (mkF m 20 #[rv a1, iv 1, iv 4, rv b850_0, iv 1] [(.int c1), (.int 1), (.ref b850_0)])) (argsL := [(.ref b850_0), (.int 1), (.int c1)]) (rest := []) (lenOf pd_10 rfl) (hb hby d24_20)
  obtain ⟨rfl, N858q, K858q, q858_0⟩ := hQ858
  have N858 := Fr.app N854 N858q
  have K858 : Keep h0 T858.heap [] := K854.trans K858q (allS (Or.inr sz_b850_0) all0)
  have f859 := (f855.keep K858q (ninS ne851 nin0))
  have f860 := (f856.keep K858q (allS g_b850_0 all0))
  have z861 : n0 ≤ T858.heap.size := (Nat.le_trans (Nat.le_trans z852 K854q.1) K858q.1)
  obtain ⟨cl862, Ar862, -, Sz862, Nz862, Hs862, -⟩ := id f859
  have in862 : ¬ ((2 : Int32) < 0 ∨ cl862.slots.size ≤ ((2 : Int32)).toNatClampNeg) := inb_of Sz862 ⟨by decide, by decide⟩
  have at862 : cl862.slots[((2 : Int32)).toNatClampNeg]? = some (.int c2) := Has.at Hs862 in862 rfl
  obtain ⟨_, T863, L863, X863, hQ863, st863⟩ := own_cS X858 hx hZ hml hown (ow hw 116 rfl) (ow hw 117 rfl) (ow hw 36 rfl) (ow hw 118 rfl) rfl (rm27_42 l Z a0 hw [] b850_0 c2 kk850_0 (own_lo c0) (own_hi c0) (own_lo c1) (own_hi c1) (0 : Int32) (0 : Int32) (0 : Int32) (0 : Int32) T858.heap n0 z861 q858_0 f860 R2 R3 R4 g_b850_0) (W := 0) (g := (mkF m 20 #[rv a1, iv 2, iv 4, rv b850_0, iv 2] [(.int c2), (.int 2), (.ref b850_0)])) (argsL := [(.ref b850_0), (.int 2), (.int c2)]) (rest := []) (lenOf pd_10 rfl) (hb hby d24_20)
  obtain ⟨rfl, N863q, K863q, q863_0⟩ := hQ863
  have N863 := Fr.app N858 N863q
  have K863 : Keep h0 T863.heap [] := K858.trans K863q (allS (Or.inr sz_b850_0) all0)
  have f864 := (f859.keep K863q (ninS ne851 nin0))
  have f865 := (f860.keep K863q (allS g_b850_0 all0))
  obtain ⟨cl866, Ar866, -, Sz866, Nz866, Hs866, -⟩ := id f864
  have in866 : ¬ ((3 : Int32) < 0 ∨ cl866.slots.size ≤ ((3 : Int32)).toNatClampNeg) := inb_of Sz866 ⟨by decide, by decide⟩
  have at866 : cl866.slots[((3 : Int32)).toNatClampNeg]? = some (.int c3) := Has.at Hs866 in866 rfl
  obtain ⟨_, T867, L867, X867, hQ867, st867⟩ := own_cS X863 hx hZ hml hown (ow hw 116 rfl) (ow hw 117 rfl) (ow hw 36 rfl) (ow hw 118 rfl) rfl (rm27_43 l Z a0 hw [] b850_0 c3 kk850_0 (own_lo c0) (own_hi c0) (own_lo c1) (own_hi c1) (own_lo c2) (own_hi c2) (0 : Int32) (0 : Int32) T863.heap n0 (Nat.le_trans z861 K863q.1) q863_0 f865 R2 R3 R4 g_b850_0) (W := 0) (g := (mkF m 20 #[rv a1, iv 3, iv 4, rv b850_0, iv 3] [(.int c3), (.int 3), (.ref b850_0)])) (argsL := [(.ref b850_0), (.int 3), (.int c3)]) (rest := []) (lenOf pd_10 rfl) (hb hby d24_20)
  obtain ⟨rfl, N867q, K867q, q867_0⟩ := hQ867
  have N867 := Fr.app N863 N867q
  have K867 : Keep h0 T867.heap [] := K863.trans K867q (allS (Or.inr sz_b850_0) all0)
  have f868 := (f864.keep K867q (ninS ne851 nin0))
  have f869 := (f865.keep K867q (allS g_b850_0 all0))
  have z870 : n0 ≤ T867.heap.size := (Nat.le_trans (Nat.le_trans z861 K863q.1) K867q.1)
  have pre871 := own_go pre0 (T867.setTop (mkF m 33 #[rv a1, iv 4, iv 4, rv b850_0, iv 4] [(.ref b850_0)])) fun t kt => by
    refine XS.iloadN X0.here hx rfl (hb hby d24_0) rfl ?_
    refine st850 _ ?_
    refine XS.astoreN X850.here hx rfl (hb hby d24_4) rfl rfl (l' := #[rv a1, iv 0, iv 4, rv b850_0, .unset]) rfl ?_
    refine XS.iconst X850.here hx rfl (hb hby d24_5) ?_
    refine XS.istore X850.here hx rfl (hb hby d24_6) rfl (l' := #[rv a1, iv 0, iv 4, rv b850_0, iv 0]) rfl ?_
    refine XS.iload X850.here hx rfl (hb hby d24_8) rfl ?_
    refine XS.iloadN X850.here hx rfl (hb hby d24_10) rfl ?_
    refine XS.icmpNo X850.here hx rfl (hb hby d24_11) rfl (tlt (by decide : (0 : Int32) < (4 : Int32))).2.1 ?_
    refine XS.aloadN X850.here hx rfl (hb hby d24_14) rfl rfl ?_
    refine XS.iload X850.here hx rfl (hb hby d24_15) rfl ?_
    refine XS.aloadN X850.here hx rfl (hb hby d24_17) rfl rfl ?_
    refine XS.iloadN X850.here hx rfl (hb hby d24_18) rfl ?_
    refine X850.caload hx (j := (0 : Int32)) (v := (.int c0)) (by exact Ar853.1) (State.isArrayOf_alike hZ.alike Ar853.2.1) Ar853.2.2 in853 at853 (g := (mkF m 19 #[rv a1, iv 0, iv 4, rv b850_0, iv 0] [(.int 0), (.ref a1), (.int 0), (.ref b850_0)])) rfl rfl (hb hby d24_19) _ ?_
    refine st854 _ ?_
    refine XS.iinc X854.here hx rfl (hb hby d24_23) rfl (l' := #[rv a1, iv 1, iv 4, rv b850_0, iv 0]) rfl ?_
    refine XS.iinc X854.here hx rfl (hb hby d24_26) rfl (l' := #[rv a1, iv 1, iv 4, rv b850_0, iv 1]) rfl ?_
    refine XS.goto X854.here hx rfl (pc0 := 29) (pc' := 8) rfl (hb hby d24_29) (by decide) (by decide) ?_
    refine XS.iload X854.here hx rfl (hb hby d24_8) rfl ?_
    refine XS.iloadN X854.here hx rfl (hb hby d24_10) rfl ?_
    refine XS.icmpNo X854.here hx rfl (hb hby d24_11) rfl (tlt (by decide : (1 : Int32) < (4 : Int32))).2.1 ?_
    refine XS.aloadN X854.here hx rfl (hb hby d24_14) rfl rfl ?_
    refine XS.iload X854.here hx rfl (hb hby d24_15) rfl ?_
    refine XS.aloadN X854.here hx rfl (hb hby d24_17) rfl rfl ?_
    refine XS.iloadN X854.here hx rfl (hb hby d24_18) rfl ?_
    refine X854.caload hx (j := (1 : Int32)) (v := (.int c1)) (by exact Ar857.1) (State.isArrayOf_alike hZ.alike Ar857.2.1) Ar857.2.2 in857 at857 (g := (mkF m 19 #[rv a1, iv 1, iv 4, rv b850_0, iv 1] [(.int 1), (.ref a1), (.int 1), (.ref b850_0)])) rfl rfl (hb hby d24_19) _ ?_
    refine st858 _ ?_
    refine XS.iinc X858.here hx rfl (hb hby d24_23) rfl (l' := #[rv a1, iv 2, iv 4, rv b850_0, iv 1]) rfl ?_
    refine XS.iinc X858.here hx rfl (hb hby d24_26) rfl (l' := #[rv a1, iv 2, iv 4, rv b850_0, iv 2]) rfl ?_
    refine XS.goto X858.here hx rfl (pc0 := 29) (pc' := 8) rfl (hb hby d24_29) (by decide) (by decide) ?_
    refine XS.iload X858.here hx rfl (hb hby d24_8) rfl ?_
    refine XS.iloadN X858.here hx rfl (hb hby d24_10) rfl ?_
    refine XS.icmpNo X858.here hx rfl (hb hby d24_11) rfl (tlt (by decide : (2 : Int32) < (4 : Int32))).2.1 ?_
    refine XS.aloadN X858.here hx rfl (hb hby d24_14) rfl rfl ?_
    refine XS.iload X858.here hx rfl (hb hby d24_15) rfl ?_
    refine XS.aloadN X858.here hx rfl (hb hby d24_17) rfl rfl ?_
    refine XS.iloadN X858.here hx rfl (hb hby d24_18) rfl ?_
    refine X858.caload hx (j := (2 : Int32)) (v := (.int c2)) (by exact Ar862.1) (State.isArrayOf_alike hZ.alike Ar862.2.1) Ar862.2.2 in862 at862 (g := (mkF m 19 #[rv a1, iv 2, iv 4, rv b850_0, iv 2] [(.int 2), (.ref a1), (.int 2), (.ref b850_0)])) rfl rfl (hb hby d24_19) _ ?_
    refine st863 _ ?_
    refine XS.iinc X863.here hx rfl (hb hby d24_23) rfl (l' := #[rv a1, iv 3, iv 4, rv b850_0, iv 2]) rfl ?_
    refine XS.iinc X863.here hx rfl (hb hby d24_26) rfl (l' := #[rv a1, iv 3, iv 4, rv b850_0, iv 3]) rfl ?_
    refine XS.goto X863.here hx rfl (pc0 := 29) (pc' := 8) rfl (hb hby d24_29) (by decide) (by decide) ?_
    refine XS.iload X863.here hx rfl (hb hby d24_8) rfl ?_
    refine XS.iloadN X863.here hx rfl (hb hby d24_10) rfl ?_
    refine XS.icmpNo X863.here hx rfl (hb hby d24_11) rfl (tlt (by decide : (3 : Int32) < (4 : Int32))).2.1 ?_
    refine XS.aloadN X863.here hx rfl (hb hby d24_14) rfl rfl ?_
    refine XS.iload X863.here hx rfl (hb hby d24_15) rfl ?_
    refine XS.aloadN X863.here hx rfl (hb hby d24_17) rfl rfl ?_
    refine XS.iloadN X863.here hx rfl (hb hby d24_18) rfl ?_
    refine X863.caload hx (j := (3 : Int32)) (v := (.int c3)) (by exact Ar866.1) (State.isArrayOf_alike hZ.alike Ar866.2.1) Ar866.2.2 in866 at866 (g := (mkF m 19 #[rv a1, iv 3, iv 4, rv b850_0, iv 3] [(.int 3), (.ref a1), (.int 3), (.ref b850_0)])) rfl rfl (hb hby d24_19) _ ?_
    refine st867 _ ?_
    refine XS.iinc X867.here hx rfl (hb hby d24_23) rfl (l' := #[rv a1, iv 4, iv 4, rv b850_0, iv 3]) rfl ?_
    refine XS.iinc X867.here hx rfl (hb hby d24_26) rfl (l' := #[rv a1, iv 4, iv 4, rv b850_0, iv 4]) rfl ?_
    refine XS.goto X867.here hx rfl (pc0 := 29) (pc' := 8) rfl (hb hby d24_29) (by decide) (by decide) ?_
    refine XS.iload X867.here hx rfl (hb hby d24_8) rfl ?_
    refine XS.iloadN X867.here hx rfl (hb hby d24_10) rfl ?_
    refine XS.icmpYes X867.here hx rfl (pc0 := 11) (pc' := 32) rfl (hb hby d24_11) rfl (flt (by decide : ¬ ((4 : Int32) < (4 : Int32)))).2.1 (by decide) (by decide) ?_
    refine XS.aloadN X867.here hx rfl (hb hby d24_32) rfl rfl ?_
    exact kt
  refine own_lv X867 Bd.notSynchronized (v := some (.ref b850_0)) (own_nv Bd.returns) pre871 (fun fs hr => retOut X867 hx Bd.returns (own_nref _ rfl) (Or.inr (Or.inr (Or.inr (Or.inr ⟨rfl, rfl, rfl⟩)))) (hb hby d24_33) hr) ?_
  show Q24_4 Z a1 kc c0 c1 c2 c3 h0 n0 _ T867.heap _
  exact ⟨b850_0, kk850_0, rfl, N867, K867, g_b850_0, sz_b850_0, q867_0⟩
theorem ef_10_4L (m : MethodId) (x0 : Addr) (x2 : Addr) : entryFrame m #[(.ref x0), (.int 0), (.ref x2), (.int 0), (.int 4)] 7 = mkF m 0 #[.val (.ref x0), .val (.int 0), .val (.ref x2), .val (.int 0), .val (.int 4), .unset, .unset] [] := by first | (simp [entryFrame, mkF, argsToLocals, Value.category]; done) | rfl
def Q10_4L (Z : State) (a1 : Addr) (a3 : Addr) (kc : ClassId) (kb : ClassId) (c0 : Int32) (c1 : Int32) (c2 : Int32) (c3 : Int32) (h0 : Heap) (n0 : Nat) (v : Option Value) (h : Heap) (L : List Loc) : Prop := v = some (.int 4) ∧ Fr n0 L ∧ Keep h0 h [a3] ∧ Arv Z h a3 kb .byte (4 : Int32) [(.int (own_by c0)), (.int (own_by c1)), (.int (own_by c2)), (.int (own_by c3))] (.int (0 : Int32))
theorem rm10_4L (l : Launch) (Z : State) (a0 : Array Value) (hw : own_H a0 Z) (ws : List Jvm.Cond) (a1 : Addr) (a3 : Addr) (kc : ClassId) (kb : ClassId) (c0 : Int32) (c1 : Int32) (c2 : Int32) (c3 : Int32) (h0 : Heap) (n0 : Nat) (Z0 : n0 ≤ h0.size) (P0 : Arv Z h0 a1 kc .char (4 : Int32) [(.int c0), (.int c1), (.int c2), (.int c3)] (.int (0 : Int32))) (P1 : Arv Z h0 a3 kb .byte (4 : Int32) [(.int 0), (.int 0), (.int 0), (.int 0)] (.int (0 : Int32))) (ne_a1_a3 : a1 ≠ a3) (g_a3 : n0 ≤ a3) (u0 : ¬ (255 : Int32) < c0) (u1 : ¬ (255 : Int32) < c1) (u2 : ¬ (255 : Int32) < c2) (u3 : ¬ (255 : Int32) < c3) :
    own_M l Z (⟨"java/lang/StringUTF16", "compress", "([CI[BII)I"⟩ : MethodName) jdk_52_method_21_code 7 (some .int) ws ({ frames := 0, cells := 0, slots := 0, locals := 0 } : Room) #[(.ref a1), (.int 0), (.ref a3), (.int 0), (.int 4)] h0 (Q10_4L Z a1 a3 kc kb c0 c1 c2 c3 h0 n0) := by
  refine own_bd (n0 := n0) (plainFor_of_name pn_10) fun p e s m below meth c s₁ Bd hZ hx hby hml hown X0 e0 N0 => ?_
  have pre0 := own_p0 (tb := p.tables) (e := e) (below := below) (s := s₁) (ef_10_4L m a1 a3)
  obtain ⟨cl872, Ar872, -, Sz872, Nz872, Hs872, -⟩ := id P0
  have in872 : ¬ ((0 : Int32) < 0 ∨ cl872.slots.size ≤ ((0 : Int32)).toNatClampNeg) := inb_of Sz872 ⟨by decide, by decide⟩
  have at872 : cl872.slots[((0 : Int32)).toNatClampNeg]? = some (.int c0) := Has.at Hs872 in872 rfl
  obtain ⟨cl873, Ar873, q873, S873, N873z, H873, G873⟩ := id P1
  obtain ⟨T873, h873, X873, e873, W873, st873⟩ := stB X0 hx hZ e0 Ar873 (j := (0 : Int32)) (inb_of S873 ⟨by decide, by decide⟩) (g := (mkF m 31 #[rv a1, iv 0, rv a3, iv 0, iv 4, iv 0, iv c0] [(.int (c0.toInt8.toInt32)), (.int 0), (.ref a3)])) rfl rfl (hb hby d10_31)
  have V873 : Arv Z h873 a3 kb .byte (4 : Int32) [(.int (nar .byte (c0.toInt8.toInt32))), (.int 0), (.int 0), (.int 0)] (.int (0 : Int32)) := Arv.set Ar873 q873 S873 N873z H873 G873 (fits_nar_byte _) W873 0 rfl (Nat.le_of_ble_eq_true rfl)
  have N873 := Fr.snoc X873 N0 g_a3
  have K873 : Keep h0 h873 [a3] := (Keep.refl h0 [a3]).wr W873 (Or.inl (by simp))
  have z874 : n0 ≤ h873.size := (Nat.le_trans Z0 (Keep.of_wr W873).1)
  obtain ⟨cl875, Ar875, -, Sz875, Nz875, Hs875, -⟩ := id (P0.other W873 ne_a1_a3)
  have in875 : ¬ ((1 : Int32) < 0 ∨ cl875.slots.size ≤ ((1 : Int32)).toNatClampNeg) := inb_of Sz875 ⟨by decide, by decide⟩
  have at875 : cl875.slots[((1 : Int32)).toNatClampNeg]? = some (.int c1) := Has.at Hs875 in875 rfl
  obtain ⟨cl876, Ar876, q876, S876, N876z, H876, G876⟩ := id V873
  obtain ⟨T876, h876, X876, e876, W876, st876⟩ := stB X873 hx hZ e873 Ar876 (j := (1 : Int32)) (inb_of S876 ⟨by decide, by decide⟩) (g := (mkF m 31 #[rv a1, iv 1, rv a3, iv 1, iv 4, iv 1, iv c1] [(.int (c1.toInt8.toInt32)), (.int 1), (.ref a3)])) rfl rfl (hb hby d10_31)
  have V876 : Arv Z h876 a3 kb .byte (4 : Int32) [(.int (nar .byte (c0.toInt8.toInt32))), (.int (nar .byte (c1.toInt8.toInt32))), (.int 0), (.int 0)] (.int (0 : Int32)) := Arv.set Ar876 q876 S876 N876z H876 G876 (fits_nar_byte _) W876 1 rfl (Nat.le_of_ble_eq_true rfl)
  have N876 := Fr.snoc X876 N873 g_a3
  have K876 : Keep h0 h876 [a3] := K873.wr W876 (Or.inl (by simp))
  have f877 := ((P0.other W873 ne_a1_a3).other W876 ne_a1_a3)
  have z878 : n0 ≤ h876.size := (Nat.le_trans z874 (Keep.of_wr W876).1)
  obtain ⟨cl879, Ar879, -, Sz879, Nz879, Hs879, -⟩ := id f877
  have in879 : ¬ ((2 : Int32) < 0 ∨ cl879.slots.size ≤ ((2 : Int32)).toNatClampNeg) := inb_of Sz879 ⟨by decide, by decide⟩
  have at879 : cl879.slots[((2 : Int32)).toNatClampNeg]? = some (.int c2) := Has.at Hs879 in879 rfl
  obtain ⟨cl880, Ar880, q880, S880, N880z, H880, G880⟩ := id V876
  obtain ⟨T880, h880, X880, e880, W880, st880⟩ := stB X876 hx hZ e876 Ar880 (j := (2 : Int32)) (inb_of S880 ⟨by decide, by decide⟩) (g := (mkF m 31 #[rv a1, iv 2, rv a3, iv 2, iv 4, iv 2, iv c2] [(.int (c2.toInt8.toInt32)), (.int 2), (.ref a3)])) rfl rfl (hb hby d10_31)
  have V880 : Arv Z h880 a3 kb .byte (4 : Int32) [(.int (nar .byte (c0.toInt8.toInt32))), (.int (nar .byte (c1.toInt8.toInt32))), (.int (nar .byte (c2.toInt8.toInt32))), (.int 0)] (.int (0 : Int32)) := Arv.set Ar880 q880 S880 N880z H880 G880 (fits_nar_byte _) W880 2 rfl (Nat.le_of_ble_eq_true rfl)
  have N880 := Fr.snoc X880 N876 g_a3
  have K880 : Keep h0 h880 [a3] := K876.wr W880 (Or.inl (by simp))
  have z881 : n0 ≤ h880.size := (Nat.le_trans z878 (Keep.of_wr W880).1)
  obtain ⟨cl882, Ar882, -, Sz882, Nz882, Hs882, -⟩ := id (f877.other W880 ne_a1_a3)
  have in882 : ¬ ((3 : Int32) < 0 ∨ cl882.slots.size ≤ ((3 : Int32)).toNatClampNeg) := inb_of Sz882 ⟨by decide, by decide⟩
  have at882 : cl882.slots[((3 : Int32)).toNatClampNeg]? = some (.int c3) := Has.at Hs882 in882 rfl
  obtain ⟨cl883, Ar883, q883, S883, N883z, H883, G883⟩ := id V880
  obtain ⟨T883, h883, X883, e883, W883, st883⟩ := stB X880 hx hZ e880 Ar883 (j := (3 : Int32)) (inb_of S883 ⟨by decide, by decide⟩) (g := (mkF m 31 #[rv a1, iv 3, rv a3, iv 3, iv 4, iv 3, iv c3] [(.int (c3.toInt8.toInt32)), (.int 3), (.ref a3)])) rfl rfl (hb hby d10_31)
  have V883 : Arv Z h883 a3 kb .byte (4 : Int32) [(.int (nar .byte (c0.toInt8.toInt32))), (.int (nar .byte (c1.toInt8.toInt32))), (.int (nar .byte (c2.toInt8.toInt32))), (.int (nar .byte (c3.toInt8.toInt32)))] (.int (0 : Int32)) := Arv.set Ar883 q883 S883 N883z H883 G883 (fits_nar_byte _) W883 3 rfl (Nat.le_of_ble_eq_true rfl)
  have N883 := Fr.snoc X883 N880 g_a3
  have K883 : Keep h0 h883 [a3] := K880.wr W883 (Or.inl (by simp))
  have f884 := ((f877.other W880 ne_a1_a3).other W883 ne_a1_a3)
  have z885 : n0 ≤ h883.size := (Nat.le_trans z881 (Keep.of_wr W883).1)
  have V886 : Arv Z h883 a3 kb .byte (4 : Int32) [(.int (own_by c0)), (.int (own_by c1)), (.int (own_by c2)), (.int (own_by c3))] (.int (0 : Int32)) := V883
  have pre887 := own_go pre0 (T883.setTop (mkF m 46 #[rv a1, iv 4, rv a3, iv 4, iv 4, iv 4, iv c3] [(.int 4)])) fun t kt => by
    refine XS.iconst X0.here hx rfl (hb hby d10_0) ?_
    refine XS.istore X0.here hx rfl (hb hby d10_1) rfl (l' := #[rv a1, iv 0, rv a3, iv 0, iv 4, iv 0, .unset]) rfl ?_
    refine XS.iload X0.here hx rfl (hb hby d10_3) rfl ?_
    refine XS.iload X0.here hx rfl (hb hby d10_5) rfl ?_
    refine XS.icmpNo X0.here hx rfl (hb hby d10_7) rfl (tlt (by decide : (0 : Int32) < (4 : Int32))).2.1 ?_
    refine XS.aloadN X0.here hx rfl (hb hby d10_10) rfl rfl ?_
    refine XS.iloadN X0.here hx rfl (hb hby d10_11) rfl ?_
    refine X0.caload hx (j := (0 : Int32)) (v := (.int c0)) (by rw [e0]; exact Ar872.1) (State.isArrayOf_alike hZ.alike Ar872.2.1) Ar872.2.2 in872 at872 (g := (mkF m 12 #[rv a1, iv 0, rv a3, iv 0, iv 4, iv 0, .unset] [(.int 0), (.ref a1)])) rfl rfl (hb hby d10_12) _ ?_
    refine XS.istore X0.here hx rfl (hb hby d10_13) rfl (l' := #[rv a1, iv 0, rv a3, iv 0, iv 4, iv 0, iv c0]) rfl ?_
    refine XS.iload X0.here hx rfl (hb hby d10_15) rfl ?_
    refine XS.sipush X0.here hx rfl (hb hby d10_17) ?_
    refine XS.icmpYes X0.here hx rfl (pc0 := 20) (pc' := 26) rfl (hb hby d10_20) rfl (flt (u0 : ¬ ((255 : Int32) < c0))).2.2.2 (by decide) (by decide) ?_
    refine XS.aloadN X0.here hx rfl (hb hby d10_26) rfl rfl ?_
    refine XS.iloadN X0.here hx rfl (hb hby d10_27) rfl ?_
    refine XS.iload X0.here hx rfl (hb hby d10_28) rfl ?_
    refine XS.i2b X0.here hx rfl (hb hby d10_30) rfl ?_
    refine st873 _ ?_
    refine XS.iinc X873.here hx rfl (hb hby d10_32) rfl (l' := #[rv a1, iv 1, rv a3, iv 0, iv 4, iv 0, iv c0]) rfl ?_
    refine XS.iinc X873.here hx rfl (hb hby d10_35) rfl (l' := #[rv a1, iv 1, rv a3, iv 1, iv 4, iv 0, iv c0]) rfl ?_
    refine XS.iinc X873.here hx rfl (hb hby d10_38) rfl (l' := #[rv a1, iv 1, rv a3, iv 1, iv 4, iv 1, iv c0]) rfl ?_
    refine XS.goto X873.here hx rfl (pc0 := 41) (pc' := 3) rfl (hb hby d10_41) (by decide) (by decide) ?_
    refine XS.iload X873.here hx rfl (hb hby d10_3) rfl ?_
    refine XS.iload X873.here hx rfl (hb hby d10_5) rfl ?_
    refine XS.icmpNo X873.here hx rfl (hb hby d10_7) rfl (tlt (by decide : (1 : Int32) < (4 : Int32))).2.1 ?_
    refine XS.aloadN X873.here hx rfl (hb hby d10_10) rfl rfl ?_
    refine XS.iloadN X873.here hx rfl (hb hby d10_11) rfl ?_
    refine X873.caload hx (j := (1 : Int32)) (v := (.int c1)) (by rw [e873]; exact Ar875.1) (State.isArrayOf_alike hZ.alike Ar875.2.1) Ar875.2.2 in875 at875 (g := (mkF m 12 #[rv a1, iv 1, rv a3, iv 1, iv 4, iv 1, iv c0] [(.int 1), (.ref a1)])) rfl rfl (hb hby d10_12) _ ?_
    refine XS.istore X873.here hx rfl (hb hby d10_13) rfl (l' := #[rv a1, iv 1, rv a3, iv 1, iv 4, iv 1, iv c1]) rfl ?_
    refine XS.iload X873.here hx rfl (hb hby d10_15) rfl ?_
    refine XS.sipush X873.here hx rfl (hb hby d10_17) ?_
    refine XS.icmpYes X873.here hx rfl (pc0 := 20) (pc' := 26) rfl (hb hby d10_20) rfl (flt (u1 : ¬ ((255 : Int32) < c1))).2.2.2 (by decide) (by decide) ?_
    refine XS.aloadN X873.here hx rfl (hb hby d10_26) rfl rfl ?_
    refine XS.iloadN X873.here hx rfl (hb hby d10_27) rfl ?_
    refine XS.iload X873.here hx rfl (hb hby d10_28) rfl ?_
    refine XS.i2b X873.here hx rfl (hb hby d10_30) rfl ?_
    refine st876 _ ?_
    refine XS.iinc X876.here hx rfl (hb hby d10_32) rfl (l' := #[rv a1, iv 2, rv a3, iv 1, iv 4, iv 1, iv c1]) rfl ?_
    refine XS.iinc X876.here hx rfl (hb hby d10_35) rfl (l' := #[rv a1, iv 2, rv a3, iv 2, iv 4, iv 1, iv c1]) rfl ?_
    refine XS.iinc X876.here hx rfl (hb hby d10_38) rfl (l' := #[rv a1, iv 2, rv a3, iv 2, iv 4, iv 2, iv c1]) rfl ?_
    refine XS.goto X876.here hx rfl (pc0 := 41) (pc' := 3) rfl (hb hby d10_41) (by decide) (by decide) ?_
    refine XS.iload X876.here hx rfl (hb hby d10_3) rfl ?_
    refine XS.iload X876.here hx rfl (hb hby d10_5) rfl ?_
    refine XS.icmpNo X876.here hx rfl (hb hby d10_7) rfl (tlt (by decide : (2 : Int32) < (4 : Int32))).2.1 ?_
    refine XS.aloadN X876.here hx rfl (hb hby d10_10) rfl rfl ?_
    refine XS.iloadN X876.here hx rfl (hb hby d10_11) rfl ?_
    refine X876.caload hx (j := (2 : Int32)) (v := (.int c2)) (by rw [e876]; exact Ar879.1) (State.isArrayOf_alike hZ.alike Ar879.2.1) Ar879.2.2 in879 at879 (g := (mkF m 12 #[rv a1, iv 2, rv a3, iv 2, iv 4, iv 2, iv c1] [(.int 2), (.ref a1)])) rfl rfl (hb hby d10_12) _ ?_
    refine XS.istore X876.here hx rfl (hb hby d10_13) rfl (l' := #[rv a1, iv 2, rv a3, iv 2, iv 4, iv 2, iv c2]) rfl ?_
    refine XS.iload X876.here hx rfl (hb hby d10_15) rfl ?_
    refine XS.sipush X876.here hx rfl (hb hby d10_17) ?_
    refine XS.icmpYes X876.here hx rfl (pc0 := 20) (pc' := 26) rfl (hb hby d10_20) rfl (flt (u2 : ¬ ((255 : Int32) < c2))).2.2.2 (by decide) (by decide) ?_
    refine XS.aloadN X876.here hx rfl (hb hby d10_26) rfl rfl ?_
    refine XS.iloadN X876.here hx rfl (hb hby d10_27) rfl ?_
    refine XS.iload X876.here hx rfl (hb hby d10_28) rfl ?_
    refine XS.i2b X876.here hx rfl (hb hby d10_30) rfl ?_
    refine st880 _ ?_
    refine XS.iinc X880.here hx rfl (hb hby d10_32) rfl (l' := #[rv a1, iv 3, rv a3, iv 2, iv 4, iv 2, iv c2]) rfl ?_
    refine XS.iinc X880.here hx rfl (hb hby d10_35) rfl (l' := #[rv a1, iv 3, rv a3, iv 3, iv 4, iv 2, iv c2]) rfl ?_
    refine XS.iinc X880.here hx rfl (hb hby d10_38) rfl (l' := #[rv a1, iv 3, rv a3, iv 3, iv 4, iv 3, iv c2]) rfl ?_
    refine XS.goto X880.here hx rfl (pc0 := 41) (pc' := 3) rfl (hb hby d10_41) (by decide) (by decide) ?_
    refine XS.iload X880.here hx rfl (hb hby d10_3) rfl ?_
    refine XS.iload X880.here hx rfl (hb hby d10_5) rfl ?_
    refine XS.icmpNo X880.here hx rfl (hb hby d10_7) rfl (tlt (by decide : (3 : Int32) < (4 : Int32))).2.1 ?_
    refine XS.aloadN X880.here hx rfl (hb hby d10_10) rfl rfl ?_
    refine XS.iloadN X880.here hx rfl (hb hby d10_11) rfl ?_
    refine X880.caload hx (j := (3 : Int32)) (v := (.int c3)) (by rw [e880]; exact Ar882.1) (State.isArrayOf_alike hZ.alike Ar882.2.1) Ar882.2.2 in882 at882 (g := (mkF m 12 #[rv a1, iv 3, rv a3, iv 3, iv 4, iv 3, iv c2] [(.int 3), (.ref a1)])) rfl rfl (hb hby d10_12) _ ?_
    refine XS.istore X880.here hx rfl (hb hby d10_13) rfl (l' := #[rv a1, iv 3, rv a3, iv 3, iv 4, iv 3, iv c3]) rfl ?_
    refine XS.iload X880.here hx rfl (hb hby d10_15) rfl ?_
    refine XS.sipush X880.here hx rfl (hb hby d10_17) ?_
    refine XS.icmpYes X880.here hx rfl (pc0 := 20) (pc' := 26) rfl (hb hby d10_20) rfl (flt (u3 : ¬ ((255 : Int32) < c3))).2.2.2 (by decide) (by decide) ?_
    refine XS.aloadN X880.here hx rfl (hb hby d10_26) rfl rfl ?_
    refine XS.iloadN X880.here hx rfl (hb hby d10_27) rfl ?_
    refine XS.iload X880.here hx rfl (hb hby d10_28) rfl ?_
    refine XS.i2b X880.here hx rfl (hb hby d10_30) rfl ?_
    refine st883 _ ?_
    refine XS.iinc X883.here hx rfl (hb hby d10_32) rfl (l' := #[rv a1, iv 4, rv a3, iv 3, iv 4, iv 3, iv c3]) rfl ?_
    refine XS.iinc X883.here hx rfl (hb hby d10_35) rfl (l' := #[rv a1, iv 4, rv a3, iv 4, iv 4, iv 3, iv c3]) rfl ?_
    refine XS.iinc X883.here hx rfl (hb hby d10_38) rfl (l' := #[rv a1, iv 4, rv a3, iv 4, iv 4, iv 4, iv c3]) rfl ?_
    refine XS.goto X883.here hx rfl (pc0 := 41) (pc' := 3) rfl (hb hby d10_41) (by decide) (by decide) ?_
    refine XS.iload X883.here hx rfl (hb hby d10_3) rfl ?_
    refine XS.iload X883.here hx rfl (hb hby d10_5) rfl ?_
    refine XS.icmpYes X883.here hx rfl (pc0 := 7) (pc' := 44) rfl (hb hby d10_7) rfl (flt (by decide : ¬ ((4 : Int32) < (4 : Int32)))).2.1 (by decide) (by decide) ?_
    refine XS.iload X883.here hx rfl (hb hby d10_44) rfl ?_
    exact kt
  refine own_lv X883 Bd.notSynchronized (v := some (.int 4)) (own_nv Bd.returns) pre887 (fun fs hr => retI X883 hx Bd.returns (hb hby d10_46) hr) ?_
  show Q10_4L Z a1 a3 kc kb c0 c1 c2 c3 h0 n0 _ T883.heap _
  rw [e883]
  exact ⟨rfl, N883, K883, V886⟩
def Q10_4U0 (Z : State) (a1 : Addr) (a3 : Addr) (kc : ClassId) (kb : ClassId) (c0 : Int32) (c1 : Int32) (c2 : Int32) (c3 : Int32) (h0 : Heap) (n0 : Nat) (v : Option Value) (h : Heap) (L : List Loc) : Prop := v = some (.int 0) ∧ Fr n0 L ∧ Keep h0 h [a3]
theorem rm10_4U0 (l : Launch) (Z : State) (a0 : Array Value) (hw : own_H a0 Z) (ws : List Jvm.Cond) (a1 : Addr) (a3 : Addr) (kc : ClassId) (kb : ClassId) (c0 : Int32) (c1 : Int32) (c2 : Int32) (c3 : Int32) (h0 : Heap) (n0 : Nat) (Z0 : n0 ≤ h0.size) (P0 : Arv Z h0 a1 kc .char (4 : Int32) [(.int c0), (.int c1), (.int c2), (.int c3)] (.int (0 : Int32))) (P1 : Arv Z h0 a3 kb .byte (4 : Int32) [(.int 0), (.int 0), (.int 0), (.int 0)] (.int (0 : Int32))) (ne_a1_a3 : a1 ≠ a3) (g_a3 : n0 ≤ a3) (u0 : (255 : Int32) < c0) :
    own_M l Z (⟨"java/lang/StringUTF16", "compress", "([CI[BII)I"⟩ : MethodName) jdk_52_method_21_code 7 (some .int) ws ({ frames := 0, cells := 0, slots := 0, locals := 0 } : Room) #[(.ref a1), (.int 0), (.ref a3), (.int 0), (.int 4)] h0 (Q10_4U0 Z a1 a3 kc kb c0 c1 c2 c3 h0 n0) := by
  refine own_bd (n0 := n0) (plainFor_of_name pn_10) fun p e s m below meth c s₁ Bd hZ hx hby hml hown X0 e0 N0 => ?_
  have pre0 := own_p0 (tb := p.tables) (e := e) (below := below) (s := s₁) (ef_10_4L m a1 a3)
  obtain ⟨cl888, Ar888, -, Sz888, Nz888, Hs888, -⟩ := id P0
  have in888 : ¬ ((0 : Int32) < 0 ∨ cl888.slots.size ≤ ((0 : Int32)).toNatClampNeg) := inb_of Sz888 ⟨by decide, by decide⟩
  have at888 : cl888.slots[((0 : Int32)).toNatClampNeg]? = some (.int c0) := Has.at Hs888 in888 rfl
  have pre889 := own_go pre0 (s₁.setTop (mkF m 25 #[rv a1, iv 0, rv a3, iv 0, iv 4, iv 0, iv c0] [(.int 0)])) fun t kt => by
    refine XS.iconst X0.here hx rfl (hb hby d10_0) ?_
    refine XS.istore X0.here hx rfl (hb hby d10_1) rfl (l' := #[rv a1, iv 0, rv a3, iv 0, iv 4, iv 0, .unset]) rfl ?_
    refine XS.iload X0.here hx rfl (hb hby d10_3) rfl ?_
    refine XS.iload X0.here hx rfl (hb hby d10_5) rfl ?_
    refine XS.icmpNo X0.here hx rfl (hb hby d10_7) rfl (tlt (by decide : (0 : Int32) < (4 : Int32))).2.1 ?_
    refine XS.aloadN X0.here hx rfl (hb hby d10_10) rfl rfl ?_
    refine XS.iloadN X0.here hx rfl (hb hby d10_11) rfl ?_
    refine X0.caload hx (j := (0 : Int32)) (v := (.int c0)) (by rw [e0]; exact Ar888.1) (State.isArrayOf_alike hZ.alike Ar888.2.1) Ar888.2.2 in888 at888 (g := (mkF m 12 #[rv a1, iv 0, rv a3, iv 0, iv 4, iv 0, .unset] [(.int 0), (.ref a1)])) rfl rfl (hb hby d10_12) _ ?_
    refine XS.istore X0.here hx rfl (hb hby d10_13) rfl (l' := #[rv a1, iv 0, rv a3, iv 0, iv 4, iv 0, iv c0]) rfl ?_
    refine XS.iload X0.here hx rfl (hb hby d10_15) rfl ?_
    refine XS.sipush X0.here hx rfl (hb hby d10_17) ?_
    refine XS.icmpNo X0.here hx rfl (hb hby d10_20) rfl (tlt (u0 : (255 : Int32) < c0)).2.2.2 ?_
    refine XS.iload X0.here hx rfl (hb hby d10_23) rfl ?_
    exact kt
  refine own_lv X0 Bd.notSynchronized (v := some (.int 0)) (own_nv Bd.returns) pre889 (fun fs hr => retI X0 hx Bd.returns (hb hby d10_25) hr) ?_
  show Q10_4U0 Z a1 a3 kc kb c0 c1 c2 c3 h0 n0 _ s₁.heap _
  rw [e0]
  exact ⟨rfl, N0, (Keep.refl h0 [a3])⟩
def Q10_4U1 (Z : State) (a1 : Addr) (a3 : Addr) (kc : ClassId) (kb : ClassId) (c0 : Int32) (c1 : Int32) (c2 : Int32) (c3 : Int32) (h0 : Heap) (n0 : Nat) (v : Option Value) (h : Heap) (L : List Loc) : Prop := v = some (.int 1) ∧ Fr n0 L ∧ Keep h0 h [a3]
theorem rm10_4U1 (l : Launch) (Z : State) (a0 : Array Value) (hw : own_H a0 Z) (ws : List Jvm.Cond) (a1 : Addr) (a3 : Addr) (kc : ClassId) (kb : ClassId) (c0 : Int32) (c1 : Int32) (c2 : Int32) (c3 : Int32) (h0 : Heap) (n0 : Nat) (Z0 : n0 ≤ h0.size) (P0 : Arv Z h0 a1 kc .char (4 : Int32) [(.int c0), (.int c1), (.int c2), (.int c3)] (.int (0 : Int32))) (P1 : Arv Z h0 a3 kb .byte (4 : Int32) [(.int 0), (.int 0), (.int 0), (.int 0)] (.int (0 : Int32))) (ne_a1_a3 : a1 ≠ a3) (g_a3 : n0 ≤ a3) (u0 : ¬ (255 : Int32) < c0) (u1 : (255 : Int32) < c1) :
    own_M l Z (⟨"java/lang/StringUTF16", "compress", "([CI[BII)I"⟩ : MethodName) jdk_52_method_21_code 7 (some .int) ws ({ frames := 0, cells := 0, slots := 0, locals := 0 } : Room) #[(.ref a1), (.int 0), (.ref a3), (.int 0), (.int 4)] h0 (Q10_4U1 Z a1 a3 kc kb c0 c1 c2 c3 h0 n0) := by
  refine own_bd (n0 := n0) (plainFor_of_name pn_10) fun p e s m below meth c s₁ Bd hZ hx hby hml hown X0 e0 N0 => ?_
  have pre0 := own_p0 (tb := p.tables) (e := e) (below := below) (s := s₁) (ef_10_4L m a1 a3)
  obtain ⟨cl890, Ar890, -, Sz890, Nz890, Hs890, -⟩ := id P0
  have in890 : ¬ ((0 : Int32) < 0 ∨ cl890.slots.size ≤ ((0 : Int32)).toNatClampNeg) := inb_of Sz890 ⟨by decide, by decide⟩
  have at890 : cl890.slots[((0 : Int32)).toNatClampNeg]? = some (.int c0) := Has.at Hs890 in890 rfl
  obtain ⟨cl891, Ar891, q891, S891, N891z, H891, G891⟩ := id P1
  obtain ⟨T891, h891, X891, e891, W891, st891⟩ := stB X0 hx hZ e0 Ar891 (j := (0 : Int32)) (inb_of S891 ⟨by decide, by decide⟩) (g := (mkF m 31 #[rv a1, iv 0, rv a3, iv 0, iv 4, iv 0, iv c0] [(.int (c0.toInt8.toInt32)), (.int 0), (.ref a3)])) rfl rfl (hb hby d10_31)
  have V891 : Arv Z h891 a3 kb .byte (4 : Int32) [(.int (nar .byte (c0.toInt8.toInt32))), (.int 0), (.int 0), (.int 0)] (.int (0 : Int32)) := Arv.set Ar891 q891 S891 N891z H891 G891 (fits_nar_byte _) W891 0 rfl (Nat.le_of_ble_eq_true rfl)
  have N891 := Fr.snoc X891 N0 g_a3
  have K891 : Keep h0 h891 [a3] := (Keep.refl h0 [a3]).wr W891 (Or.inl (by simp))
  have z892 : n0 ≤ h891.size := (Nat.le_trans Z0 (Keep.of_wr W891).1)
  obtain ⟨cl893, Ar893, -, Sz893, Nz893, Hs893, -⟩ := id (P0.other W891 ne_a1_a3)
  have in893 : ¬ ((1 : Int32) < 0 ∨ cl893.slots.size ≤ ((1 : Int32)).toNatClampNeg) := inb_of Sz893 ⟨by decide, by decide⟩
  have at893 : cl893.slots[((1 : Int32)).toNatClampNeg]? = some (.int c1) := Has.at Hs893 in893 rfl
  have pre894 := own_go pre0 (T891.setTop (mkF m 25 #[rv a1, iv 1, rv a3, iv 1, iv 4, iv 1, iv c1] [(.int 1)])) fun t kt => by
    refine XS.iconst X0.here hx rfl (hb hby d10_0) ?_
    refine XS.istore X0.here hx rfl (hb hby d10_1) rfl (l' := #[rv a1, iv 0, rv a3, iv 0, iv 4, iv 0, .unset]) rfl ?_
    refine XS.iload X0.here hx rfl (hb hby d10_3) rfl ?_
    refine XS.iload X0.here hx rfl (hb hby d10_5) rfl ?_
    refine XS.icmpNo X0.here hx rfl (hb hby d10_7) rfl (tlt (by decide : (0 : Int32) < (4 : Int32))).2.1 ?_
    refine XS.aloadN X0.here hx rfl (hb hby d10_10) rfl rfl ?_
    refine XS.iloadN X0.here hx rfl (hb hby d10_11) rfl ?_
    refine X0.caload hx (j := (0 : Int32)) (v := (.int c0)) (by rw [e0]; exact Ar890.1) (State.isArrayOf_alike hZ.alike Ar890.2.1) Ar890.2.2 in890 at890 (g := (mkF m 12 #[rv a1, iv 0, rv a3, iv 0, iv 4, iv 0, .unset] [(.int 0), (.ref a1)])) rfl rfl (hb hby d10_12) _ ?_
    refine XS.istore X0.here hx rfl (hb hby d10_13) rfl (l' := #[rv a1, iv 0, rv a3, iv 0, iv 4, iv 0, iv c0]) rfl ?_
    refine XS.iload X0.here hx rfl (hb hby d10_15) rfl ?_
    refine XS.sipush X0.here hx rfl (hb hby d10_17) ?_
    refine XS.icmpYes X0.here hx rfl (pc0 := 20) (pc' := 26) rfl (hb hby d10_20) rfl (flt (u0 : ¬ ((255 : Int32) < c0))).2.2.2 (by decide) (by decide) ?_
    refine XS.aloadN X0.here hx rfl (hb hby d10_26) rfl rfl ?_
    refine XS.iloadN X0.here hx rfl (hb hby d10_27) rfl ?_
    refine XS.iload X0.here hx rfl (hb hby d10_28) rfl ?_
    refine XS.i2b X0.here hx rfl (hb hby d10_30) rfl ?_
    refine st891 _ ?_
    refine XS.iinc X891.here hx rfl (hb hby d10_32) rfl (l' := #[rv a1, iv 1, rv a3, iv 0, iv 4, iv 0, iv c0]) rfl ?_
    refine XS.iinc X891.here hx rfl (hb hby d10_35) rfl (l' := #[rv a1, iv 1, rv a3, iv 1, iv 4, iv 0, iv c0]) rfl ?_
    refine XS.iinc X891.here hx rfl (hb hby d10_38) rfl (l' := #[rv a1, iv 1, rv a3, iv 1, iv 4, iv 1, iv c0]) rfl ?_
    refine XS.goto X891.here hx rfl (pc0 := 41) (pc' := 3) rfl (hb hby d10_41) (by decide) (by decide) ?_
    refine XS.iload X891.here hx rfl (hb hby d10_3) rfl ?_
    refine XS.iload X891.here hx rfl (hb hby d10_5) rfl ?_
    refine XS.icmpNo X891.here hx rfl (hb hby d10_7) rfl (tlt (by decide : (1 : Int32) < (4 : Int32))).2.1 ?_
    refine XS.aloadN X891.here hx rfl (hb hby d10_10) rfl rfl ?_
    refine XS.iloadN X891.here hx rfl (hb hby d10_11) rfl ?_
    refine X891.caload hx (j := (1 : Int32)) (v := (.int c1)) (by rw [e891]; exact Ar893.1) (State.isArrayOf_alike hZ.alike Ar893.2.1) Ar893.2.2 in893 at893 (g := (mkF m 12 #[rv a1, iv 1, rv a3, iv 1, iv 4, iv 1, iv c0] [(.int 1), (.ref a1)])) rfl rfl (hb hby d10_12) _ ?_
    refine XS.istore X891.here hx rfl (hb hby d10_13) rfl (l' := #[rv a1, iv 1, rv a3, iv 1, iv 4, iv 1, iv c1]) rfl ?_
    refine XS.iload X891.here hx rfl (hb hby d10_15) rfl ?_
    refine XS.sipush X891.here hx rfl (hb hby d10_17) ?_
    refine XS.icmpNo X891.here hx rfl (hb hby d10_20) rfl (tlt (u1 : (255 : Int32) < c1)).2.2.2 ?_
    refine XS.iload X891.here hx rfl (hb hby d10_23) rfl ?_
    exact kt
  refine own_lv X891 Bd.notSynchronized (v := some (.int 1)) (own_nv Bd.returns) pre894 (fun fs hr => retI X891 hx Bd.returns (hb hby d10_25) hr) ?_
  show Q10_4U1 Z a1 a3 kc kb c0 c1 c2 c3 h0 n0 _ T891.heap _
  rw [e891]
  exact ⟨rfl, N891, K891⟩
def Q10_4U2 (Z : State) (a1 : Addr) (a3 : Addr) (kc : ClassId) (kb : ClassId) (c0 : Int32) (c1 : Int32) (c2 : Int32) (c3 : Int32) (h0 : Heap) (n0 : Nat) (v : Option Value) (h : Heap) (L : List Loc) : Prop := v = some (.int 2) ∧ Fr n0 L ∧ Keep h0 h [a3]
theorem rm10_4U2 (l : Launch) (Z : State) (a0 : Array Value) (hw : own_H a0 Z) (ws : List Jvm.Cond) (a1 : Addr) (a3 : Addr) (kc : ClassId) (kb : ClassId) (c0 : Int32) (c1 : Int32) (c2 : Int32) (c3 : Int32) (h0 : Heap) (n0 : Nat) (Z0 : n0 ≤ h0.size) (P0 : Arv Z h0 a1 kc .char (4 : Int32) [(.int c0), (.int c1), (.int c2), (.int c3)] (.int (0 : Int32))) (P1 : Arv Z h0 a3 kb .byte (4 : Int32) [(.int 0), (.int 0), (.int 0), (.int 0)] (.int (0 : Int32))) (ne_a1_a3 : a1 ≠ a3) (g_a3 : n0 ≤ a3) (u0 : ¬ (255 : Int32) < c0) (u1 : ¬ (255 : Int32) < c1) (u2 : (255 : Int32) < c2) :
    own_M l Z (⟨"java/lang/StringUTF16", "compress", "([CI[BII)I"⟩ : MethodName) jdk_52_method_21_code 7 (some .int) ws ({ frames := 0, cells := 0, slots := 0, locals := 0 } : Room) #[(.ref a1), (.int 0), (.ref a3), (.int 0), (.int 4)] h0 (Q10_4U2 Z a1 a3 kc kb c0 c1 c2 c3 h0 n0) := by
  refine own_bd (n0 := n0) (plainFor_of_name pn_10) fun p e s m below meth c s₁ Bd hZ hx hby hml hown X0 e0 N0 => ?_
  have pre0 := own_p0 (tb := p.tables) (e := e) (below := below) (s := s₁) (ef_10_4L m a1 a3)
  obtain ⟨cl895, Ar895, -, Sz895, Nz895, Hs895, -⟩ := id P0
  have in895 : ¬ ((0 : Int32) < 0 ∨ cl895.slots.size ≤ ((0 : Int32)).toNatClampNeg) := inb_of Sz895 ⟨by decide, by decide⟩
  have at895 : cl895.slots[((0 : Int32)).toNatClampNeg]? = some (.int c0) := Has.at Hs895 in895 rfl
  obtain ⟨cl896, Ar896, q896, S896, N896z, H896, G896⟩ := id P1
  obtain ⟨T896, h896, X896, e896, W896, st896⟩ := stB X0 hx hZ e0 Ar896 (j := (0 : Int32)) (inb_of S896 ⟨by decide, by decide⟩) (g := (mkF m 31 #[rv a1, iv 0, rv a3, iv 0, iv 4, iv 0, iv c0] [(.int (c0.toInt8.toInt32)), (.int 0), (.ref a3)])) rfl rfl (hb hby d10_31)
  have V896 : Arv Z h896 a3 kb .byte (4 : Int32) [(.int (nar .byte (c0.toInt8.toInt32))), (.int 0), (.int 0), (.int 0)] (.int (0 : Int32)) := Arv.set Ar896 q896 S896 N896z H896 G896 (fits_nar_byte _) W896 0 rfl (Nat.le_of_ble_eq_true rfl)
  have N896 := Fr.snoc X896 N0 g_a3
  have K896 : Keep h0 h896 [a3] := (Keep.refl h0 [a3]).wr W896 (Or.inl (by simp))
  have z897 : n0 ≤ h896.size := (Nat.le_trans Z0 (Keep.of_wr W896).1)
  obtain ⟨cl898, Ar898, -, Sz898, Nz898, Hs898, -⟩ := id (P0.other W896 ne_a1_a3)
  have in898 : ¬ ((1 : Int32) < 0 ∨ cl898.slots.size ≤ ((1 : Int32)).toNatClampNeg) := inb_of Sz898 ⟨by decide, by decide⟩
  have at898 : cl898.slots[((1 : Int32)).toNatClampNeg]? = some (.int c1) := Has.at Hs898 in898 rfl
  obtain ⟨cl899, Ar899, q899, S899, N899z, H899, G899⟩ := id V896
  obtain ⟨T899, h899, X899, e899, W899, st899⟩ := stB X896 hx hZ e896 Ar899 (j := (1 : Int32)) (inb_of S899 ⟨by decide, by decide⟩) (g := (mkF m 31 #[rv a1, iv 1, rv a3, iv 1, iv 4, iv 1, iv c1] [(.int (c1.toInt8.toInt32)), (.int 1), (.ref a3)])) rfl rfl (hb hby d10_31)
  have V899 : Arv Z h899 a3 kb .byte (4 : Int32) [(.int (nar .byte (c0.toInt8.toInt32))), (.int (nar .byte (c1.toInt8.toInt32))), (.int 0), (.int 0)] (.int (0 : Int32)) := Arv.set Ar899 q899 S899 N899z H899 G899 (fits_nar_byte _) W899 1 rfl (Nat.le_of_ble_eq_true rfl)
  have N899 := Fr.snoc X899 N896 g_a3
  have K899 : Keep h0 h899 [a3] := K896.wr W899 (Or.inl (by simp))
  have f900 := ((P0.other W896 ne_a1_a3).other W899 ne_a1_a3)
  have z901 : n0 ≤ h899.size := (Nat.le_trans z897 (Keep.of_wr W899).1)
  obtain ⟨cl902, Ar902, -, Sz902, Nz902, Hs902, -⟩ := id f900
  have in902 : ¬ ((2 : Int32) < 0 ∨ cl902.slots.size ≤ ((2 : Int32)).toNatClampNeg) := inb_of Sz902 ⟨by decide, by decide⟩
  have at902 : cl902.slots[((2 : Int32)).toNatClampNeg]? = some (.int c2) := Has.at Hs902 in902 rfl
  have pre903 := own_go pre0 (T899.setTop (mkF m 25 #[rv a1, iv 2, rv a3, iv 2, iv 4, iv 2, iv c2] [(.int 2)])) fun t kt => by
    refine XS.iconst X0.here hx rfl (hb hby d10_0) ?_
    refine XS.istore X0.here hx rfl (hb hby d10_1) rfl (l' := #[rv a1, iv 0, rv a3, iv 0, iv 4, iv 0, .unset]) rfl ?_
    refine XS.iload X0.here hx rfl (hb hby d10_3) rfl ?_
    refine XS.iload X0.here hx rfl (hb hby d10_5) rfl ?_
    refine XS.icmpNo X0.here hx rfl (hb hby d10_7) rfl (tlt (by decide : (0 : Int32) < (4 : Int32))).2.1 ?_
    refine XS.aloadN X0.here hx rfl (hb hby d10_10) rfl rfl ?_
    refine XS.iloadN X0.here hx rfl (hb hby d10_11) rfl ?_
    refine X0.caload hx (j := (0 : Int32)) (v := (.int c0)) (by rw [e0]; exact Ar895.1) (State.isArrayOf_alike hZ.alike Ar895.2.1) Ar895.2.2 in895 at895 (g := (mkF m 12 #[rv a1, iv 0, rv a3, iv 0, iv 4, iv 0, .unset] [(.int 0), (.ref a1)])) rfl rfl (hb hby d10_12) _ ?_
    refine XS.istore X0.here hx rfl (hb hby d10_13) rfl (l' := #[rv a1, iv 0, rv a3, iv 0, iv 4, iv 0, iv c0]) rfl ?_
    refine XS.iload X0.here hx rfl (hb hby d10_15) rfl ?_
    refine XS.sipush X0.here hx rfl (hb hby d10_17) ?_
    refine XS.icmpYes X0.here hx rfl (pc0 := 20) (pc' := 26) rfl (hb hby d10_20) rfl (flt (u0 : ¬ ((255 : Int32) < c0))).2.2.2 (by decide) (by decide) ?_
    refine XS.aloadN X0.here hx rfl (hb hby d10_26) rfl rfl ?_
    refine XS.iloadN X0.here hx rfl (hb hby d10_27) rfl ?_
    refine XS.iload X0.here hx rfl (hb hby d10_28) rfl ?_
    refine XS.i2b X0.here hx rfl (hb hby d10_30) rfl ?_
    refine st896 _ ?_
    refine XS.iinc X896.here hx rfl (hb hby d10_32) rfl (l' := #[rv a1, iv 1, rv a3, iv 0, iv 4, iv 0, iv c0]) rfl ?_
    refine XS.iinc X896.here hx rfl (hb hby d10_35) rfl (l' := #[rv a1, iv 1, rv a3, iv 1, iv 4, iv 0, iv c0]) rfl ?_
    refine XS.iinc X896.here hx rfl (hb hby d10_38) rfl (l' := #[rv a1, iv 1, rv a3, iv 1, iv 4, iv 1, iv c0]) rfl ?_
    refine XS.goto X896.here hx rfl (pc0 := 41) (pc' := 3) rfl (hb hby d10_41) (by decide) (by decide) ?_
    refine XS.iload X896.here hx rfl (hb hby d10_3) rfl ?_
    refine XS.iload X896.here hx rfl (hb hby d10_5) rfl ?_
    refine XS.icmpNo X896.here hx rfl (hb hby d10_7) rfl (tlt (by decide : (1 : Int32) < (4 : Int32))).2.1 ?_
    refine XS.aloadN X896.here hx rfl (hb hby d10_10) rfl rfl ?_
    refine XS.iloadN X896.here hx rfl (hb hby d10_11) rfl ?_
    refine X896.caload hx (j := (1 : Int32)) (v := (.int c1)) (by rw [e896]; exact Ar898.1) (State.isArrayOf_alike hZ.alike Ar898.2.1) Ar898.2.2 in898 at898 (g := (mkF m 12 #[rv a1, iv 1, rv a3, iv 1, iv 4, iv 1, iv c0] [(.int 1), (.ref a1)])) rfl rfl (hb hby d10_12) _ ?_
    refine XS.istore X896.here hx rfl (hb hby d10_13) rfl (l' := #[rv a1, iv 1, rv a3, iv 1, iv 4, iv 1, iv c1]) rfl ?_
    refine XS.iload X896.here hx rfl (hb hby d10_15) rfl ?_
    refine XS.sipush X896.here hx rfl (hb hby d10_17) ?_
    refine XS.icmpYes X896.here hx rfl (pc0 := 20) (pc' := 26) rfl (hb hby d10_20) rfl (flt (u1 : ¬ ((255 : Int32) < c1))).2.2.2 (by decide) (by decide) ?_
    refine XS.aloadN X896.here hx rfl (hb hby d10_26) rfl rfl ?_
    refine XS.iloadN X896.here hx rfl (hb hby d10_27) rfl ?_
    refine XS.iload X896.here hx rfl (hb hby d10_28) rfl ?_
    refine XS.i2b X896.here hx rfl (hb hby d10_30) rfl ?_
    refine st899 _ ?_
    refine XS.iinc X899.here hx rfl (hb hby d10_32) rfl (l' := #[rv a1, iv 2, rv a3, iv 1, iv 4, iv 1, iv c1]) rfl ?_
    refine XS.iinc X899.here hx rfl (hb hby d10_35) rfl (l' := #[rv a1, iv 2, rv a3, iv 2, iv 4, iv 1, iv c1]) rfl ?_
    refine XS.iinc X899.here hx rfl (hb hby d10_38) rfl (l' := #[rv a1, iv 2, rv a3, iv 2, iv 4, iv 2, iv c1]) rfl ?_
    refine XS.goto X899.here hx rfl (pc0 := 41) (pc' := 3) rfl (hb hby d10_41) (by decide) (by decide) ?_
    refine XS.iload X899.here hx rfl (hb hby d10_3) rfl ?_
    refine XS.iload X899.here hx rfl (hb hby d10_5) rfl ?_
    refine XS.icmpNo X899.here hx rfl (hb hby d10_7) rfl (tlt (by decide : (2 : Int32) < (4 : Int32))).2.1 ?_
    refine XS.aloadN X899.here hx rfl (hb hby d10_10) rfl rfl ?_
    refine XS.iloadN X899.here hx rfl (hb hby d10_11) rfl ?_
    refine X899.caload hx (j := (2 : Int32)) (v := (.int c2)) (by rw [e899]; exact Ar902.1) (State.isArrayOf_alike hZ.alike Ar902.2.1) Ar902.2.2 in902 at902 (g := (mkF m 12 #[rv a1, iv 2, rv a3, iv 2, iv 4, iv 2, iv c1] [(.int 2), (.ref a1)])) rfl rfl (hb hby d10_12) _ ?_
    refine XS.istore X899.here hx rfl (hb hby d10_13) rfl (l' := #[rv a1, iv 2, rv a3, iv 2, iv 4, iv 2, iv c2]) rfl ?_
    refine XS.iload X899.here hx rfl (hb hby d10_15) rfl ?_
    refine XS.sipush X899.here hx rfl (hb hby d10_17) ?_
    refine XS.icmpNo X899.here hx rfl (hb hby d10_20) rfl (tlt (u2 : (255 : Int32) < c2)).2.2.2 ?_
    refine XS.iload X899.here hx rfl (hb hby d10_23) rfl ?_
    exact kt
  refine own_lv X899 Bd.notSynchronized (v := some (.int 2)) (own_nv Bd.returns) pre903 (fun fs hr => retI X899 hx Bd.returns (hb hby d10_25) hr) ?_
  show Q10_4U2 Z a1 a3 kc kb c0 c1 c2 c3 h0 n0 _ T899.heap _
  rw [e899]
  exact ⟨rfl, N899, K899⟩
def Q10_4U3 (Z : State) (a1 : Addr) (a3 : Addr) (kc : ClassId) (kb : ClassId) (c0 : Int32) (c1 : Int32) (c2 : Int32) (c3 : Int32) (h0 : Heap) (n0 : Nat) (v : Option Value) (h : Heap) (L : List Loc) : Prop := v = some (.int 3) ∧ Fr n0 L ∧ Keep h0 h [a3]
theorem rm10_4U3 (l : Launch) (Z : State) (a0 : Array Value) (hw : own_H a0 Z) (ws : List Jvm.Cond) (a1 : Addr) (a3 : Addr) (kc : ClassId) (kb : ClassId) (c0 : Int32) (c1 : Int32) (c2 : Int32) (c3 : Int32) (h0 : Heap) (n0 : Nat) (Z0 : n0 ≤ h0.size) (P0 : Arv Z h0 a1 kc .char (4 : Int32) [(.int c0), (.int c1), (.int c2), (.int c3)] (.int (0 : Int32))) (P1 : Arv Z h0 a3 kb .byte (4 : Int32) [(.int 0), (.int 0), (.int 0), (.int 0)] (.int (0 : Int32))) (ne_a1_a3 : a1 ≠ a3) (g_a3 : n0 ≤ a3) (u0 : ¬ (255 : Int32) < c0) (u1 : ¬ (255 : Int32) < c1) (u2 : ¬ (255 : Int32) < c2) (u3 : (255 : Int32) < c3) :
    own_M l Z (⟨"java/lang/StringUTF16", "compress", "([CI[BII)I"⟩ : MethodName) jdk_52_method_21_code 7 (some .int) ws ({ frames := 0, cells := 0, slots := 0, locals := 0 } : Room) #[(.ref a1), (.int 0), (.ref a3), (.int 0), (.int 4)] h0 (Q10_4U3 Z a1 a3 kc kb c0 c1 c2 c3 h0 n0) := by
  refine own_bd (n0 := n0) (plainFor_of_name pn_10) fun p e s m below meth c s₁ Bd hZ hx hby hml hown X0 e0 N0 => ?_
  have pre0 := own_p0 (tb := p.tables) (e := e) (below := below) (s := s₁) (ef_10_4L m a1 a3)
  obtain ⟨cl904, Ar904, -, Sz904, Nz904, Hs904, -⟩ := id P0
  have in904 : ¬ ((0 : Int32) < 0 ∨ cl904.slots.size ≤ ((0 : Int32)).toNatClampNeg) := inb_of Sz904 ⟨by decide, by decide⟩
  have at904 : cl904.slots[((0 : Int32)).toNatClampNeg]? = some (.int c0) := Has.at Hs904 in904 rfl
  obtain ⟨cl905, Ar905, q905, S905, N905z, H905, G905⟩ := id P1
  obtain ⟨T905, h905, X905, e905, W905, st905⟩ := stB X0 hx hZ e0 Ar905 (j := (0 : Int32)) (inb_of S905 ⟨by decide, by decide⟩) (g := (mkF m 31 #[rv a1, iv 0, rv a3, iv 0, iv 4, iv 0, iv c0] [(.int (c0.toInt8.toInt32)), (.int 0), (.ref a3)])) rfl rfl (hb hby d10_31)
  have V905 : Arv Z h905 a3 kb .byte (4 : Int32) [(.int (nar .byte (c0.toInt8.toInt32))), (.int 0), (.int 0), (.int 0)] (.int (0 : Int32)) := Arv.set Ar905 q905 S905 N905z H905 G905 (fits_nar_byte _) W905 0 rfl (Nat.le_of_ble_eq_true rfl)
  have N905 := Fr.snoc X905 N0 g_a3
  have K905 : Keep h0 h905 [a3] := (Keep.refl h0 [a3]).wr W905 (Or.inl (by simp))
  have z906 : n0 ≤ h905.size := (Nat.le_trans Z0 (Keep.of_wr W905).1)
  obtain ⟨cl907, Ar907, -, Sz907, Nz907, Hs907, -⟩ := id (P0.other W905 ne_a1_a3)
  have in907 : ¬ ((1 : Int32) < 0 ∨ cl907.slots.size ≤ ((1 : Int32)).toNatClampNeg) := inb_of Sz907 ⟨by decide, by decide⟩
  have at907 : cl907.slots[((1 : Int32)).toNatClampNeg]? = some (.int c1) := Has.at Hs907 in907 rfl
  obtain ⟨cl908, Ar908, q908, S908, N908z, H908, G908⟩ := id V905
  obtain ⟨T908, h908, X908, e908, W908, st908⟩ := stB X905 hx hZ e905 Ar908 (j := (1 : Int32)) (inb_of S908 ⟨by decide, by decide⟩) (g := (mkF m 31 #[rv a1, iv 1, rv a3, iv 1, iv 4, iv 1, iv c1] [(.int (c1.toInt8.toInt32)), (.int 1), (.ref a3)])) rfl rfl (hb hby d10_31)
  have V908 : Arv Z h908 a3 kb .byte (4 : Int32) [(.int (nar .byte (c0.toInt8.toInt32))), (.int (nar .byte (c1.toInt8.toInt32))), (.int 0), (.int 0)] (.int (0 : Int32)) := Arv.set Ar908 q908 S908 N908z H908 G908 (fits_nar_byte _) W908 1 rfl (Nat.le_of_ble_eq_true rfl)
  have N908 := Fr.snoc X908 N905 g_a3
  have K908 : Keep h0 h908 [a3] := K905.wr W908 (Or.inl (by simp))
  have f909 := ((P0.other W905 ne_a1_a3).other W908 ne_a1_a3)
  have z910 : n0 ≤ h908.size := (Nat.le_trans z906 (Keep.of_wr W908).1)
  obtain ⟨cl911, Ar911, -, Sz911, Nz911, Hs911, -⟩ := id f909
  have in911 : ¬ ((2 : Int32) < 0 ∨ cl911.slots.size ≤ ((2 : Int32)).toNatClampNeg) := inb_of Sz911 ⟨by decide, by decide⟩
  have at911 : cl911.slots[((2 : Int32)).toNatClampNeg]? = some (.int c2) := Has.at Hs911 in911 rfl
  obtain ⟨cl912, Ar912, q912, S912, N912z, H912, G912⟩ := id V908
  obtain ⟨T912, h912, X912, e912, W912, st912⟩ := stB X908 hx hZ e908 Ar912 (j := (2 : Int32)) (inb_of S912 ⟨by decide, by decide⟩) (g := (mkF m 31 #[rv a1, iv 2, rv a3, iv 2, iv 4, iv 2, iv c2] [(.int (c2.toInt8.toInt32)), (.int 2), (.ref a3)])) rfl rfl (hb hby d10_31)
  have V912 : Arv Z h912 a3 kb .byte (4 : Int32) [(.int (nar .byte (c0.toInt8.toInt32))), (.int (nar .byte (c1.toInt8.toInt32))), (.int (nar .byte (c2.toInt8.toInt32))), (.int 0)] (.int (0 : Int32)) := Arv.set Ar912 q912 S912 N912z H912 G912 (fits_nar_byte _) W912 2 rfl (Nat.le_of_ble_eq_true rfl)
  have N912 := Fr.snoc X912 N908 g_a3
  have K912 : Keep h0 h912 [a3] := K908.wr W912 (Or.inl (by simp))
  have z913 : n0 ≤ h912.size := (Nat.le_trans z910 (Keep.of_wr W912).1)
  obtain ⟨cl914, Ar914, -, Sz914, Nz914, Hs914, -⟩ := id (f909.other W912 ne_a1_a3)
  have in914 : ¬ ((3 : Int32) < 0 ∨ cl914.slots.size ≤ ((3 : Int32)).toNatClampNeg) := inb_of Sz914 ⟨by decide, by decide⟩
  have at914 : cl914.slots[((3 : Int32)).toNatClampNeg]? = some (.int c3) := Has.at Hs914 in914 rfl
  have pre915 := own_go pre0 (T912.setTop (mkF m 25 #[rv a1, iv 3, rv a3, iv 3, iv 4, iv 3, iv c3] [(.int 3)])) fun t kt => by
    refine XS.iconst X0.here hx rfl (hb hby d10_0) ?_
    refine XS.istore X0.here hx rfl (hb hby d10_1) rfl (l' := #[rv a1, iv 0, rv a3, iv 0, iv 4, iv 0, .unset]) rfl ?_
    refine XS.iload X0.here hx rfl (hb hby d10_3) rfl ?_
    refine XS.iload X0.here hx rfl (hb hby d10_5) rfl ?_
    refine XS.icmpNo X0.here hx rfl (hb hby d10_7) rfl (tlt (by decide : (0 : Int32) < (4 : Int32))).2.1 ?_
    refine XS.aloadN X0.here hx rfl (hb hby d10_10) rfl rfl ?_
    refine XS.iloadN X0.here hx rfl (hb hby d10_11) rfl ?_
    refine X0.caload hx (j := (0 : Int32)) (v := (.int c0)) (by rw [e0]; exact Ar904.1) (State.isArrayOf_alike hZ.alike Ar904.2.1) Ar904.2.2 in904 at904 (g := (mkF m 12 #[rv a1, iv 0, rv a3, iv 0, iv 4, iv 0, .unset] [(.int 0), (.ref a1)])) rfl rfl (hb hby d10_12) _ ?_
    refine XS.istore X0.here hx rfl (hb hby d10_13) rfl (l' := #[rv a1, iv 0, rv a3, iv 0, iv 4, iv 0, iv c0]) rfl ?_
    refine XS.iload X0.here hx rfl (hb hby d10_15) rfl ?_
    refine XS.sipush X0.here hx rfl (hb hby d10_17) ?_
    refine XS.icmpYes X0.here hx rfl (pc0 := 20) (pc' := 26) rfl (hb hby d10_20) rfl (flt (u0 : ¬ ((255 : Int32) < c0))).2.2.2 (by decide) (by decide) ?_
    refine XS.aloadN X0.here hx rfl (hb hby d10_26) rfl rfl ?_
    refine XS.iloadN X0.here hx rfl (hb hby d10_27) rfl ?_
    refine XS.iload X0.here hx rfl (hb hby d10_28) rfl ?_
    refine XS.i2b X0.here hx rfl (hb hby d10_30) rfl ?_
    refine st905 _ ?_
    refine XS.iinc X905.here hx rfl (hb hby d10_32) rfl (l' := #[rv a1, iv 1, rv a3, iv 0, iv 4, iv 0, iv c0]) rfl ?_
    refine XS.iinc X905.here hx rfl (hb hby d10_35) rfl (l' := #[rv a1, iv 1, rv a3, iv 1, iv 4, iv 0, iv c0]) rfl ?_
    refine XS.iinc X905.here hx rfl (hb hby d10_38) rfl (l' := #[rv a1, iv 1, rv a3, iv 1, iv 4, iv 1, iv c0]) rfl ?_
    refine XS.goto X905.here hx rfl (pc0 := 41) (pc' := 3) rfl (hb hby d10_41) (by decide) (by decide) ?_
    refine XS.iload X905.here hx rfl (hb hby d10_3) rfl ?_
    refine XS.iload X905.here hx rfl (hb hby d10_5) rfl ?_
    refine XS.icmpNo X905.here hx rfl (hb hby d10_7) rfl (tlt (by decide : (1 : Int32) < (4 : Int32))).2.1 ?_
    refine XS.aloadN X905.here hx rfl (hb hby d10_10) rfl rfl ?_
    refine XS.iloadN X905.here hx rfl (hb hby d10_11) rfl ?_
    refine X905.caload hx (j := (1 : Int32)) (v := (.int c1)) (by rw [e905]; exact Ar907.1) (State.isArrayOf_alike hZ.alike Ar907.2.1) Ar907.2.2 in907 at907 (g := (mkF m 12 #[rv a1, iv 1, rv a3, iv 1, iv 4, iv 1, iv c0] [(.int 1), (.ref a1)])) rfl rfl (hb hby d10_12) _ ?_
    refine XS.istore X905.here hx rfl (hb hby d10_13) rfl (l' := #[rv a1, iv 1, rv a3, iv 1, iv 4, iv 1, iv c1]) rfl ?_
    refine XS.iload X905.here hx rfl (hb hby d10_15) rfl ?_
    refine XS.sipush X905.here hx rfl (hb hby d10_17) ?_
    refine XS.icmpYes X905.here hx rfl (pc0 := 20) (pc' := 26) rfl (hb hby d10_20) rfl (flt (u1 : ¬ ((255 : Int32) < c1))).2.2.2 (by decide) (by decide) ?_
    refine XS.aloadN X905.here hx rfl (hb hby d10_26) rfl rfl ?_
    refine XS.iloadN X905.here hx rfl (hb hby d10_27) rfl ?_
    refine XS.iload X905.here hx rfl (hb hby d10_28) rfl ?_
    refine XS.i2b X905.here hx rfl (hb hby d10_30) rfl ?_
    refine st908 _ ?_
    refine XS.iinc X908.here hx rfl (hb hby d10_32) rfl (l' := #[rv a1, iv 2, rv a3, iv 1, iv 4, iv 1, iv c1]) rfl ?_
    refine XS.iinc X908.here hx rfl (hb hby d10_35) rfl (l' := #[rv a1, iv 2, rv a3, iv 2, iv 4, iv 1, iv c1]) rfl ?_
    refine XS.iinc X908.here hx rfl (hb hby d10_38) rfl (l' := #[rv a1, iv 2, rv a3, iv 2, iv 4, iv 2, iv c1]) rfl ?_
    refine XS.goto X908.here hx rfl (pc0 := 41) (pc' := 3) rfl (hb hby d10_41) (by decide) (by decide) ?_
    refine XS.iload X908.here hx rfl (hb hby d10_3) rfl ?_
    refine XS.iload X908.here hx rfl (hb hby d10_5) rfl ?_
    refine XS.icmpNo X908.here hx rfl (hb hby d10_7) rfl (tlt (by decide : (2 : Int32) < (4 : Int32))).2.1 ?_
    refine XS.aloadN X908.here hx rfl (hb hby d10_10) rfl rfl ?_
    refine XS.iloadN X908.here hx rfl (hb hby d10_11) rfl ?_
    refine X908.caload hx (j := (2 : Int32)) (v := (.int c2)) (by rw [e908]; exact Ar911.1) (State.isArrayOf_alike hZ.alike Ar911.2.1) Ar911.2.2 in911 at911 (g := (mkF m 12 #[rv a1, iv 2, rv a3, iv 2, iv 4, iv 2, iv c1] [(.int 2), (.ref a1)])) rfl rfl (hb hby d10_12) _ ?_
    refine XS.istore X908.here hx rfl (hb hby d10_13) rfl (l' := #[rv a1, iv 2, rv a3, iv 2, iv 4, iv 2, iv c2]) rfl ?_
    refine XS.iload X908.here hx rfl (hb hby d10_15) rfl ?_
    refine XS.sipush X908.here hx rfl (hb hby d10_17) ?_
    refine XS.icmpYes X908.here hx rfl (pc0 := 20) (pc' := 26) rfl (hb hby d10_20) rfl (flt (u2 : ¬ ((255 : Int32) < c2))).2.2.2 (by decide) (by decide) ?_
    refine XS.aloadN X908.here hx rfl (hb hby d10_26) rfl rfl ?_
    refine XS.iloadN X908.here hx rfl (hb hby d10_27) rfl ?_
    refine XS.iload X908.here hx rfl (hb hby d10_28) rfl ?_
    refine XS.i2b X908.here hx rfl (hb hby d10_30) rfl ?_
    refine st912 _ ?_
    refine XS.iinc X912.here hx rfl (hb hby d10_32) rfl (l' := #[rv a1, iv 3, rv a3, iv 2, iv 4, iv 2, iv c2]) rfl ?_
    refine XS.iinc X912.here hx rfl (hb hby d10_35) rfl (l' := #[rv a1, iv 3, rv a3, iv 3, iv 4, iv 2, iv c2]) rfl ?_
    refine XS.iinc X912.here hx rfl (hb hby d10_38) rfl (l' := #[rv a1, iv 3, rv a3, iv 3, iv 4, iv 3, iv c2]) rfl ?_
    refine XS.goto X912.here hx rfl (pc0 := 41) (pc' := 3) rfl (hb hby d10_41) (by decide) (by decide) ?_
    refine XS.iload X912.here hx rfl (hb hby d10_3) rfl ?_
    refine XS.iload X912.here hx rfl (hb hby d10_5) rfl ?_
    refine XS.icmpNo X912.here hx rfl (hb hby d10_7) rfl (tlt (by decide : (3 : Int32) < (4 : Int32))).2.1 ?_
    refine XS.aloadN X912.here hx rfl (hb hby d10_10) rfl rfl ?_
    refine XS.iloadN X912.here hx rfl (hb hby d10_11) rfl ?_
    refine X912.caload hx (j := (3 : Int32)) (v := (.int c3)) (by rw [e912]; exact Ar914.1) (State.isArrayOf_alike hZ.alike Ar914.2.1) Ar914.2.2 in914 at914 (g := (mkF m 12 #[rv a1, iv 3, rv a3, iv 3, iv 4, iv 3, iv c2] [(.int 3), (.ref a1)])) rfl rfl (hb hby d10_12) _ ?_
    refine XS.istore X912.here hx rfl (hb hby d10_13) rfl (l' := #[rv a1, iv 3, rv a3, iv 3, iv 4, iv 3, iv c3]) rfl ?_
    refine XS.iload X912.here hx rfl (hb hby d10_15) rfl ?_
    refine XS.sipush X912.here hx rfl (hb hby d10_17) ?_
    refine XS.icmpNo X912.here hx rfl (hb hby d10_20) rfl (tlt (u3 : (255 : Int32) < c3)).2.2.2 ?_
    refine XS.iload X912.here hx rfl (hb hby d10_23) rfl ?_
    exact kt
  refine own_lv X912 Bd.notSynchronized (v := some (.int 3)) (own_nv Bd.returns) pre915 (fun fs hr => retI X912 hx Bd.returns (hb hby d10_25) hr) ?_
  show Q10_4U3 Z a1 a3 kc kb c0 c1 c2 c3 h0 n0 _ T912.heap _
  rw [e912]
  exact ⟨rfl, N912, K912⟩
theorem ef_9_4L (m : MethodId) (x0 : Addr) : entryFrame m #[(.ref x0), (.int 0), (.int 4)] 6 = mkF m 0 #[.val (.ref x0), .val (.int 0), .val (.int 4), .unset, .unset, .unset] [] := by first | (simp [entryFrame, mkF, argsToLocals, Value.category]; done) | rfl
def Q9_4L (Z : State) (a1 : Addr) (kc : ClassId) (c0 : Int32) (c1 : Int32) (c2 : Int32) (c3 : Int32) (h0 : Heap) (n0 : Nat) (v : Option Value) (h : Heap) (L : List Loc) : Prop := ∃ (x1 : Addr) (kx1 : ClassId), v = some (.ref x1) ∧ Fr n0 L ∧ Keep h0 h [] ∧ n0 ≤ x1 ∧ h0.size ≤ x1 ∧ Arv Z h x1 kx1 .byte (4 : Int32) [(.int (own_by c0)), (.int (own_by c1)), (.int (own_by c2)), (.int (own_by c3))] (.int (0 : Int32))
theorem rm9_4L (l : Launch) (Z : State) (a0 : Array Value) (hw : own_H a0 Z) (ws : List Jvm.Cond) (a1 : Addr) (kc : ClassId) (c0 : Int32) (c1 : Int32) (c2 : Int32) (c3 : Int32) (h0 : Heap) (n0 : Nat) (Z0 : n0 ≤ h0.size) (P0 : Arv Z h0 a1 kc .char (4 : Int32) [(.int c0), (.int c1), (.int c2), (.int c3)] (.int (0 : Int32))) (u0 : ¬ (255 : Int32) < c0) (u1 : ¬ (255 : Int32) < c1) (u2 : ¬ (255 : Int32) < c2) (u3 : ¬ (255 : Int32) < c3) :
    own_M l Z (⟨"java/lang/StringUTF16", "compress", "([CII)[B"⟩ : MethodName) jdk_52_method_16_code 6 (some (.array .byte)) ws ({ frames := 1, cells := 1, slots := 4, locals := 18 } : Room) #[(.ref a1), (.int 0), (.int 4)] h0 (Q9_4L Z a1 kc c0 c1 c2 c3 h0 n0) := by
  refine own_bd (n0 := n0) (plainFor_of_name pn_9) fun p e s m below meth c s₁ Bd hZ hx hby hml hown X0 e0 N0 => ?_
  have pre0 := own_p0 (tb := p.tables) (e := e) (below := below) (s := s₁) (ef_9_4L m a1)
  obtain ⟨T916, h916, k916, X916, e916, E916, A916, st916⟩ := newP X0 hx hZ (ow hw 38 rfl) e0 (g := (mkF m 1 #[rv a1, iv 0, iv 4, .unset, .unset, .unset] [(.int 4)])) rfl (hb hby d9_1) rfl (by decide) (cap := 4) (by decide) (by decide) (by decide) (by decide)
  obtain ⟨b916, g916⟩ : ∃ z, z = h0.size := ⟨_, rfl⟩
  rw [← g916] at A916 st916
  have ne917 : a1 ≠ b916 := Nat.ne_of_lt (Nat.lt_of_lt_of_le P0.lt (Nat.le_of_eq g916.symm))
  have g_b916 : n0 ≤ b916 := Nat.le_trans Z0 (Nat.le_of_eq g916.symm)
  have sz_b916 : h0.size ≤ b916 := Nat.le_trans (Keep.refl h0 []).1 (Nat.le_of_eq g916.symm)
  have K916 : Keep h0 h916 [] := (Keep.refl h0 []).ext E916
  have V916 : Arv Z h916 b916 k916 .byte (4 : Int32) [(.int 0), (.int 0), (.int 0), (.int 0)] (.int (0 : Int32)) := (Arv.new A916 (by decide)).pad (pad_rep [] (.int (0 : Int32)) 4)
  obtain ⟨_, T918, L918, X918, hQ918, st918⟩ := own_cS X916 hx hZ hml hown (ow hw 39 rfl) (ow hw 40 rfl) (ow hw 36 rfl) (ow hw 41 rfl) e916 (rm10_4L l Z a0 hw [] a1 b916 kc k916 c0 c1 c2 c3 h916 n0 (Nat.le_trans Z0 E916.1) (P0.ext E916) V916 ne917 g_b916 u0 u1 u2 u3) (W := 0) (g := (mkF m 9 #[rv a1, iv 0, iv 4, rv b916, .unset, .unset] [(.int 4), (.int 0), (.ref b916), (.int 0), (.ref a1)])) (argsL := [(.ref a1), (.int 0), (.ref b916), (.int 0), (.int 4)]) (rest := []) (lenOf pd_11 rfl) (hb hby d9_9)
  obtain ⟨rfl, N918q, K918q, q918_0⟩ := hQ918
  have N918 := Fr.app N0 N918q
  have K918 : Keep h0 T918.heap [] := K916.trans K918q (allS (Or.inr sz_b916) all0)
  have f919 := ((P0.ext E916).keep K918q (ninS ne917 nin0))
  have z920 : n0 ≤ T918.heap.size := (Nat.le_trans (Nat.le_trans Z0 E916.1) K918q.1)
  have pre921 := own_go pre0 (T918.setTop (mkF m 58 #[rv a1, iv 0, iv 4, rv b916, iv 4, .unset] [(.ref b916)])) fun t kt => by
    refine XS.iloadN X0.here hx rfl (hb hby d9_0) rfl ?_
    refine st916 _ ?_
    refine XS.astoreN X916.here hx rfl (hb hby d9_3) rfl rfl (l' := #[rv a1, iv 0, iv 4, rv b916, .unset, .unset]) rfl ?_
    refine XS.aloadN X916.here hx rfl (hb hby d9_4) rfl rfl ?_
    refine XS.iloadN X916.here hx rfl (hb hby d9_5) rfl ?_
    refine XS.aloadN X916.here hx rfl (hb hby d9_6) rfl rfl ?_
    refine XS.iconst X916.here hx rfl (hb hby d9_7) ?_
    refine XS.iloadN X916.here hx rfl (hb hby d9_8) rfl ?_
    refine st918 _ ?_
    refine XS.istore X918.here hx rfl (hb hby d9_12) rfl (l' := #[rv a1, iv 0, iv 4, rv b916, iv 4, .unset]) rfl ?_
    refine XS.iload X918.here hx rfl (hb hby d9_14) rfl ?_
    refine XS.iloadN X918.here hx rfl (hb hby d9_16) rfl ?_
    refine XS.icmpYes X918.here hx rfl (pc0 := 17) (pc' := 57) rfl (hb hby d9_17) rfl (teq (by decide : (4 : Int32) = (4 : Int32))).1 (by decide) (by decide) ?_
    refine XS.aloadN X918.here hx rfl (hb hby d9_57) rfl rfl ?_
    exact kt
  refine own_lv X918 Bd.notSynchronized (v := some (.ref b916)) (own_nv Bd.returns) pre921 (fun fs hr => retOut X918 hx Bd.returns (own_nref _ rfl) (Or.inr (Or.inr (Or.inr (Or.inr ⟨rfl, rfl, rfl⟩)))) (hb hby d9_58) hr) ?_
  show Q9_4L Z a1 kc c0 c1 c2 c3 h0 n0 _ T918.heap _
  exact ⟨b916, k916, rfl, N918, K918, g_b916, sz_b916, q918_0⟩
def Q9_4U (Z : State) (a1 : Addr) (kc : ClassId) (c0 : Int32) (c1 : Int32) (c2 : Int32) (c3 : Int32) (h0 : Heap) (n0 : Nat) (v : Option Value) (h : Heap) (L : List Loc) : Prop := ∃ (x1 : Addr) (kx1 : ClassId), v = some (.ref x1) ∧ Fr n0 L ∧ Keep h0 h [] ∧ n0 ≤ x1 ∧ h0.size ≤ x1 ∧ Arv Z h x1 kx1 .byte (8 : Int32) [(.int (own_lo c0)), (.int (own_hi c0)), (.int (own_lo c1)), (.int (own_hi c1)), (.int (own_lo c2)), (.int (own_hi c2)), (.int (own_lo c3)), (.int (own_hi c3))] (.int (0 : Int32))
theorem rm9_4U (l : Launch) (Z : State) (a0 : Array Value) (hw : own_H a0 Z) (ws : List Jvm.Cond) (a1 : Addr) (kc : ClassId) (c0 : Int32) (c1 : Int32) (c2 : Int32) (c3 : Int32) (h0 : Heap) (n0 : Nat) (Z0 : n0 ≤ h0.size) (P0 : Arv Z h0 a1 kc .char (4 : Int32) [(.int c0), (.int c1), (.int c2), (.int c3)] (.int (0 : Int32))) (P1 : Old Z n0 h0) (R2 : Sta Z Z.heap "java/lang/StringUTF16" "$assertionsDisabled" "Z" (.int 1)) (R3 : Sta Z Z.heap "java/lang/StringUTF16" "HI_BYTE_SHIFT" "I" (.int 0)) (R4 : Sta Z Z.heap "java/lang/StringUTF16" "LO_BYTE_SHIFT" "I" (.int 8)) (hU : (255 : Int32) < c0 ∨ (255 : Int32) < c1 ∨ (255 : Int32) < c2 ∨ (255 : Int32) < c3) (hr0 : ¬ c0 < (0 : Int32) ∧ ¬ (65535 : Int32) < c0) (hr1 : ¬ c1 < (0 : Int32) ∧ ¬ (65535 : Int32) < c1) (hr2 : ¬ c2 < (0 : Int32) ∧ ¬ (65535 : Int32) < c2) (hr3 : ¬ c3 < (0 : Int32) ∧ ¬ (65535 : Int32) < c3) :
    own_M l Z (⟨"java/lang/StringUTF16", "compress", "([CII)[B"⟩ : MethodName) jdk_52_method_16_code 6 (some (.array .byte)) ws ({ frames := 3, cells := 2, slots := 12, locals := 40 } : Room) #[(.ref a1), (.int 0), (.int 4)] h0 (Q9_4U Z a1 kc c0 c1 c2 c3 h0 n0) := by
  refine own_bd (n0 := n0) (plainFor_of_name pn_9) fun p e s m below meth c s₁ Bd hZ hx hby hml hown X0 e0 N0 => ?_
  have pre0 := own_p0 (tb := p.tables) (e := e) (below := below) (s := s₁) (ef_9_4L m a1)
  obtain ⟨T922, h922, k922, X922, e922, E922, A922, st922⟩ := newP X0 hx hZ (ow hw 38 rfl) e0 (g := (mkF m 1 #[rv a1, iv 0, iv 4, .unset, .unset, .unset] [(.int 4)])) rfl (hb hby d9_1) rfl (by decide) (cap := 4) (by decide) (by decide) (by decide) (by decide)
  obtain ⟨b922, g922⟩ : ∃ z, z = h0.size := ⟨_, rfl⟩
  rw [← g922] at A922 st922
  have ne923 : a1 ≠ b922 := Nat.ne_of_lt (Nat.lt_of_lt_of_le P0.lt (Nat.le_of_eq g922.symm))
  have g_b922 : n0 ≤ b922 := Nat.le_trans Z0 (Nat.le_of_eq g922.symm)
  have sz_b922 : h0.size ≤ b922 := Nat.le_trans (Keep.refl h0 []).1 (Nat.le_of_eq g922.symm)
  have K922 : Keep h0 h922 [] := (Keep.refl h0 []).ext E922
  have V922 : Arv Z h922 b922 k922 .byte (4 : Int32) [(.int 0), (.int 0), (.int 0), (.int 0)] (.int (0 : Int32)) := (Arv.new A922 (by decide)).pad (pad_rep [] (.int (0 : Int32)) 4)
  have pre924 := own_go pre0 (T922.setTop (mkF m 9 #[rv a1, iv 0, iv 4, rv b922, .unset, .unset] [(.int 4), (.int 0), (.ref b922), (.int 0), (.ref a1)])) fun t kt => by
    refine XS.iloadN X0.here hx rfl (hb hby d9_0) rfl ?_
    refine st922 _ ?_
    refine XS.astoreN X922.here hx rfl (hb hby d9_3) rfl rfl (l' := #[rv a1, iv 0, iv 4, rv b922, .unset, .unset]) rfl ?_
    refine XS.aloadN X922.here hx rfl (hb hby d9_4) rfl rfl ?_
    refine XS.iloadN X922.here hx rfl (hb hby d9_5) rfl ?_
    refine XS.aloadN X922.here hx rfl (hb hby d9_6) rfl rfl ?_
    refine XS.iconst X922.here hx rfl (hb hby d9_7) ?_
    refine XS.iloadN X922.here hx rfl (hb hby d9_8) rfl ?_
    exact kt
  by_cases hk925 : (255 : Int32) < c0
  · obtain ⟨_, T926, L926, X926, hQ926, st926⟩ := own_cS X922 hx hZ hml hown (ow hw 39 rfl) (ow hw 40 rfl) (ow hw 36 rfl) (ow hw 41 rfl) e922 (rm10_4U0 l Z a0 hw [] a1 b922 kc k922 c0 c1 c2 c3 h922 n0 (Nat.le_trans Z0 E922.1) (P0.ext E922) V922 ne923 g_b922 hk925) (W := 0) (g := (mkF m 9 #[rv a1, iv 0, iv 4, rv b922, .unset, .unset] [(.int 4), (.int 0), (.ref b922), (.int 0), (.ref a1)])) (argsL := [(.ref a1), (.int 0), (.ref b922), (.int 0), (.int 4)]) (rest := []) (lenOf pd_11 rfl) (hb hby d9_9)
    obtain ⟨rfl, N926q, K926q⟩ := hQ926
    have N926 := Fr.app N0 N926q
    have K926 : Keep h0 T926.heap [] := K922.trans K926q (allS (Or.inr sz_b922) all0)
    have f927 := ((P0.ext E922).keep K926q (ninS ne923 nin0))
    have f928 := ((P1.ext E922).keep K926q (allS g_b922 all0))
    have z929 : n0 ≤ T926.heap.size := (Nat.le_trans (Nat.le_trans Z0 E922.1) K926q.1)
    obtain ⟨_, T930, L930, X930, hQ930, st930⟩ := own_cS X926 hx hZ hml hown (ow hw 106 rfl) (ow hw 107 rfl) (ow hw 36 rfl) (ow hw 108 rfl) rfl (rm24_4 l Z a0 hw [] a1 kc c0 c1 c2 c3 T926.heap n0 z929 f927 f928 R2 R3 R4) (W := 0) (g := (mkF m 23 #[rv a1, iv 0, iv 4, rv b922, iv 0, .unset] [(.int 4), (.int 0), (.ref a1)])) (argsL := [(.ref a1), (.int 0), (.int 4)]) (rest := []) (lenOf pd_12 rfl) (hb hby d9_23)
    obtain ⟨b930_0, kk930_0, rfl, N930q, K930q, ga930_0, gz930_0, q930_0⟩ := hQ930
    have N930 := Fr.app N926 N930q
    have ne931 : a1 ≠ b930_0 := Nat.ne_of_lt (Nat.lt_of_lt_of_le f927.lt gz930_0)
    have g_b930_0 : n0 ≤ b930_0 := ga930_0
    have sz_b930_0 : h0.size ≤ b930_0 := Nat.le_trans K926.1 gz930_0
    have K930 : Keep h0 T930.heap [] := K926.trans K930q all0
    have z932 : n0 ≤ T930.heap.size := (Nat.le_trans z929 (own_ke K930q).1)
    obtain ⟨cl933, Ar933, -, Sz933, Nz933, Hs933, -⟩ := id q930_0
    obtain ⟨T934, L934, X934, e934, N934, st934⟩ := own_pS X930 hx hZ hml hown N930 (ow hw 122 rfl) (ow hw 123 rfl) (ow hw 36 rfl) (ow hw 124 rfl) rfl (rm28 l Z a0 hw [] b930_0 (0 : Int32) cl933 (8 : Int32) (own_lo c0) (own_hi c0) T930.heap n0 z932 Ar933 Sz933 Nz933 (inb_of Sz933 ⟨by decide, by decide⟩) (Has.at Hs933 (inb_of Sz933 ⟨by decide, by decide⟩) rfl) (inb_of Sz933 ⟨by decide, by decide⟩) (Has.at Hs933 (inb_of Sz933 ⟨by decide, by decide⟩) rfl) (R2.ext (f928.ext (own_ke K930q)).2) (R3.ext (f928.ext (own_ke K930q)).2) (R4.ext (f928.ext (own_ke K930q)).2)) (W := 0) (g := (mkF m 32 #[rv a1, iv 0, iv 4, rv b922, iv 0, rv b930_0] [(.int 0), (.ref b930_0)])) (argsL := [(.ref b930_0), (.int 0)]) (rest := []) (lenOf pd_4 rfl) (hb hby d9_32)
    have pre935 := own_go pre924 (T934.setTop (mkF m 56 #[rv a1, iv 0, iv 4, rv b922, iv 0, rv b930_0] [(.ref b930_0)])) fun t kt => by
      refine st926 _ ?_
      refine XS.istore X926.here hx rfl (hb hby d9_12) rfl (l' := #[rv a1, iv 0, iv 4, rv b922, iv 0, .unset]) rfl ?_
      refine XS.iload X926.here hx rfl (hb hby d9_14) rfl ?_
      refine XS.iloadN X926.here hx rfl (hb hby d9_16) rfl ?_
      refine XS.icmpNo X926.here hx rfl (hb hby d9_17) rfl (feq (by decide : ¬ ((0 : Int32) = (4 : Int32)))).1 ?_
      refine XS.aloadN X926.here hx rfl (hb hby d9_20) rfl rfl ?_
      refine XS.iloadN X926.here hx rfl (hb hby d9_21) rfl ?_
      refine XS.iloadN X926.here hx rfl (hb hby d9_22) rfl ?_
      refine st930 _ ?_
      refine XS.astore X930.here hx rfl (hb hby d9_26) rfl rfl (l' := #[rv a1, iv 0, iv 4, rv b922, iv 0, rv b930_0]) rfl ?_
      refine XS.aload X930.here hx rfl (hb hby d9_28) rfl rfl ?_
      refine XS.iload X930.here hx rfl (hb hby d9_30) rfl ?_
      refine st934 _ ?_
      refine XS.sipush X934.here hx rfl (hb hby d9_35) ?_
      refine XS.icmpYes X934.here hx rfl (pc0 := 38) (pc' := 54) rfl (hb hby d9_38) rfl (tlt ((by rw [own_rtU hr0]; exact hk925) : (255 : Int32) < (own_gc (own_lo c0) (own_hi c0)))).2.2.1 (by decide) (by decide) ?_
      refine XS.aload X934.here hx rfl (hb hby d9_54) rfl rfl ?_
      exact kt
    refine own_lv X934 Bd.notSynchronized (v := some (.ref b930_0)) (own_nv Bd.returns) pre935 (fun fs hr => retOut X934 hx Bd.returns (own_nref _ rfl) (Or.inr (Or.inr (Or.inr (Or.inr ⟨rfl, rfl, rfl⟩)))) (hb hby d9_56) hr) ?_
    show Q9_4U Z a1 kc c0 c1 c2 c3 h0 n0 _ T934.heap _
    rw [e934]
    exact ⟨b930_0, kk930_0, rfl, N934, K930, g_b930_0, sz_b930_0, q930_0⟩
  · by_cases hk936 : (255 : Int32) < c1
    · obtain ⟨_, T937, L937, X937, hQ937, st937⟩ := own_cS X922 hx hZ hml hown (ow hw 39 rfl) (ow hw 40 rfl) (ow hw 36 rfl) (ow hw 41 rfl) e922 (rm10_4U1 l Z a0 hw [] a1 b922 kc k922 c0 c1 c2 c3 h922 n0 (Nat.le_trans Z0 E922.1) (P0.ext E922) V922 ne923 g_b922 hk925 hk936) (W := 0) (g := (mkF m 9 #[rv a1, iv 0, iv 4, rv b922, .unset, .unset] [(.int 4), (.int 0), (.ref b922), (.int 0), (.ref a1)])) (argsL := [(.ref a1), (.int 0), (.ref b922), (.int 0), (.int 4)]) (rest := []) (lenOf pd_11 rfl) (hb hby d9_9)
      obtain ⟨rfl, N937q, K937q⟩ := hQ937
      have N937 := Fr.app N0 N937q
      have K937 : Keep h0 T937.heap [] := K922.trans K937q (allS (Or.inr sz_b922) all0)
      have f938 := ((P0.ext E922).keep K937q (ninS ne923 nin0))
      have f939 := ((P1.ext E922).keep K937q (allS g_b922 all0))
      have z940 : n0 ≤ T937.heap.size := (Nat.le_trans (Nat.le_trans Z0 E922.1) K937q.1)
      obtain ⟨_, T941, L941, X941, hQ941, st941⟩ := own_cS X937 hx hZ hml hown (ow hw 106 rfl) (ow hw 107 rfl) (ow hw 36 rfl) (ow hw 108 rfl) rfl (rm24_4 l Z a0 hw [] a1 kc c0 c1 c2 c3 T937.heap n0 z940 f938 f939 R2 R3 R4) (W := 0) (g := (mkF m 23 #[rv a1, iv 0, iv 4, rv b922, iv 1, .unset] [(.int 4), (.int 0), (.ref a1)])) (argsL := [(.ref a1), (.int 0), (.int 4)]) (rest := []) (lenOf pd_12 rfl) (hb hby d9_23)
      obtain ⟨b941_0, kk941_0, rfl, N941q, K941q, ga941_0, gz941_0, q941_0⟩ := hQ941
      have N941 := Fr.app N937 N941q
      have ne942 : a1 ≠ b941_0 := Nat.ne_of_lt (Nat.lt_of_lt_of_le f938.lt gz941_0)
      have g_b941_0 : n0 ≤ b941_0 := ga941_0
      have sz_b941_0 : h0.size ≤ b941_0 := Nat.le_trans K937.1 gz941_0
      have K941 : Keep h0 T941.heap [] := K937.trans K941q all0
      have z943 : n0 ≤ T941.heap.size := (Nat.le_trans z940 (own_ke K941q).1)
      obtain ⟨cl944, Ar944, -, Sz944, Nz944, Hs944, -⟩ := id q941_0
      obtain ⟨T945, L945, X945, e945, N945, st945⟩ := own_pS X941 hx hZ hml hown N941 (ow hw 122 rfl) (ow hw 123 rfl) (ow hw 36 rfl) (ow hw 124 rfl) rfl (rm28 l Z a0 hw [] b941_0 (1 : Int32) cl944 (8 : Int32) (own_lo c1) (own_hi c1) T941.heap n0 z943 Ar944 Sz944 Nz944 (inb_of Sz944 ⟨by decide, by decide⟩) (Has.at Hs944 (inb_of Sz944 ⟨by decide, by decide⟩) rfl) (inb_of Sz944 ⟨by decide, by decide⟩) (Has.at Hs944 (inb_of Sz944 ⟨by decide, by decide⟩) rfl) (R2.ext (f939.ext (own_ke K941q)).2) (R3.ext (f939.ext (own_ke K941q)).2) (R4.ext (f939.ext (own_ke K941q)).2)) (W := 0) (g := (mkF m 32 #[rv a1, iv 0, iv 4, rv b922, iv 1, rv b941_0] [(.int 1), (.ref b941_0)])) (argsL := [(.ref b941_0), (.int 1)]) (rest := []) (lenOf pd_4 rfl) (hb hby d9_32)
      have pre946 := own_go pre924 (T945.setTop (mkF m 56 #[rv a1, iv 0, iv 4, rv b922, iv 1, rv b941_0] [(.ref b941_0)])) fun t kt => by
        refine st937 _ ?_
        refine XS.istore X937.here hx rfl (hb hby d9_12) rfl (l' := #[rv a1, iv 0, iv 4, rv b922, iv 1, .unset]) rfl ?_
        refine XS.iload X937.here hx rfl (hb hby d9_14) rfl ?_
        refine XS.iloadN X937.here hx rfl (hb hby d9_16) rfl ?_
        refine XS.icmpNo X937.here hx rfl (hb hby d9_17) rfl (feq (by decide : ¬ ((1 : Int32) = (4 : Int32)))).1 ?_
        refine XS.aloadN X937.here hx rfl (hb hby d9_20) rfl rfl ?_
        refine XS.iloadN X937.here hx rfl (hb hby d9_21) rfl ?_
        refine XS.iloadN X937.here hx rfl (hb hby d9_22) rfl ?_
        refine st941 _ ?_
        refine XS.astore X941.here hx rfl (hb hby d9_26) rfl rfl (l' := #[rv a1, iv 0, iv 4, rv b922, iv 1, rv b941_0]) rfl ?_
        refine XS.aload X941.here hx rfl (hb hby d9_28) rfl rfl ?_
        refine XS.iload X941.here hx rfl (hb hby d9_30) rfl ?_
        refine st945 _ ?_
        refine XS.sipush X945.here hx rfl (hb hby d9_35) ?_
        refine XS.icmpYes X945.here hx rfl (pc0 := 38) (pc' := 54) rfl (hb hby d9_38) rfl (tlt ((by rw [own_rtU hr1]; exact hk936) : (255 : Int32) < (own_gc (own_lo c1) (own_hi c1)))).2.2.1 (by decide) (by decide) ?_
        refine XS.aload X945.here hx rfl (hb hby d9_54) rfl rfl ?_
        exact kt
      refine own_lv X945 Bd.notSynchronized (v := some (.ref b941_0)) (own_nv Bd.returns) pre946 (fun fs hr => retOut X945 hx Bd.returns (own_nref _ rfl) (Or.inr (Or.inr (Or.inr (Or.inr ⟨rfl, rfl, rfl⟩)))) (hb hby d9_56) hr) ?_
      show Q9_4U Z a1 kc c0 c1 c2 c3 h0 n0 _ T945.heap _
      rw [e945]
      exact ⟨b941_0, kk941_0, rfl, N945, K941, g_b941_0, sz_b941_0, q941_0⟩
    · by_cases hk947 : (255 : Int32) < c2
      · obtain ⟨_, T948, L948, X948, hQ948, st948⟩ := own_cS X922 hx hZ hml hown (ow hw 39 rfl) (ow hw 40 rfl) (ow hw 36 rfl) (ow hw 41 rfl) e922 (rm10_4U2 l Z a0 hw [] a1 b922 kc k922 c0 c1 c2 c3 h922 n0 (Nat.le_trans Z0 E922.1) (P0.ext E922) V922 ne923 g_b922 hk925 hk936 hk947) (W := 0) (g := (mkF m 9 #[rv a1, iv 0, iv 4, rv b922, .unset, .unset] [(.int 4), (.int 0), (.ref b922), (.int 0), (.ref a1)])) (argsL := [(.ref a1), (.int 0), (.ref b922), (.int 0), (.int 4)]) (rest := []) (lenOf pd_11 rfl) (hb hby d9_9)
        obtain ⟨rfl, N948q, K948q⟩ := hQ948
        have N948 := Fr.app N0 N948q
        have K948 : Keep h0 T948.heap [] := K922.trans K948q (allS (Or.inr sz_b922) all0)
        have f949 := ((P0.ext E922).keep K948q (ninS ne923 nin0))
        have f950 := ((P1.ext E922).keep K948q (allS g_b922 all0))
        have z951 : n0 ≤ T948.heap.size := (Nat.le_trans (Nat.le_trans Z0 E922.1) K948q.1)
        obtain ⟨_, T952, L952, X952, hQ952, st952⟩ := own_cS X948 hx hZ hml hown (ow hw 106 rfl) (ow hw 107 rfl) (ow hw 36 rfl) (ow hw 108 rfl) rfl (rm24_4 l Z a0 hw [] a1 kc c0 c1 c2 c3 T948.heap n0 z951 f949 f950 R2 R3 R4) (W := 0) (g := (mkF m 23 #[rv a1, iv 0, iv 4, rv b922, iv 2, .unset] [(.int 4), (.int 0), (.ref a1)])) (argsL := [(.ref a1), (.int 0), (.int 4)]) (rest := []) (lenOf pd_12 rfl) (hb hby d9_23)
        obtain ⟨b952_0, kk952_0, rfl, N952q, K952q, ga952_0, gz952_0, q952_0⟩ := hQ952
        have N952 := Fr.app N948 N952q
        have ne953 : a1 ≠ b952_0 := Nat.ne_of_lt (Nat.lt_of_lt_of_le f949.lt gz952_0)
        have g_b952_0 : n0 ≤ b952_0 := ga952_0
        have sz_b952_0 : h0.size ≤ b952_0 := Nat.le_trans K948.1 gz952_0
        have K952 : Keep h0 T952.heap [] := K948.trans K952q all0
        have z954 : n0 ≤ T952.heap.size := (Nat.le_trans z951 (own_ke K952q).1)
        obtain ⟨cl955, Ar955, -, Sz955, Nz955, Hs955, -⟩ := id q952_0
        obtain ⟨T956, L956, X956, e956, N956, st956⟩ := own_pS X952 hx hZ hml hown N952 (ow hw 122 rfl) (ow hw 123 rfl) (ow hw 36 rfl) (ow hw 124 rfl) rfl (rm28 l Z a0 hw [] b952_0 (2 : Int32) cl955 (8 : Int32) (own_lo c2) (own_hi c2) T952.heap n0 z954 Ar955 Sz955 Nz955 (inb_of Sz955 ⟨by decide, by decide⟩) (Has.at Hs955 (inb_of Sz955 ⟨by decide, by decide⟩) rfl) (inb_of Sz955 ⟨by decide, by decide⟩) (Has.at Hs955 (inb_of Sz955 ⟨by decide, by decide⟩) rfl) (R2.ext (f950.ext (own_ke K952q)).2) (R3.ext (f950.ext (own_ke K952q)).2) (R4.ext (f950.ext (own_ke K952q)).2)) (W := 0) (g := (mkF m 32 #[rv a1, iv 0, iv 4, rv b922, iv 2, rv b952_0] [(.int 2), (.ref b952_0)])) (argsL := [(.ref b952_0), (.int 2)]) (rest := []) (lenOf pd_4 rfl) (hb hby d9_32)
        have pre957 := own_go pre924 (T956.setTop (mkF m 56 #[rv a1, iv 0, iv 4, rv b922, iv 2, rv b952_0] [(.ref b952_0)])) fun t kt => by
          refine st948 _ ?_
          refine XS.istore X948.here hx rfl (hb hby d9_12) rfl (l' := #[rv a1, iv 0, iv 4, rv b922, iv 2, .unset]) rfl ?_
          refine XS.iload X948.here hx rfl (hb hby d9_14) rfl ?_
          refine XS.iloadN X948.here hx rfl (hb hby d9_16) rfl ?_
          refine XS.icmpNo X948.here hx rfl (hb hby d9_17) rfl (feq (by decide : ¬ ((2 : Int32) = (4 : Int32)))).1 ?_
          refine XS.aloadN X948.here hx rfl (hb hby d9_20) rfl rfl ?_
          refine XS.iloadN X948.here hx rfl (hb hby d9_21) rfl ?_
          refine XS.iloadN X948.here hx rfl (hb hby d9_22) rfl ?_
          refine st952 _ ?_
          refine XS.astore X952.here hx rfl (hb hby d9_26) rfl rfl (l' := #[rv a1, iv 0, iv 4, rv b922, iv 2, rv b952_0]) rfl ?_
          refine XS.aload X952.here hx rfl (hb hby d9_28) rfl rfl ?_
          refine XS.iload X952.here hx rfl (hb hby d9_30) rfl ?_
          refine st956 _ ?_
          refine XS.sipush X956.here hx rfl (hb hby d9_35) ?_
          refine XS.icmpYes X956.here hx rfl (pc0 := 38) (pc' := 54) rfl (hb hby d9_38) rfl (tlt ((by rw [own_rtU hr2]; exact hk947) : (255 : Int32) < (own_gc (own_lo c2) (own_hi c2)))).2.2.1 (by decide) (by decide) ?_
          refine XS.aload X956.here hx rfl (hb hby d9_54) rfl rfl ?_
          exact kt
        refine own_lv X956 Bd.notSynchronized (v := some (.ref b952_0)) (own_nv Bd.returns) pre957 (fun fs hr => retOut X956 hx Bd.returns (own_nref _ rfl) (Or.inr (Or.inr (Or.inr (Or.inr ⟨rfl, rfl, rfl⟩)))) (hb hby d9_56) hr) ?_
        show Q9_4U Z a1 kc c0 c1 c2 c3 h0 n0 _ T956.heap _
        rw [e956]
        exact ⟨b952_0, kk952_0, rfl, N956, K952, g_b952_0, sz_b952_0, q952_0⟩
      · by_cases hk958 : (255 : Int32) < c3
        · obtain ⟨_, T959, L959, X959, hQ959, st959⟩ := own_cS X922 hx hZ hml hown (ow hw 39 rfl) (ow hw 40 rfl) (ow hw 36 rfl) (ow hw 41 rfl) e922 (rm10_4U3 l Z a0 hw [] a1 b922 kc k922 c0 c1 c2 c3 h922 n0 (Nat.le_trans Z0 E922.1) (P0.ext E922) V922 ne923 g_b922 hk925 hk936 hk947 hk958) (W := 0) (g := (mkF m 9 #[rv a1, iv 0, iv 4, rv b922, .unset, .unset] [(.int 4), (.int 0), (.ref b922), (.int 0), (.ref a1)])) (argsL := [(.ref a1), (.int 0), (.ref b922), (.int 0), (.int 4)]) (rest := []) (lenOf pd_11 rfl) (hb hby d9_9)
          obtain ⟨rfl, N959q, K959q⟩ := hQ959
          have N959 := Fr.app N0 N959q
          have K959 : Keep h0 T959.heap [] := K922.trans K959q (allS (Or.inr sz_b922) all0)
          have f960 := ((P0.ext E922).keep K959q (ninS ne923 nin0))
          have f961 := ((P1.ext E922).keep K959q (allS g_b922 all0))
          have z962 : n0 ≤ T959.heap.size := (Nat.le_trans (Nat.le_trans Z0 E922.1) K959q.1)
          obtain ⟨_, T963, L963, X963, hQ963, st963⟩ := own_cS X959 hx hZ hml hown (ow hw 106 rfl) (ow hw 107 rfl) (ow hw 36 rfl) (ow hw 108 rfl) rfl (rm24_4 l Z a0 hw [] a1 kc c0 c1 c2 c3 T959.heap n0 z962 f960 f961 R2 R3 R4) (W := 0) (g := (mkF m 23 #[rv a1, iv 0, iv 4, rv b922, iv 3, .unset] [(.int 4), (.int 0), (.ref a1)])) (argsL := [(.ref a1), (.int 0), (.int 4)]) (rest := []) (lenOf pd_12 rfl) (hb hby d9_23)
          obtain ⟨b963_0, kk963_0, rfl, N963q, K963q, ga963_0, gz963_0, q963_0⟩ := hQ963
          have N963 := Fr.app N959 N963q
          have ne964 : a1 ≠ b963_0 := Nat.ne_of_lt (Nat.lt_of_lt_of_le f960.lt gz963_0)
          have g_b963_0 : n0 ≤ b963_0 := ga963_0
          have sz_b963_0 : h0.size ≤ b963_0 := Nat.le_trans K959.1 gz963_0
          have K963 : Keep h0 T963.heap [] := K959.trans K963q all0
          have z965 : n0 ≤ T963.heap.size := (Nat.le_trans z962 (own_ke K963q).1)
          obtain ⟨cl966, Ar966, -, Sz966, Nz966, Hs966, -⟩ := id q963_0
          obtain ⟨T967, L967, X967, e967, N967, st967⟩ := own_pS X963 hx hZ hml hown N963 (ow hw 122 rfl) (ow hw 123 rfl) (ow hw 36 rfl) (ow hw 124 rfl) rfl (rm28 l Z a0 hw [] b963_0 (3 : Int32) cl966 (8 : Int32) (own_lo c3) (own_hi c3) T963.heap n0 z965 Ar966 Sz966 Nz966 (inb_of Sz966 ⟨by decide, by decide⟩) (Has.at Hs966 (inb_of Sz966 ⟨by decide, by decide⟩) rfl) (inb_of Sz966 ⟨by decide, by decide⟩) (Has.at Hs966 (inb_of Sz966 ⟨by decide, by decide⟩) rfl) (R2.ext (f961.ext (own_ke K963q)).2) (R3.ext (f961.ext (own_ke K963q)).2) (R4.ext (f961.ext (own_ke K963q)).2)) (W := 0) (g := (mkF m 32 #[rv a1, iv 0, iv 4, rv b922, iv 3, rv b963_0] [(.int 3), (.ref b963_0)])) (argsL := [(.ref b963_0), (.int 3)]) (rest := []) (lenOf pd_4 rfl) (hb hby d9_32)
          have pre968 := own_go pre924 (T967.setTop (mkF m 56 #[rv a1, iv 0, iv 4, rv b922, iv 3, rv b963_0] [(.ref b963_0)])) fun t kt => by
            refine st959 _ ?_
            refine XS.istore X959.here hx rfl (hb hby d9_12) rfl (l' := #[rv a1, iv 0, iv 4, rv b922, iv 3, .unset]) rfl ?_
            refine XS.iload X959.here hx rfl (hb hby d9_14) rfl ?_
            refine XS.iloadN X959.here hx rfl (hb hby d9_16) rfl ?_
            refine XS.icmpNo X959.here hx rfl (hb hby d9_17) rfl (feq (by decide : ¬ ((3 : Int32) = (4 : Int32)))).1 ?_
            refine XS.aloadN X959.here hx rfl (hb hby d9_20) rfl rfl ?_
            refine XS.iloadN X959.here hx rfl (hb hby d9_21) rfl ?_
            refine XS.iloadN X959.here hx rfl (hb hby d9_22) rfl ?_
            refine st963 _ ?_
            refine XS.astore X963.here hx rfl (hb hby d9_26) rfl rfl (l' := #[rv a1, iv 0, iv 4, rv b922, iv 3, rv b963_0]) rfl ?_
            refine XS.aload X963.here hx rfl (hb hby d9_28) rfl rfl ?_
            refine XS.iload X963.here hx rfl (hb hby d9_30) rfl ?_
            refine st967 _ ?_
            refine XS.sipush X967.here hx rfl (hb hby d9_35) ?_
            refine XS.icmpYes X967.here hx rfl (pc0 := 38) (pc' := 54) rfl (hb hby d9_38) rfl (tlt ((by rw [own_rtU hr3]; exact hk958) : (255 : Int32) < (own_gc (own_lo c3) (own_hi c3)))).2.2.1 (by decide) (by decide) ?_
            refine XS.aload X967.here hx rfl (hb hby d9_54) rfl rfl ?_
            exact kt
          refine own_lv X967 Bd.notSynchronized (v := some (.ref b963_0)) (own_nv Bd.returns) pre968 (fun fs hr => retOut X967 hx Bd.returns (own_nref _ rfl) (Or.inr (Or.inr (Or.inr (Or.inr ⟨rfl, rfl, rfl⟩)))) (hb hby d9_56) hr) ?_
          show Q9_4U Z a1 kc c0 c1 c2 c3 h0 n0 _ T967.heap _
          rw [e967]
          exact ⟨b963_0, kk963_0, rfl, N967, K963, g_b963_0, sz_b963_0, q963_0⟩
        · exact absurd hU (by simp [hk925, hk936, hk947, hk958])
theorem ef_11_4U (m : MethodId) (x0 : Addr) : entryFrame m #[(.ref x0), (.int 4)] 2 = mkF m 0 #[.val (.ref x0), .val (.int 4)] [] := by first | (simp [entryFrame, mkF, argsToLocals, Value.category]; done) | rfl
def Q11_4U (Z : State) (a1 : Addr) (kb : ClassId) (y0 : Int32) (y1 : Int32) (y2 : Int32) (y3 : Int32) (y4 : Int32) (y5 : Int32) (y6 : Int32) (y7 : Int32) (h0 : Heap) (n0 : Nat) (v : Option Value) (h : Heap) (L : List Loc) : Prop := v = some (.int 1) ∧ Fr n0 L ∧ h = h0
theorem rm11_4U (l : Launch) (Z : State) (a0 : Array Value) (hw : own_H a0 Z) (ws : List Jvm.Cond) (a1 : Addr) (kb : ClassId) (y0 : Int32) (y1 : Int32) (y2 : Int32) (y3 : Int32) (y4 : Int32) (y5 : Int32) (y6 : Int32) (y7 : Int32) (h0 : Heap) (n0 : Nat) (Z0 : n0 ≤ h0.size) (P0 : Arv Z h0 a1 kb .byte (8 : Int32) [(.int y0), (.int y1), (.int y2), (.int y3), (.int y4), (.int y5), (.int y6), (.int y7)] (.int (0 : Int32))) :
    own_M l Z (⟨"java/lang/StringUTF16", "coderFromArrayLen", "([BI)B"⟩ : MethodName) jdk_52_method_15_code 2 (some .byte) ws ({ frames := 0, cells := 0, slots := 0, locals := 0 } : Room) #[(.ref a1), (.int 4)] h0 (Q11_4U Z a1 kb y0 y1 y2 y3 y4 y5 y6 y7 h0 n0) := by
  refine own_bd (n0 := n0) (plainFor_of_name pn_11) fun p e s m below meth c s₁ Bd hZ hx hby hml hown X0 e0 N0 => ?_
  have pre0 := own_p0 (tb := p.tables) (e := e) (below := below) (s := s₁) (ef_11_4U m a1)
  obtain ⟨cl969, Ar969, -, Sz969, Nz969, -, -⟩ := id P0
  have pre970 := own_go pre0 (s₁.setTop (mkF m 8 #[rv a1, iv 4] [(.int 1)])) fun t kt => by
    refine XS.iloadN X0.here hx rfl (hb hby d11_0) rfl ?_
    refine XS.aloadN X0.here hx rfl (hb hby d11_1) rfl rfl ?_
    refine X0.arraylength hx (by rw [e0]; exact Ar969.1) (State.isArrayOf_alike hZ.alike Ar969.2.1) (g := (mkF m 2 #[rv a1, iv 4] [(.ref a1), (.int 4)])) rfl rfl (hb hby d11_2) _ ?_
    rw [len_of Sz969 Nz969]
    refine XS.isub X0.here hx rfl (hb hby d11_3) rfl ?_
    refine XS.bipush X0.here hx rfl (hb hby d11_4) ?_
    refine XS.iushr X0.here hx rfl (hb hby d11_6) rfl ?_
    refine XS.i2b X0.here hx rfl (hb hby d11_7) rfl ?_
    exact kt
  refine own_lv X0 Bd.notSynchronized (v := some (.int 1)) (own_nv Bd.returns) pre970 (fun fs hr => retN X0 hx (t := .byte) Bd.returns (by simp) (hb hby d11_8) hr) ?_
  show Q11_4U Z a1 kb y0 y1 y2 y3 y4 y5 y6 y7 h0 n0 _ s₁.heap _
  rw [e0]
  exact ⟨rfl, N0, rfl⟩
theorem ef_7_4U (m : MethodId) (x0 : Addr) (x1 : Addr) : entryFrame m #[(.ref x0), (.ref x1), (.int 0), (.int 4), .null] 6 = mkF m 0 #[.val (.ref x0), .val (.ref x1), .val (.int 0), .val (.int 4), .val .null, .unset] [] := by first | (simp [entryFrame, mkF, argsToLocals, Value.category]; done) | rfl
def Q7_4U (Z : State) (a1 : Addr) (a2 : Addr) (kc : ClassId) (c0 : Int32) (c1 : Int32) (c2 : Int32) (c3 : Int32) (cs : Int32) (h0 : Heap) (n0 : Nat) (v : Option Value) (h : Heap) (L : List Loc) : Prop := ∃ (x1 : Addr) (kx1 : ClassId), v = none ∧ Fr n0 L ∧ Keep h0 h [a1] ∧ n0 ≤ x1 ∧ h0.size ≤ x1 ∧ Exa Z h a1 "java/lang/String" ∧ Fld Z h a1 "java/lang/String" "value" "[B" (.ref x1) ∧ Fld Z h a1 "java/lang/String" "coder" "B" (.int 1) ∧ Arv Z h x1 kx1 .byte (8 : Int32) [(.int (own_lo c0)), (.int (own_hi c0)), (.int (own_lo c1)), (.int (own_hi c1)), (.int (own_lo c2)), (.int (own_hi c2)), (.int (own_lo c3)), (.int (own_hi c3))] (.int (0 : Int32))
theorem rm7_4U (l : Launch) (Z : State) (a0 : Array Value) (hw : own_H a0 Z) (ws : List Jvm.Cond) (a1 : Addr) (a2 : Addr) (kc : ClassId) (c0 : Int32) (c1 : Int32) (c2 : Int32) (c3 : Int32) (cs : Int32) (h0 : Heap) (n0 : Nat) (Z0 : n0 ≤ h0.size) (P0 : Exa Z h0 a1 "java/lang/String") (P1 : Fld Z h0 a1 "java/lang/String" "value" "[B" .null) (P2 : Fld Z h0 a1 "java/lang/String" "coder" "B" (.int 0)) (P3 : Arv Z h0 a2 kc .char (4 : Int32) [(.int c0), (.int c1), (.int c2), (.int c3)] (.int (0 : Int32))) (P4 : Old Z n0 h0) (R5 : own_SC Z Z.heap cs) (R6 : Sta Z Z.heap "java/lang/StringUTF16" "$assertionsDisabled" "Z" (.int 1)) (R7 : Sta Z Z.heap "java/lang/StringUTF16" "HI_BYTE_SHIFT" "I" (.int 0)) (R8 : Sta Z Z.heap "java/lang/StringUTF16" "LO_BYTE_SHIFT" "I" (.int 8)) (ne_a2_a1 : a2 ≠ a1) (g_a1 : n0 ≤ a1) (hcs : ¬ cs = (0 : Int32)) (hU : (255 : Int32) < c0 ∨ (255 : Int32) < c1 ∨ (255 : Int32) < c2 ∨ (255 : Int32) < c3) (hr0 : ¬ c0 < (0 : Int32) ∧ ¬ (65535 : Int32) < c0) (hr1 : ¬ c1 < (0 : Int32) ∧ ¬ (65535 : Int32) < c1) (hr2 : ¬ c2 < (0 : Int32) ∧ ¬ (65535 : Int32) < c2) (hr3 : ¬ c3 < (0 : Int32) ∧ ¬ (65535 : Int32) < c3) :
    own_M l Z (⟨"java/lang/String", "<init>", "([CIILjava/lang/Void;)V"⟩ : MethodName) jdk_42_method_149_code 6 none ws ({ frames := 4, cells := 2, slots := 12, locals := 57 } : Room) #[(.ref a1), (.ref a2), (.int 0), (.int 4), .null] h0 (Q7_4U Z a1 a2 kc c0 c1 c2 c3 cs h0 n0) := by
  refine own_bd (n0 := n0) (plainFor_of_name pn_7) fun p e s m below meth c s₁ Bd hZ hx hby hml hown X0 e0 N0 => ?_
  have hnm := (name_of_methodNamed Bd.named Bd.method).1
  have pre0 := own_p0 (tb := p.tables) (e := e) (below := below) (s := s₁) (ef_7_4U m a1 a2)
  obtain ⟨T971, X971, e971, st971⟩ := initO X0 hx hZ hown (ow hw 30 rfl) (ow hw 31 rfl) (ow hw 32 rfl) e0 (g := (mkF m 1 #[rv a1, rv a2, iv 0, iv 4, .val .null, .unset] [(.ref a1)])) rfl (by rw [hml]; rfl) rfl (hb hby d7_1) (by decide) (W := 0) (by show 2 * 0 + _ ≤ _; exact Nat.le_of_eq rfl) (by decide)
  obtain ⟨T972, X972, e972, st972⟩ := getS2 X971 hx hZ hown (host := "") (Or.inl (ow hw 33 rfl)) Via.refl e971 (R5.ext P4.2) (g := (mkF m 27 #[rv a1, rv a2, iv 0, iv 4, .val .null, .unset] [])) rfl (hb hby d7_27)
  obtain ⟨_, T973, L973, X973, hQ973, st973⟩ := own_cS X972 hx hZ hml hown (ow hw 34 rfl) (ow hw 35 rfl) (ow hw 36 rfl) (ow hw 37 rfl) e972 (rm9_4U l Z a0 hw [] a2 kc c0 c1 c2 c3 h0 n0 Z0 P3 P4 R6 R7 R8 hU hr0 hr1 hr2 hr3) (W := 0) (g := (mkF m 36 #[rv a1, rv a2, iv 0, iv 4, .val .null, .unset] [(.int 4), (.int 0), (.ref a2)])) (argsL := [(.ref a2), (.int 0), (.int 4)]) (rest := []) (lenOf pd_12 rfl) (hb hby d7_36)
  obtain ⟨b973_0, kk973_0, rfl, N973q, K973q, ga973_0, gz973_0, q973_0⟩ := hQ973
  have N973 := Fr.app N0 N973q
  have ne974 : a1 ≠ b973_0 := Nat.ne_of_lt (Nat.lt_of_lt_of_le P0.lt gz973_0)
  have ne975 : a2 ≠ b973_0 := Nat.ne_of_lt (Nat.lt_of_lt_of_le P3.lt gz973_0)
  have g_b973_0 : n0 ≤ b973_0 := ga973_0
  have sz_b973_0 : h0.size ≤ b973_0 := Nat.le_trans (Keep.refl h0 [a1]).1 gz973_0
  have K973 : Keep h0 T973.heap [a1] := (Keep.refl h0 [a1]).trans K973q all0
  have z976 : n0 ≤ T973.heap.size := (Nat.le_trans Z0 (own_ke K973q).1)
  obtain ⟨T977, L977, X977, e977, N977, st977⟩ := own_pS X973 hx hZ hml hown N973 (ow hw 42 rfl) (ow hw 43 rfl) (ow hw 36 rfl) (ow hw 44 rfl) rfl (rm11_4U l Z a0 hw [] b973_0 kk973_0 (own_lo c0) (own_hi c0) (own_lo c1) (own_hi c1) (own_lo c2) (own_hi c2) (own_lo c3) (own_hi c3) T973.heap n0 z976 q973_0) (W := 1) (g := (mkF m 45 #[rv a1, rv a2, iv 0, iv 4, .val .null, rv b973_0] [(.int 4), (.ref b973_0), (.ref a1)])) (argsL := [(.ref b973_0), (.int 4)]) (rest := [(.ref a1)]) (lenOf pd_13 rfl) (hb hby d7_45)
  obtain ⟨T978, h978, X978, e978, W978, st978⟩ := putFN X977 hx hZ hown (ow hw 45 rfl) Via.refl e977 (P2.ext (own_ke K973q)) (P0.ext (own_ke K973q)) (Or.inr ⟨(ow hw 46 rfl), rfl, hnm⟩) (ow hw 21 rfl) (ty := .byte) (v' := (.int (nar .byte (1 : Int32)))) (by decide) rfl (fits_nar_byte _) (g := (mkF m 48 #[rv a1, rv a2, iv 0, iv 4, .val .null, rv b973_0] [(.int 1), (.ref a1)])) rfl rfl (hb hby d7_48)
  have W978' : Wr T973.heap h978 a1 _ (.int 1) := W978
  have N978 := Fr.snoc X978 N977 g_a1
  have K978 : Keep h0 h978 [a1] := K973.wr W978' (Or.inl (by simp))
  have f979 := ((P0.ext (own_ke K973q)).wr W978')
  have f980 := ((P1.ext (own_ke K973q)).other W978' (Or.inr (slot_ne (Or.inr (ow hw 48 rfl)) (Or.inr (ow hw 46 rfl)) (by decide) (t := (.array .byte)) (t' := .byte) (by decide) (by decide))))
  have f981 := ((P3.ext (own_ke K973q)).other W978' ne_a2_a1)
  have f982 := ((P4.ext (own_ke K973q)).wr W978' g_a1)
  have f983 := (q973_0.other W978' (Ne.symm ne974))
  have f984 := ((P2.ext (own_ke K973q)).same W978')
  have z985 : n0 ≤ h978.size := (Nat.le_trans z976 (Keep.of_wr W978').1)
  obtain ⟨T986, h986, X986, e986, W986, st986⟩ := putF X978 hx hZ hown (host := "") (Or.inl (ow hw 47 rfl)) Via.refl e978 f980 f979 (Or.inr ⟨(ow hw 48 rfl), rfl, hnm⟩) (ow hw 21 rfl) (ty := (.array .byte)) (by decide) rfl rfl (g := (mkF m 54 #[rv a1, rv a2, iv 0, iv 4, .val .null, rv b973_0] [(.ref b973_0), (.ref a1)])) rfl rfl (hb hby d7_54)
  have N986 := Fr.snoc X986 N978 g_a1
  have K986 : Keep h0 h986 [a1] := K978.wr W986 (Or.inl (by simp))
  have f987 := (f983.other W986 (Ne.symm ne974))
  have f988 := (f984.other W986 (Or.inr (slot_ne (Or.inr (ow hw 46 rfl)) (Or.inr (ow hw 48 rfl)) (by decide) (t := .byte) (t' := (.array .byte)) (by decide) (by decide))))
  have z989 : n0 ≤ h986.size := (Nat.le_trans z985 (Keep.of_wr W986).1)
  have pre990 := own_go pre0 (T986.setTop (mkF m 57 #[rv a1, rv a2, iv 0, iv 4, .val .null, rv b973_0] [])) fun t kt => by
    refine XS.aloadN X0.here hx rfl (hb hby d7_0) rfl rfl ?_
    refine st971 _ ?_
    refine XS.iloadN X971.here hx rfl (hb hby d7_4) rfl ?_
    refine XS.ifYes X971.here hx rfl (pc0 := 5) (pc' := 27) rfl (hb hby d7_5) rfl ((if0 _ _).trans (feq (by decide : ¬ ((4 : Int32) = (0 : Int32)))).2) (by decide) (by decide) ?_
    refine st972 _ ?_
    refine XS.ifNo X972.here hx rfl (hb hby d7_30) rfl ((if0 _ _).trans (feq (hcs : ¬ (cs = (0 : Int32)))).1) ?_
    refine XS.aloadN X972.here hx rfl (hb hby d7_33) rfl rfl ?_
    refine XS.iloadN X972.here hx rfl (hb hby d7_34) rfl ?_
    refine XS.iloadN X972.here hx rfl (hb hby d7_35) rfl ?_
    refine st973 _ ?_
    refine XS.astore X973.here hx rfl (hb hby d7_39) rfl rfl (l' := #[rv a1, rv a2, iv 0, iv 4, .val .null, rv b973_0]) rfl ?_
    refine XS.aloadN X973.here hx rfl (hb hby d7_41) rfl rfl ?_
    refine XS.aload X973.here hx rfl (hb hby d7_42) rfl rfl ?_
    refine XS.iloadN X973.here hx rfl (hb hby d7_44) rfl ?_
    refine st977 _ ?_
    refine st978 _ ?_
    refine XS.aloadN X978.here hx rfl (hb hby d7_51) rfl rfl ?_
    refine XS.aload X978.here hx rfl (hb hby d7_52) rfl rfl ?_
    refine st986 _ ?_
    exact kt
  refine own_lv X986 Bd.notSynchronized (v := none) (fun _ => rfl) pre990 (fun fs hr => X986.returnOut hx Bd.returns (hb hby d7_57) hr) ?_
  show Q7_4U Z a1 a2 kc c0 c1 c2 c3 cs h0 n0 _ T986.heap _
  rw [e986]
  exact ⟨b973_0, kk973_0, rfl, N986, K986, g_b973_0, sz_b973_0, (f979.wr W986), (f980.same W986), f988, f987⟩
def Q6_4U (Z : State) (a1 : Addr) (a2 : Addr) (kc : ClassId) (c0 : Int32) (c1 : Int32) (c2 : Int32) (c3 : Int32) (cs : Int32) (h0 : Heap) (n0 : Nat) (v : Option Value) (h : Heap) (L : List Loc) : Prop := ∃ (x1 : Addr) (kx1 : ClassId), v = none ∧ Fr n0 L ∧ Keep h0 h [a1] ∧ n0 ≤ x1 ∧ h0.size ≤ x1 ∧ Exa Z h a1 "java/lang/String" ∧ Fld Z h a1 "java/lang/String" "value" "[B" (.ref x1) ∧ Fld Z h a1 "java/lang/String" "coder" "B" (.int 1) ∧ Arv Z h x1 kx1 .byte (8 : Int32) [(.int (own_lo c0)), (.int (own_hi c0)), (.int (own_lo c1)), (.int (own_hi c1)), (.int (own_lo c2)), (.int (own_hi c2)), (.int (own_lo c3)), (.int (own_hi c3))] (.int (0 : Int32))
theorem rm6_4U (l : Launch) (Z : State) (a0 : Array Value) (hw : own_H a0 Z) (ws : List Jvm.Cond) (a1 : Addr) (a2 : Addr) (kc : ClassId) (c0 : Int32) (c1 : Int32) (c2 : Int32) (c3 : Int32) (cs : Int32) (h0 : Heap) (n0 : Nat) (Z0 : n0 ≤ h0.size) (P0 : Exa Z h0 a1 "java/lang/String") (P1 : Fld Z h0 a1 "java/lang/String" "value" "[B" .null) (P2 : Fld Z h0 a1 "java/lang/String" "coder" "B" (.int 0)) (P3 : Arv Z h0 a2 kc .char (4 : Int32) [(.int c0), (.int c1), (.int c2), (.int c3)] (.int (0 : Int32))) (P4 : Old Z n0 h0) (R5 : own_SC Z Z.heap cs) (R6 : Sta Z Z.heap "java/lang/StringUTF16" "$assertionsDisabled" "Z" (.int 1)) (R7 : Sta Z Z.heap "java/lang/StringUTF16" "HI_BYTE_SHIFT" "I" (.int 0)) (R8 : Sta Z Z.heap "java/lang/StringUTF16" "LO_BYTE_SHIFT" "I" (.int 8)) (ne_a2_a1 : a2 ≠ a1) (g_a1 : n0 ≤ a1) (hcs : ¬ cs = (0 : Int32)) (hU : (255 : Int32) < c0 ∨ (255 : Int32) < c1 ∨ (255 : Int32) < c2 ∨ (255 : Int32) < c3) (hr0 : ¬ c0 < (0 : Int32) ∧ ¬ (65535 : Int32) < c0) (hr1 : ¬ c1 < (0 : Int32) ∧ ¬ (65535 : Int32) < c1) (hr2 : ¬ c2 < (0 : Int32) ∧ ¬ (65535 : Int32) < c2) (hr3 : ¬ c3 < (0 : Int32) ∧ ¬ (65535 : Int32) < c3) :
    own_M l Z (⟨"java/lang/String", "<init>", "([C)V"⟩ : MethodName) jdk_42_method_3_code 2 none ws ({ frames := 5, cells := 2, slots := 12, locals := 74 } : Room) #[(.ref a1), (.ref a2)] h0 (Q6_4U Z a1 a2 kc c0 c1 c2 c3 cs h0 n0) := by
  refine own_bd (n0 := n0) (plainFor_of_name pn_6) fun p e s m below meth c s₁ Bd hZ hx hby hml hown X0 e0 N0 => ?_
  have pre0 := own_p0 (tb := p.tables) (e := e) (below := below) (s := s₁) (ef_6_1U m a1 a2)
  obtain ⟨cl991, Ar991, -, Sz991, Nz991, -, -⟩ := id P3
  obtain ⟨_, T992, L992, X992, hQ992, st992⟩ := own_cI X0 hx hZ hml hown rfl (ow hw 26 rfl) (ow hw 27 rfl) (ow hw 22 rfl) (ow hw 29 rfl) e0 (rm7_4U l Z a0 hw [] a1 a2 kc c0 c1 c2 c3 cs h0 n0 Z0 P0 P1 P2 P3 P4 R5 R6 R7 R8 ne_a2_a1 g_a1 hcs hU hr0 hr1 hr2 hr3) (W := 0) (g := (mkF m 6 #[rv a1, rv a2] [.null, (.int 4), (.int 0), (.ref a2), (.ref a1)])) (argsL := [(.ref a2), (.int 0), (.int 4), .null]) (rest := []) (lenOf pd_14 rfl) (hb hby d6_6)
  obtain ⟨b992_0, kk992_0, rfl, N992q, K992q, ga992_0, gz992_0, q992_0, q992_1, q992_2, q992_3⟩ := hQ992
  have N992 := Fr.app N0 N992q
  have ne993 : a1 ≠ b992_0 := Nat.ne_of_lt (Nat.lt_of_lt_of_le P0.lt gz992_0)
  have ne994 : a2 ≠ b992_0 := Nat.ne_of_lt (Nat.lt_of_lt_of_le P3.lt gz992_0)
  have g_b992_0 : n0 ≤ b992_0 := ga992_0
  have sz_b992_0 : h0.size ≤ b992_0 := Nat.le_trans (Keep.refl h0 [a1]).1 gz992_0
  have K992 : Keep h0 T992.heap [a1] := (Keep.refl h0 [a1]).trans K992q (allS (Or.inl (by simp)) all0)
  have f995 := (P3.keep K992q (ninS ne_a2_a1 nin0))
  have f996 := (P4.keep K992q (allS g_a1 all0))
  have pre997 := own_go pre0 (T992.setTop (mkF m 9 #[rv a1, rv a2] [])) fun t kt => by
    refine XS.aloadN X0.here hx rfl (hb hby d6_0) rfl rfl ?_
    refine XS.aloadN X0.here hx rfl (hb hby d6_1) rfl rfl ?_
    refine XS.iconst X0.here hx rfl (hb hby d6_2) ?_
    refine XS.aloadN X0.here hx rfl (hb hby d6_3) rfl rfl ?_
    refine X0.arraylength hx (by rw [e0]; exact Ar991.1) (State.isArrayOf_alike hZ.alike Ar991.2.1) (g := (mkF m 4 #[rv a1, rv a2] [(.ref a2), (.int 0), (.ref a2), (.ref a1)])) rfl rfl (hb hby d6_4) _ ?_
    rw [len_of Sz991 Nz991]
    refine XS.aconstNull X0.here hx rfl (hb hby d6_5) ?_
    refine st992 _ ?_
    exact kt
  refine own_lv X992 Bd.notSynchronized (v := none) (fun _ => rfl) pre997 (fun fs hr => X992.returnOut hx Bd.returns (hb hby d6_9) hr) ?_
  show Q6_4U Z a1 a2 kc c0 c1 c2 c3 cs h0 n0 _ T992.heap _
  exact ⟨b992_0, kk992_0, rfl, N992, K992, g_b992_0, sz_b992_0, q992_0, q992_1, q992_2, q992_3⟩
def Q11_4L (Z : State) (a1 : Addr) (kb : ClassId) (y0 : Int32) (y1 : Int32) (y2 : Int32) (y3 : Int32) (h0 : Heap) (n0 : Nat) (v : Option Value) (h : Heap) (L : List Loc) : Prop := v = some (.int 0) ∧ Fr n0 L ∧ h = h0
theorem rm11_4L (l : Launch) (Z : State) (a0 : Array Value) (hw : own_H a0 Z) (ws : List Jvm.Cond) (a1 : Addr) (kb : ClassId) (y0 : Int32) (y1 : Int32) (y2 : Int32) (y3 : Int32) (h0 : Heap) (n0 : Nat) (Z0 : n0 ≤ h0.size) (P0 : Arv Z h0 a1 kb .byte (4 : Int32) [(.int y0), (.int y1), (.int y2), (.int y3)] (.int (0 : Int32))) :
    own_M l Z (⟨"java/lang/StringUTF16", "coderFromArrayLen", "([BI)B"⟩ : MethodName) jdk_52_method_15_code 2 (some .byte) ws ({ frames := 0, cells := 0, slots := 0, locals := 0 } : Room) #[(.ref a1), (.int 4)] h0 (Q11_4L Z a1 kb y0 y1 y2 y3 h0 n0) := by
  refine own_bd (n0 := n0) (plainFor_of_name pn_11) fun p e s m below meth c s₁ Bd hZ hx hby hml hown X0 e0 N0 => ?_
  have pre0 := own_p0 (tb := p.tables) (e := e) (below := below) (s := s₁) (ef_11_4U m a1)
  obtain ⟨cl998, Ar998, -, Sz998, Nz998, -, -⟩ := id P0
  have pre999 := own_go pre0 (s₁.setTop (mkF m 8 #[rv a1, iv 4] [(.int 0)])) fun t kt => by
    refine XS.iloadN X0.here hx rfl (hb hby d11_0) rfl ?_
    refine XS.aloadN X0.here hx rfl (hb hby d11_1) rfl rfl ?_
    refine X0.arraylength hx (by rw [e0]; exact Ar998.1) (State.isArrayOf_alike hZ.alike Ar998.2.1) (g := (mkF m 2 #[rv a1, iv 4] [(.ref a1), (.int 4)])) rfl rfl (hb hby d11_2) _ ?_
    rw [len_of Sz998 Nz998]
    refine XS.isub X0.here hx rfl (hb hby d11_3) rfl ?_
    refine XS.bipush X0.here hx rfl (hb hby d11_4) ?_
    refine XS.iushr X0.here hx rfl (hb hby d11_6) rfl ?_
    refine XS.i2b X0.here hx rfl (hb hby d11_7) rfl ?_
    exact kt
  refine own_lv X0 Bd.notSynchronized (v := some (.int 0)) (own_nv Bd.returns) pre999 (fun fs hr => retN X0 hx (t := .byte) Bd.returns (by simp) (hb hby d11_8) hr) ?_
  show Q11_4L Z a1 kb y0 y1 y2 y3 h0 n0 _ s₁.heap _
  rw [e0]
  exact ⟨rfl, N0, rfl⟩
def Q7_4L (Z : State) (a1 : Addr) (a2 : Addr) (kc : ClassId) (c0 : Int32) (c1 : Int32) (c2 : Int32) (c3 : Int32) (cs : Int32) (h0 : Heap) (n0 : Nat) (v : Option Value) (h : Heap) (L : List Loc) : Prop := ∃ (x1 : Addr) (kx1 : ClassId), v = none ∧ Fr n0 L ∧ Keep h0 h [a1] ∧ n0 ≤ x1 ∧ h0.size ≤ x1 ∧ Exa Z h a1 "java/lang/String" ∧ Fld Z h a1 "java/lang/String" "value" "[B" (.ref x1) ∧ Fld Z h a1 "java/lang/String" "coder" "B" (.int 0) ∧ Arv Z h x1 kx1 .byte (4 : Int32) [(.int (own_by c0)), (.int (own_by c1)), (.int (own_by c2)), (.int (own_by c3))] (.int (0 : Int32))
theorem rm7_4L (l : Launch) (Z : State) (a0 : Array Value) (hw : own_H a0 Z) (ws : List Jvm.Cond) (a1 : Addr) (a2 : Addr) (kc : ClassId) (c0 : Int32) (c1 : Int32) (c2 : Int32) (c3 : Int32) (cs : Int32) (h0 : Heap) (n0 : Nat) (Z0 : n0 ≤ h0.size) (P0 : Exa Z h0 a1 "java/lang/String") (P1 : Fld Z h0 a1 "java/lang/String" "value" "[B" .null) (P2 : Fld Z h0 a1 "java/lang/String" "coder" "B" (.int 0)) (P3 : Arv Z h0 a2 kc .char (4 : Int32) [(.int c0), (.int c1), (.int c2), (.int c3)] (.int (0 : Int32))) (P4 : Old Z n0 h0) (R5 : own_SC Z Z.heap cs) (ne_a2_a1 : a2 ≠ a1) (g_a1 : n0 ≤ a1) (hcs : ¬ cs = (0 : Int32)) (u0 : ¬ (255 : Int32) < c0) (u1 : ¬ (255 : Int32) < c1) (u2 : ¬ (255 : Int32) < c2) (u3 : ¬ (255 : Int32) < c3) :
    own_M l Z (⟨"java/lang/String", "<init>", "([CIILjava/lang/Void;)V"⟩ : MethodName) jdk_42_method_149_code 6 none ws ({ frames := 2, cells := 1, slots := 4, locals := 35 } : Room) #[(.ref a1), (.ref a2), (.int 0), (.int 4), .null] h0 (Q7_4L Z a1 a2 kc c0 c1 c2 c3 cs h0 n0) := by
  refine own_bd (n0 := n0) (plainFor_of_name pn_7) fun p e s m below meth c s₁ Bd hZ hx hby hml hown X0 e0 N0 => ?_
  have hnm := (name_of_methodNamed Bd.named Bd.method).1
  have pre0 := own_p0 (tb := p.tables) (e := e) (below := below) (s := s₁) (ef_7_4U m a1 a2)
  obtain ⟨T1000, X1000, e1000, st1000⟩ := initO X0 hx hZ hown (ow hw 30 rfl) (ow hw 31 rfl) (ow hw 32 rfl) e0 (g := (mkF m 1 #[rv a1, rv a2, iv 0, iv 4, .val .null, .unset] [(.ref a1)])) rfl (by rw [hml]; rfl) rfl (hb hby d7_1) (by decide) (W := 0) (by show 2 * 0 + _ ≤ _; exact Nat.le_of_eq rfl) (by decide)
  obtain ⟨T1001, X1001, e1001, st1001⟩ := getS2 X1000 hx hZ hown (host := "") (Or.inl (ow hw 33 rfl)) Via.refl e1000 (R5.ext P4.2) (g := (mkF m 27 #[rv a1, rv a2, iv 0, iv 4, .val .null, .unset] [])) rfl (hb hby d7_27)
  obtain ⟨_, T1002, L1002, X1002, hQ1002, st1002⟩ := own_cS X1001 hx hZ hml hown (ow hw 34 rfl) (ow hw 35 rfl) (ow hw 36 rfl) (ow hw 37 rfl) e1001 (rm9_4L l Z a0 hw [] a2 kc c0 c1 c2 c3 h0 n0 Z0 P3 u0 u1 u2 u3) (W := 0) (g := (mkF m 36 #[rv a1, rv a2, iv 0, iv 4, .val .null, .unset] [(.int 4), (.int 0), (.ref a2)])) (argsL := [(.ref a2), (.int 0), (.int 4)]) (rest := []) (lenOf pd_12 rfl) (hb hby d7_36)
  obtain ⟨b1002_0, kk1002_0, rfl, N1002q, K1002q, ga1002_0, gz1002_0, q1002_0⟩ := hQ1002
  have N1002 := Fr.app N0 N1002q
  have ne1003 : a1 ≠ b1002_0 := Nat.ne_of_lt (Nat.lt_of_lt_of_le P0.lt gz1002_0)
  have ne1004 : a2 ≠ b1002_0 := Nat.ne_of_lt (Nat.lt_of_lt_of_le P3.lt gz1002_0)
  have g_b1002_0 : n0 ≤ b1002_0 := ga1002_0
  have sz_b1002_0 : h0.size ≤ b1002_0 := Nat.le_trans (Keep.refl h0 [a1]).1 gz1002_0
  have K1002 : Keep h0 T1002.heap [a1] := (Keep.refl h0 [a1]).trans K1002q all0
  have z1005 : n0 ≤ T1002.heap.size := (Nat.le_trans Z0 (own_ke K1002q).1)
  obtain ⟨T1006, L1006, X1006, e1006, N1006, st1006⟩ := own_pS X1002 hx hZ hml hown N1002 (ow hw 42 rfl) (ow hw 43 rfl) (ow hw 36 rfl) (ow hw 44 rfl) rfl (rm11_4L l Z a0 hw [] b1002_0 kk1002_0 (own_by c0) (own_by c1) (own_by c2) (own_by c3) T1002.heap n0 z1005 q1002_0) (W := 1) (g := (mkF m 45 #[rv a1, rv a2, iv 0, iv 4, .val .null, rv b1002_0] [(.int 4), (.ref b1002_0), (.ref a1)])) (argsL := [(.ref b1002_0), (.int 4)]) (rest := [(.ref a1)]) (lenOf pd_13 rfl) (hb hby d7_45)
  obtain ⟨T1007, h1007, X1007, e1007, W1007, st1007⟩ := putFN X1006 hx hZ hown (ow hw 45 rfl) Via.refl e1006 (P2.ext (own_ke K1002q)) (P0.ext (own_ke K1002q)) (Or.inr ⟨(ow hw 46 rfl), rfl, hnm⟩) (ow hw 21 rfl) (ty := .byte) (v' := (.int (nar .byte (0 : Int32)))) (by decide) rfl (fits_nar_byte _) (g := (mkF m 48 #[rv a1, rv a2, iv 0, iv 4, .val .null, rv b1002_0] [(.int 0), (.ref a1)])) rfl rfl (hb hby d7_48)
  have W1007' : Wr T1002.heap h1007 a1 _ (.int 0) := W1007
  have N1007 := Fr.snoc X1007 N1006 g_a1
  have K1007 : Keep h0 h1007 [a1] := K1002.wr W1007' (Or.inl (by simp))
  have f1008 := ((P0.ext (own_ke K1002q)).wr W1007')
  have f1009 := ((P1.ext (own_ke K1002q)).other W1007' (Or.inr (slot_ne (Or.inr (ow hw 48 rfl)) (Or.inr (ow hw 46 rfl)) (by decide) (t := (.array .byte)) (t' := .byte) (by decide) (by decide))))
  have f1010 := ((P3.ext (own_ke K1002q)).other W1007' ne_a2_a1)
  have f1011 := ((P4.ext (own_ke K1002q)).wr W1007' g_a1)
  have f1012 := (q1002_0.other W1007' (Ne.symm ne1003))
  have f1013 := ((P2.ext (own_ke K1002q)).same W1007')
  have z1014 : n0 ≤ h1007.size := (Nat.le_trans z1005 (Keep.of_wr W1007').1)
  obtain ⟨T1015, h1015, X1015, e1015, W1015, st1015⟩ := putF X1007 hx hZ hown (host := "") (Or.inl (ow hw 47 rfl)) Via.refl e1007 f1009 f1008 (Or.inr ⟨(ow hw 48 rfl), rfl, hnm⟩) (ow hw 21 rfl) (ty := (.array .byte)) (by decide) rfl rfl (g := (mkF m 54 #[rv a1, rv a2, iv 0, iv 4, .val .null, rv b1002_0] [(.ref b1002_0), (.ref a1)])) rfl rfl (hb hby d7_54)
  have N1015 := Fr.snoc X1015 N1007 g_a1
  have K1015 : Keep h0 h1015 [a1] := K1007.wr W1015 (Or.inl (by simp))
  have f1016 := (f1012.other W1015 (Ne.symm ne1003))
  have f1017 := (f1013.other W1015 (Or.inr (slot_ne (Or.inr (ow hw 46 rfl)) (Or.inr (ow hw 48 rfl)) (by decide) (t := .byte) (t' := (.array .byte)) (by decide) (by decide))))
  have z1018 : n0 ≤ h1015.size := (Nat.le_trans z1014 (Keep.of_wr W1015).1)
  have pre1019 := own_go pre0 (T1015.setTop (mkF m 57 #[rv a1, rv a2, iv 0, iv 4, .val .null, rv b1002_0] [])) fun t kt => by
    refine XS.aloadN X0.here hx rfl (hb hby d7_0) rfl rfl ?_
    refine st1000 _ ?_
    refine XS.iloadN X1000.here hx rfl (hb hby d7_4) rfl ?_
    refine XS.ifYes X1000.here hx rfl (pc0 := 5) (pc' := 27) rfl (hb hby d7_5) rfl ((if0 _ _).trans (feq (by decide : ¬ ((4 : Int32) = (0 : Int32)))).2) (by decide) (by decide) ?_
    refine st1001 _ ?_
    refine XS.ifNo X1001.here hx rfl (hb hby d7_30) rfl ((if0 _ _).trans (feq (hcs : ¬ (cs = (0 : Int32)))).1) ?_
    refine XS.aloadN X1001.here hx rfl (hb hby d7_33) rfl rfl ?_
    refine XS.iloadN X1001.here hx rfl (hb hby d7_34) rfl ?_
    refine XS.iloadN X1001.here hx rfl (hb hby d7_35) rfl ?_
    refine st1002 _ ?_
    refine XS.astore X1002.here hx rfl (hb hby d7_39) rfl rfl (l' := #[rv a1, rv a2, iv 0, iv 4, .val .null, rv b1002_0]) rfl ?_
    refine XS.aloadN X1002.here hx rfl (hb hby d7_41) rfl rfl ?_
    refine XS.aload X1002.here hx rfl (hb hby d7_42) rfl rfl ?_
    refine XS.iloadN X1002.here hx rfl (hb hby d7_44) rfl ?_
    refine st1006 _ ?_
    refine st1007 _ ?_
    refine XS.aloadN X1007.here hx rfl (hb hby d7_51) rfl rfl ?_
    refine XS.aload X1007.here hx rfl (hb hby d7_52) rfl rfl ?_
    refine st1015 _ ?_
    exact kt
  refine own_lv X1015 Bd.notSynchronized (v := none) (fun _ => rfl) pre1019 (fun fs hr => X1015.returnOut hx Bd.returns (hb hby d7_57) hr) ?_
  show Q7_4L Z a1 a2 kc c0 c1 c2 c3 cs h0 n0 _ T1015.heap _
  rw [e1015]
  exact ⟨b1002_0, kk1002_0, rfl, N1015, K1015, g_b1002_0, sz_b1002_0, (f1008.wr W1015), (f1009.same W1015), f1017, f1016⟩
def Q6_4L (Z : State) (a1 : Addr) (a2 : Addr) (kc : ClassId) (c0 : Int32) (c1 : Int32) (c2 : Int32) (c3 : Int32) (cs : Int32) (h0 : Heap) (n0 : Nat) (v : Option Value) (h : Heap) (L : List Loc) : Prop := ∃ (x1 : Addr) (kx1 : ClassId), v = none ∧ Fr n0 L ∧ Keep h0 h [a1] ∧ n0 ≤ x1 ∧ h0.size ≤ x1 ∧ Exa Z h a1 "java/lang/String" ∧ Fld Z h a1 "java/lang/String" "value" "[B" (.ref x1) ∧ Fld Z h a1 "java/lang/String" "coder" "B" (.int 0) ∧ Arv Z h x1 kx1 .byte (4 : Int32) [(.int (own_by c0)), (.int (own_by c1)), (.int (own_by c2)), (.int (own_by c3))] (.int (0 : Int32))
theorem rm6_4L (l : Launch) (Z : State) (a0 : Array Value) (hw : own_H a0 Z) (ws : List Jvm.Cond) (a1 : Addr) (a2 : Addr) (kc : ClassId) (c0 : Int32) (c1 : Int32) (c2 : Int32) (c3 : Int32) (cs : Int32) (h0 : Heap) (n0 : Nat) (Z0 : n0 ≤ h0.size) (P0 : Exa Z h0 a1 "java/lang/String") (P1 : Fld Z h0 a1 "java/lang/String" "value" "[B" .null) (P2 : Fld Z h0 a1 "java/lang/String" "coder" "B" (.int 0)) (P3 : Arv Z h0 a2 kc .char (4 : Int32) [(.int c0), (.int c1), (.int c2), (.int c3)] (.int (0 : Int32))) (P4 : Old Z n0 h0) (R5 : own_SC Z Z.heap cs) (ne_a2_a1 : a2 ≠ a1) (g_a1 : n0 ≤ a1) (hcs : ¬ cs = (0 : Int32)) (u0 : ¬ (255 : Int32) < c0) (u1 : ¬ (255 : Int32) < c1) (u2 : ¬ (255 : Int32) < c2) (u3 : ¬ (255 : Int32) < c3) :
    own_M l Z (⟨"java/lang/String", "<init>", "([C)V"⟩ : MethodName) jdk_42_method_3_code 2 none ws ({ frames := 5, cells := 2, slots := 12, locals := 74 } : Room) #[(.ref a1), (.ref a2)] h0 (Q6_4L Z a1 a2 kc c0 c1 c2 c3 cs h0 n0) := by
  refine own_bd (n0 := n0) (plainFor_of_name pn_6) fun p e s m below meth c s₁ Bd hZ hx hby hml hown X0 e0 N0 => ?_
  have pre0 := own_p0 (tb := p.tables) (e := e) (below := below) (s := s₁) (ef_6_1U m a1 a2)
  obtain ⟨cl1020, Ar1020, -, Sz1020, Nz1020, -, -⟩ := id P3
  obtain ⟨_, T1021, L1021, X1021, hQ1021, st1021⟩ := own_cI X0 hx hZ hml hown rfl (ow hw 26 rfl) (ow hw 27 rfl) (ow hw 22 rfl) (ow hw 29 rfl) e0 (rm7_4L l Z a0 hw [] a1 a2 kc c0 c1 c2 c3 cs h0 n0 Z0 P0 P1 P2 P3 P4 R5 ne_a2_a1 g_a1 hcs u0 u1 u2 u3) (W := 0) (g := (mkF m 6 #[rv a1, rv a2] [.null, (.int 4), (.int 0), (.ref a2), (.ref a1)])) (argsL := [(.ref a2), (.int 0), (.int 4), .null]) (rest := []) (lenOf pd_14 rfl) (hb hby d6_6)
  obtain ⟨b1021_0, kk1021_0, rfl, N1021q, K1021q, ga1021_0, gz1021_0, q1021_0, q1021_1, q1021_2, q1021_3⟩ := hQ1021
  have N1021 := Fr.app N0 N1021q
  have ne1022 : a1 ≠ b1021_0 := Nat.ne_of_lt (Nat.lt_of_lt_of_le P0.lt gz1021_0)
  have ne1023 : a2 ≠ b1021_0 := Nat.ne_of_lt (Nat.lt_of_lt_of_le P3.lt gz1021_0)
  have g_b1021_0 : n0 ≤ b1021_0 := ga1021_0
  have sz_b1021_0 : h0.size ≤ b1021_0 := Nat.le_trans (Keep.refl h0 [a1]).1 gz1021_0
  have K1021 : Keep h0 T1021.heap [a1] := (Keep.refl h0 [a1]).trans K1021q (allS (Or.inl (by simp)) all0)
  have f1024 := (P3.keep K1021q (ninS ne_a2_a1 nin0))
  have f1025 := (P4.keep K1021q (allS g_a1 all0))
  have pre1026 := own_go pre0 (T1021.setTop (mkF m 9 #[rv a1, rv a2] [])) fun t kt => by
    refine XS.aloadN X0.here hx rfl (hb hby d6_0) rfl rfl ?_
    refine XS.aloadN X0.here hx rfl (hb hby d6_1) rfl rfl ?_
    refine XS.iconst X0.here hx rfl (hb hby d6_2) ?_
    refine XS.aloadN X0.here hx rfl (hb hby d6_3) rfl rfl ?_
    refine X0.arraylength hx (by rw [e0]; exact Ar1020.1) (State.isArrayOf_alike hZ.alike Ar1020.2.1) (g := (mkF m 4 #[rv a1, rv a2] [(.ref a2), (.int 0), (.ref a2), (.ref a1)])) rfl rfl (hb hby d6_4) _ ?_
    rw [len_of Sz1020 Nz1020]
    refine XS.aconstNull X0.here hx rfl (hb hby d6_5) ?_
    refine st1021 _ ?_
    exact kt
  refine own_lv X1021 Bd.notSynchronized (v := none) (fun _ => rfl) pre1026 (fun fs hr => X1021.returnOut hx Bd.returns (hb hby d6_9) hr) ?_
  show Q6_4L Z a1 a2 kc c0 c1 c2 c3 cs h0 n0 _ T1021.heap _
  exact ⟨b1021_0, kk1021_0, rfl, N1021, K1021, g_b1021_0, sz_b1021_0, q1021_0, q1021_1, q1021_2, q1021_3⟩
def own_S4 (Z : State) (h : Heap) (a : Addr) (c0 c1 c2 c3 : Int32) : Prop := (∃ (wt : Addr) (kt : ClassId), Exa Z h a "java/lang/String" ∧ Fld Z h a "java/lang/String" "value" "[B" (.ref wt) ∧ Fld Z h a "java/lang/String" "coder" "B" (.int 0) ∧ Arv Z h wt kt .byte 4 [(.int (own_by c0)), (.int (own_by c1)), (.int (own_by c2)), (.int (own_by c3))] (.int 0) ∧ (¬ c0 < (0 : Int32) ∧ ¬ (255 : Int32) < c0) ∧ (¬ c1 < (0 : Int32) ∧ ¬ (255 : Int32) < c1) ∧ (¬ c2 < (0 : Int32) ∧ ¬ (255 : Int32) < c2) ∧ (¬ c3 < (0 : Int32) ∧ ¬ (255 : Int32) < c3)) ∨ (∃ (wt : Addr) (kt : ClassId), Exa Z h a "java/lang/String" ∧ Fld Z h a "java/lang/String" "value" "[B" (.ref wt) ∧ Fld Z h a "java/lang/String" "coder" "B" (.int 1) ∧ Arv Z h wt kt .byte 8 [(.int (own_lo c0)), (.int (own_hi c0)), (.int (own_lo c1)), (.int (own_hi c1)), (.int (own_lo c2)), (.int (own_hi c2)), (.int (own_lo c3)), (.int (own_hi c3))] (.int 0) ∧ (¬ c0 < (0 : Int32) ∧ ¬ (65535 : Int32) < c0) ∧ (¬ c1 < (0 : Int32) ∧ ¬ (65535 : Int32) < c1) ∧ (¬ c2 < (0 : Int32) ∧ ¬ (65535 : Int32) < c2) ∧ (¬ c3 < (0 : Int32) ∧ ¬ (65535 : Int32) < c3))
theorem rmNS_4 (l : Launch) (Z : State) (a0 : Array Value) (hw : own_H a0 Z) (ws : List Jvm.Cond) (a1 : Addr) (a2 : Addr) (kc : ClassId) (c0 : Int32) (c1 : Int32) (c2 : Int32) (c3 : Int32) (cs : Int32) (h0 : Heap) (n0 : Nat) (Z0 : n0 ≤ h0.size) (P0 : Exa Z h0 a1 "java/lang/String") (P1 : Fld Z h0 a1 "java/lang/String" "value" "[B" .null) (P2 : Fld Z h0 a1 "java/lang/String" "coder" "B" (.int 0)) (P3 : Arv Z h0 a2 kc .char (4 : Int32) [(.int c0), (.int c1), (.int c2), (.int c3)] (.int (0 : Int32))) (P4 : Old Z n0 h0) (R5 : own_SC Z Z.heap cs) (R6 : Sta Z Z.heap "java/lang/StringUTF16" "$assertionsDisabled" "Z" (.int 1)) (R7 : Sta Z Z.heap "java/lang/StringUTF16" "HI_BYTE_SHIFT" "I" (.int 0)) (R8 : Sta Z Z.heap "java/lang/StringUTF16" "LO_BYTE_SHIFT" "I" (.int 8)) (ne_a2_a1 : a2 ≠ a1) (g_a1 : n0 ≤ a1) (hcs : ¬ cs = (0 : Int32)) (hr0 : ¬ c0 < (0 : Int32) ∧ ¬ (65535 : Int32) < c0) (hr1 : ¬ c1 < (0 : Int32) ∧ ¬ (65535 : Int32) < c1) (hr2 : ¬ c2 < (0 : Int32) ∧ ¬ (65535 : Int32) < c2) (hr3 : ¬ c3 < (0 : Int32) ∧ ¬ (65535 : Int32) < c3) :
    own_M l Z (⟨"java/lang/String", "<init>", "([C)V"⟩ : MethodName) jdk_42_method_3_code 2 none ws ({ frames := 5, cells := 2, slots := 12, locals := 74 } : Room) #[(.ref a1), (.ref a2)] h0 (fun v h L => v = none ∧ Fr n0 L ∧ Keep h0 h [a1] ∧ own_S4 Z h a1 c0 c1 c2 c3) := by
  by_cases hU : (255 : Int32) < c0 ∨ (255 : Int32) < c1 ∨ (255 : Int32) < c2 ∨ (255 : Int32) < c3
  · refine own_mono (rm6_4U l Z a0 hw ws a1 a2 kc c0 c1 c2 c3 cs h0 n0 Z0 P0 P1 P2 P3 P4 R5 R6 R7 R8 ne_a2_a1 g_a1 hcs hU hr0 hr1 hr2 hr3) ?_
    rintro v h L ⟨x1, kx1, rfl, N, K, -, -, E, FV, FC, A⟩
    exact ⟨rfl, N, K, Or.inr ⟨x1, kx1, E, FV, FC, A, hr0, hr1, hr2, hr3⟩⟩
  · refine own_mono (rm6_4L l Z a0 hw ws a1 a2 kc c0 c1 c2 c3 cs h0 n0 Z0 P0 P1 P2 P3 P4 R5 ne_a2_a1 g_a1 hcs (fun q => hU (Or.inl q)) (fun q => hU (Or.inr (Or.inl q))) (fun q => hU (Or.inr (Or.inr (Or.inl q)))) (fun q => hU (Or.inr (Or.inr (Or.inr q))))) ?_
    rintro v h L ⟨x1, kx1, rfl, N, K, -, -, E, FV, FC, A⟩
    exact ⟨rfl, N, K, Or.inl ⟨x1, kx1, E, FV, FC, A, ⟨hr0.1, (fun q => hU (Or.inl q))⟩, ⟨hr1.1, (fun q => hU (Or.inr (Or.inl q)))⟩, ⟨hr2.1, (fun q => hU (Or.inr (Or.inr (Or.inl q))))⟩, ⟨hr3.1, (fun q => hU (Or.inr (Or.inr (Or.inr q))))⟩⟩⟩
theorem rmCH_40 (l : Launch) (Z : State) (a0 : Array Value) (hw : own_H a0 Z) (ws : List Jvm.Cond) (a1 : Addr) (c0 c1 c2 c3 : Int32) (cs : Int32) (vf : Value) (h0 : Heap) (n0 : Nat) (Z0 : n0 ≤ h0.size) (hS : own_S4 Z h0 a1 c0 c1 c2 c3) (SC : own_SC Z h0 cs) (hcs : ¬ cs = (0 : Int32)) (SF : Sta Z h0 "jdk/internal/util/Preconditions" "SIOOBE_FORMATTER" "Ljava/util/function/BiFunction;" vf) (hvf : vf.isRef = true) (SA : own_SA Z h0) (SH : own_SH Z h0) (SL : own_SL Z h0) :
    own_M l Z (⟨"java/lang/String", "charAt", "(I)C"⟩ : MethodName) jdk_42_method_56_code 2 (some .char) ws ({ frames := 4, cells := 0, slots := 0, locals := 53 } : Room) #[(.ref a1), (.int 0)] h0 (fun v h L => v = some (.int c0) ∧ Fr n0 L ∧ h = h0) := by
  rcases hS with ⟨wt, kt, E1, FV, FC, A, hr0, hr1, hr2, hr3⟩ | ⟨wt, kt, E1, FV, FC, A, hr0, hr1, hr2, hr3⟩
  · obtain ⟨cl, Ar, -, Sz, Nz, Hs, -⟩ := A
    have q := rm16L l Z a0 hw ws a1 (0 : Int32) wt cl (4 : Int32) (own_by c0) cs vf h0 n0 Z0 E1 FC FV Ar Sz Nz (by decide) (by decide) (Has.at Hs (inb_of Sz ⟨by decide, by decide⟩) rfl) SC hcs SF hvf
    unfold Q16L at q
    rw [own_rtL hr0] at q
    exact q
  · obtain ⟨cl, Ar, -, Sz, Nz, Hs, -⟩ := A
    have q := rm16U l Z a0 hw ws a1 (0 : Int32) wt cl (8 : Int32) (own_lo c0) (own_hi c0) vf cs h0 n0 Z0 E1 FC FV Ar Sz Nz (by decide) (by decide) (inb_of Sz ⟨by decide, by decide⟩) (Has.at Hs (inb_of Sz ⟨by decide, by decide⟩) rfl) (inb_of Sz ⟨by decide, by decide⟩) (Has.at Hs (inb_of Sz ⟨by decide, by decide⟩) rfl) SA SH SL SF hvf SC hcs
    unfold Q16U at q
    rw [own_rtU hr0, own_ncz hr0, own_ncz hr0] at q
    exact q
theorem rmCH_41 (l : Launch) (Z : State) (a0 : Array Value) (hw : own_H a0 Z) (ws : List Jvm.Cond) (a1 : Addr) (c0 c1 c2 c3 : Int32) (cs : Int32) (vf : Value) (h0 : Heap) (n0 : Nat) (Z0 : n0 ≤ h0.size) (hS : own_S4 Z h0 a1 c0 c1 c2 c3) (SC : own_SC Z h0 cs) (hcs : ¬ cs = (0 : Int32)) (SF : Sta Z h0 "jdk/internal/util/Preconditions" "SIOOBE_FORMATTER" "Ljava/util/function/BiFunction;" vf) (hvf : vf.isRef = true) (SA : own_SA Z h0) (SH : own_SH Z h0) (SL : own_SL Z h0) :
    own_M l Z (⟨"java/lang/String", "charAt", "(I)C"⟩ : MethodName) jdk_42_method_56_code 2 (some .char) ws ({ frames := 4, cells := 0, slots := 0, locals := 53 } : Room) #[(.ref a1), (.int 1)] h0 (fun v h L => v = some (.int c1) ∧ Fr n0 L ∧ h = h0) := by
  rcases hS with ⟨wt, kt, E1, FV, FC, A, hr0, hr1, hr2, hr3⟩ | ⟨wt, kt, E1, FV, FC, A, hr0, hr1, hr2, hr3⟩
  · obtain ⟨cl, Ar, -, Sz, Nz, Hs, -⟩ := A
    have q := rm16L l Z a0 hw ws a1 (1 : Int32) wt cl (4 : Int32) (own_by c1) cs vf h0 n0 Z0 E1 FC FV Ar Sz Nz (by decide) (by decide) (Has.at Hs (inb_of Sz ⟨by decide, by decide⟩) rfl) SC hcs SF hvf
    unfold Q16L at q
    rw [own_rtL hr1] at q
    exact q
  · obtain ⟨cl, Ar, -, Sz, Nz, Hs, -⟩ := A
    have q := rm16U l Z a0 hw ws a1 (1 : Int32) wt cl (8 : Int32) (own_lo c1) (own_hi c1) vf cs h0 n0 Z0 E1 FC FV Ar Sz Nz (by decide) (by decide) (inb_of Sz ⟨by decide, by decide⟩) (Has.at Hs (inb_of Sz ⟨by decide, by decide⟩) rfl) (inb_of Sz ⟨by decide, by decide⟩) (Has.at Hs (inb_of Sz ⟨by decide, by decide⟩) rfl) SA SH SL SF hvf SC hcs
    unfold Q16U at q
    rw [own_rtU hr1, own_ncz hr1, own_ncz hr1] at q
    exact q
theorem rmCH_42 (l : Launch) (Z : State) (a0 : Array Value) (hw : own_H a0 Z) (ws : List Jvm.Cond) (a1 : Addr) (c0 c1 c2 c3 : Int32) (cs : Int32) (vf : Value) (h0 : Heap) (n0 : Nat) (Z0 : n0 ≤ h0.size) (hS : own_S4 Z h0 a1 c0 c1 c2 c3) (SC : own_SC Z h0 cs) (hcs : ¬ cs = (0 : Int32)) (SF : Sta Z h0 "jdk/internal/util/Preconditions" "SIOOBE_FORMATTER" "Ljava/util/function/BiFunction;" vf) (hvf : vf.isRef = true) (SA : own_SA Z h0) (SH : own_SH Z h0) (SL : own_SL Z h0) :
    own_M l Z (⟨"java/lang/String", "charAt", "(I)C"⟩ : MethodName) jdk_42_method_56_code 2 (some .char) ws ({ frames := 4, cells := 0, slots := 0, locals := 53 } : Room) #[(.ref a1), (.int 2)] h0 (fun v h L => v = some (.int c2) ∧ Fr n0 L ∧ h = h0) := by
  rcases hS with ⟨wt, kt, E1, FV, FC, A, hr0, hr1, hr2, hr3⟩ | ⟨wt, kt, E1, FV, FC, A, hr0, hr1, hr2, hr3⟩
  · obtain ⟨cl, Ar, -, Sz, Nz, Hs, -⟩ := A
    have q := rm16L l Z a0 hw ws a1 (2 : Int32) wt cl (4 : Int32) (own_by c2) cs vf h0 n0 Z0 E1 FC FV Ar Sz Nz (by decide) (by decide) (Has.at Hs (inb_of Sz ⟨by decide, by decide⟩) rfl) SC hcs SF hvf
    unfold Q16L at q
    rw [own_rtL hr2] at q
    exact q
  · obtain ⟨cl, Ar, -, Sz, Nz, Hs, -⟩ := A
    have q := rm16U l Z a0 hw ws a1 (2 : Int32) wt cl (8 : Int32) (own_lo c2) (own_hi c2) vf cs h0 n0 Z0 E1 FC FV Ar Sz Nz (by decide) (by decide) (inb_of Sz ⟨by decide, by decide⟩) (Has.at Hs (inb_of Sz ⟨by decide, by decide⟩) rfl) (inb_of Sz ⟨by decide, by decide⟩) (Has.at Hs (inb_of Sz ⟨by decide, by decide⟩) rfl) SA SH SL SF hvf SC hcs
    unfold Q16U at q
    rw [own_rtU hr2, own_ncz hr2, own_ncz hr2] at q
    exact q
theorem rmCH_43 (l : Launch) (Z : State) (a0 : Array Value) (hw : own_H a0 Z) (ws : List Jvm.Cond) (a1 : Addr) (c0 c1 c2 c3 : Int32) (cs : Int32) (vf : Value) (h0 : Heap) (n0 : Nat) (Z0 : n0 ≤ h0.size) (hS : own_S4 Z h0 a1 c0 c1 c2 c3) (SC : own_SC Z h0 cs) (hcs : ¬ cs = (0 : Int32)) (SF : Sta Z h0 "jdk/internal/util/Preconditions" "SIOOBE_FORMATTER" "Ljava/util/function/BiFunction;" vf) (hvf : vf.isRef = true) (SA : own_SA Z h0) (SH : own_SH Z h0) (SL : own_SL Z h0) :
    own_M l Z (⟨"java/lang/String", "charAt", "(I)C"⟩ : MethodName) jdk_42_method_56_code 2 (some .char) ws ({ frames := 4, cells := 0, slots := 0, locals := 53 } : Room) #[(.ref a1), (.int 3)] h0 (fun v h L => v = some (.int c3) ∧ Fr n0 L ∧ h = h0) := by
  rcases hS with ⟨wt, kt, E1, FV, FC, A, hr0, hr1, hr2, hr3⟩ | ⟨wt, kt, E1, FV, FC, A, hr0, hr1, hr2, hr3⟩
  · obtain ⟨cl, Ar, -, Sz, Nz, Hs, -⟩ := A
    have q := rm16L l Z a0 hw ws a1 (3 : Int32) wt cl (4 : Int32) (own_by c3) cs vf h0 n0 Z0 E1 FC FV Ar Sz Nz (by decide) (by decide) (Has.at Hs (inb_of Sz ⟨by decide, by decide⟩) rfl) SC hcs SF hvf
    unfold Q16L at q
    rw [own_rtL hr3] at q
    exact q
  · obtain ⟨cl, Ar, -, Sz, Nz, Hs, -⟩ := A
    have q := rm16U l Z a0 hw ws a1 (3 : Int32) wt cl (8 : Int32) (own_lo c3) (own_hi c3) vf cs h0 n0 Z0 E1 FC FV Ar Sz Nz (by decide) (by decide) (inb_of Sz ⟨by decide, by decide⟩) (Has.at Hs (inb_of Sz ⟨by decide, by decide⟩) rfl) (inb_of Sz ⟨by decide, by decide⟩) (Has.at Hs (inb_of Sz ⟨by decide, by decide⟩) rfl) SA SH SL SF hvf SC hcs
    unfold Q16U at q
    rw [own_rtU hr3, own_ncz hr3, own_ncz hr3] at q
    exact q
theorem rmLN_4 (l : Launch) (Z : State) (a0 : Array Value) (hw : own_H a0 Z) (ws : List Jvm.Cond) (a1 : Addr) (c0 c1 c2 c3 : Int32) (cs : Int32) (vf : Value) (h0 : Heap) (n0 : Nat) (Z0 : n0 ≤ h0.size) (hS : own_S4 Z h0 a1 c0 c1 c2 c3) (SC : own_SC Z h0 cs) (hcs : ¬ cs = (0 : Int32)) (SF : Sta Z h0 "jdk/internal/util/Preconditions" "SIOOBE_FORMATTER" "Ljava/util/function/BiFunction;" vf) (hvf : vf.isRef = true) (SA : own_SA Z h0) (SH : own_SH Z h0) (SL : own_SL Z h0) :
    own_M l Z (⟨"java/lang/String", "length", "()I"⟩ : MethodName) jdk_42_method_54_code 1 (some .int) ws ({ frames := 1, cells := 0, slots := 0, locals := 13 } : Room) #[(.ref a1)] h0 (fun v h L => v = some (.int 4) ∧ Fr n0 L ∧ h = h0) := by
  rcases hS with ⟨wt, kt, E1, FV, FC, A, hr0, hr1, hr2, hr3⟩ | ⟨wt, kt, E1, FV, FC, A, hr0, hr1, hr2, hr3⟩
  · obtain ⟨cl, Ar, -, Sz, Nz, Hs, -⟩ := A
    exact rm14L l Z a0 hw ws a1 wt cl (4 : Int32) cs h0 n0 Z0 E1 FC FV Ar Sz Nz SC hcs
  · obtain ⟨cl, Ar, -, Sz, Nz, Hs, -⟩ := A
    exact rm14U l Z a0 hw ws a1 wt cl (8 : Int32) cs h0 n0 Z0 E1 FC FV Ar Sz Nz SC hcs
theorem rmEM_4 (l : Launch) (Z : State) (a0 : Array Value) (hw : own_H a0 Z) (ws : List Jvm.Cond) (a1 : Addr) (c0 c1 c2 c3 : Int32) (cs : Int32) (vf : Value) (h0 : Heap) (n0 : Nat) (Z0 : n0 ≤ h0.size) (hS : own_S4 Z h0 a1 c0 c1 c2 c3) (SC : own_SC Z h0 cs) (hcs : ¬ cs = (0 : Int32)) (SF : Sta Z h0 "jdk/internal/util/Preconditions" "SIOOBE_FORMATTER" "Ljava/util/function/BiFunction;" vf) (hvf : vf.isRef = true) (SA : own_SA Z h0) (SH : own_SH Z h0) (SL : own_SL Z h0) :
    own_M l Z (⟨"java/lang/String", "isEmpty", "()Z"⟩ : MethodName) jdk_42_method_55_code 1 (some .boolean) ws ({ frames := 0, cells := 0, slots := 0, locals := 0 } : Room) #[(.ref a1)] h0 (fun v h L => v = some (.int 0) ∧ Fr n0 L ∧ h = h0) := by
  rcases hS with ⟨wt, kt, E1, FV, FC, A, hr0, hr1, hr2, hr3⟩ | ⟨wt, kt, E1, FV, FC, A, hr0, hr1, hr2, hr3⟩
  · obtain ⟨cl, Ar, -, Sz, Nz, Hs, -⟩ := A
    exact rm13 l Z a0 hw ws a1 wt cl (4 : Int32) h0 n0 Z0 FV Ar Sz Nz (by decide)
  · obtain ⟨cl, Ar, -, Sz, Nz, Hs, -⟩ := A
    exact rm13 l Z a0 hw ws a1 wt cl (8 : Int32) h0 n0 Z0 FV Ar Sz Nz (by decide)
theorem own_Exa4 {Z : State} {h : Heap} {a : Addr} {c0 c1 c2 c3 : Int32} (hS : own_S4 Z h a c0 c1 c2 c3) : Exa Z h a "java/lang/String" := by
  rcases hS with ⟨_, _, E, -⟩ | ⟨_, _, E, -⟩ <;> exact E
def Q12_4 (Z : State) (a1 : Addr) (c0 : Int32) (c1 : Int32) (c2 : Int32) (c3 : Int32) (cs : Int32) (vf : Value) (h0 : Heap) (n0 : Nat) (v : Option Value) (h : Heap) (L : List Loc) : Prop := v = none ∧ Fr n0 L ∧ h = h0
theorem rm12_4 (l : Launch) (Z : State) (a0 : Array Value) (hw : own_H a0 Z) (ws : List Jvm.Cond) (a1 : Addr) (c0 : Int32) (c1 : Int32) (c2 : Int32) (c3 : Int32) (cs : Int32) (vf : Value) (h0 : Heap) (n0 : Nat) (Z0 : n0 ≤ h0.size) (hS : own_S4 Z h0 a1 c0 c1 c2 c3) (SC : own_SC Z h0 cs) (hcs : ¬ cs = (0 : Int32)) (SF : Sta Z h0 "jdk/internal/util/Preconditions" "SIOOBE_FORMATTER" "Ljava/util/function/BiFunction;" vf) (hvf : vf.isRef = true) (SA : own_SA Z h0) (SH : own_SH Z h0) (SL : own_SL Z h0) (hk0 : own_F3 c0 = (0 : Int32) ∧ (¬ own_F4 c0 = (0 : Int32) → ¬ own_F5 c1 = (0 : Int32)) ∧ (own_F4 c0 = (0 : Int32) → ¬ own_F5 c0 = (0 : Int32) → False)) (hk1 : own_F3 c1 = (0 : Int32) ∧ (¬ own_F4 c1 = (0 : Int32) → ¬ own_F5 c2 = (0 : Int32)) ∧ (own_F4 c1 = (0 : Int32) → ¬ own_F5 c1 = (0 : Int32) → ¬ own_F4 c0 = (0 : Int32))) (hk2 : own_F3 c2 = (0 : Int32) ∧ (¬ own_F4 c2 = (0 : Int32) → ¬ own_F5 c3 = (0 : Int32)) ∧ (own_F4 c2 = (0 : Int32) → ¬ own_F5 c2 = (0 : Int32) → ¬ own_F4 c1 = (0 : Int32))) (hk3 : own_F3 c3 = (0 : Int32) ∧ (¬ own_F4 c3 = (0 : Int32) → False) ∧ (own_F4 c3 = (0 : Int32) → ¬ own_F5 c3 = (0 : Int32) → ¬ own_F4 c2 = (0 : Int32))) :
    own_M l Z (⟨"com/example/lexiflow/lexiflow/model/Ids", "check", "(Ljava/lang/String;)V"⟩ : MethodName) prog_23_method_2_code 3 none ws ({ frames := 5, cells := 0, slots := 0, locals := 66 } : Room) #[(.ref a1)] h0 (Q12_4 Z a1 c0 c1 c2 c3 cs vf h0 n0) := by
  refine own_bd (n0 := n0) (plainFor_of_name pn_12) fun p e s m below meth c s₁ Bd hZ hx hby hml hown X0 e0 N0 => ?_
  have pre0 := own_p0 (tb := p.tables) (e := e) (below := below) (s := s₁) (ef_12_1 m a1)
  obtain ⟨T1027, L1027, X1027, e1027, N1027, st1027⟩ := own_pV X0 hx hZ hml hown N0 (ow hw 53 rfl) (ow hw 54 rfl) (notFace_of_selects (args := #[]) (mvT hZ (ow hw 56 rfl))) (ow hw 56 rfl) (ow hw 55 rfl) (ow hw 22 rfl) (ow hw 57 rfl) e0 (rmEM_4 l Z a0 hw [] a1 c0 c1 c2 c3 cs vf h0 n0 Z0 hS SC hcs SF hvf SA SH SL) (own_Exa4 hS) (W := 0) (g := (mkF m 1 #[rv a1, .unset, .unset] [(.ref a1)])) (argsL := []) (rest := []) (lenOf pd_3 rfl) (hb hby d12_1)
  obtain ⟨T1028, L1028, X1028, e1028, N1028, st1028⟩ := own_pV X1027 hx hZ hml hown N1027 (ow hw 58 rfl) (ow hw 59 rfl) (notFace_of_selects (args := #[]) (mvT hZ (ow hw 61 rfl))) (ow hw 61 rfl) (ow hw 60 rfl) (ow hw 22 rfl) (ow hw 62 rfl) e1027 (rmLN_4 l Z a0 hw [] a1 c0 c1 c2 c3 cs vf h0 n0 Z0 hS SC hcs SF hvf SA SH SL) (own_Exa4 hS) (W := 1) (g := (mkF m 21 #[rv a1, iv 0, .unset] [(.ref a1), (.int 0)])) (argsL := []) (rest := [(.int 0)]) (lenOf pd_15 rfl) (hb hby d12_21)
  obtain ⟨T1029, L1029, X1029, e1029, N1029, st1029⟩ := own_pV X1028 hx hZ hml hown N1028 (ow hw 68 rfl) (ow hw 69 rfl) (notFace_of_selects (args := #[]) (mvT hZ (ow hw 71 rfl))) (ow hw 71 rfl) (ow hw 70 rfl) (ow hw 22 rfl) (ow hw 72 rfl) e1028 (rmCH_40 l Z a0 hw [] a1 c0 c1 c2 c3 cs vf h0 n0 Z0 hS SC hcs SF hvf SA SH SL) (own_Exa4 hS) (W := 0) (g := (mkF m 29 #[rv a1, iv 0, .unset] [(.int 0), (.ref a1)])) (argsL := [(.int 0)]) (rest := []) (lenOf pd_16 rfl) (hb hby d12_29)
  obtain ⟨T1030, L1030, X1030, e1030, N1030, st1030⟩ := own_pS X1029 hx hZ hml hown N1029 (ow hw 90 rfl) (ow hw 91 rfl) (ow hw 51 rfl) (ow hw 92 rfl) e1029 (rm21 l Z a0 hw [] c0 h0 n0 Z0) (W := 0) (g := (mkF m 57 #[rv a1, iv 0, iv c0] [(.int c0)])) (argsL := [(.int c0)]) (rest := []) (lenOf pd_0 rfl) (hb hby d12_57)
  obtain ⟨T1031, L1031, X1031, e1031, N1031, st1031⟩ := own_pS X1030 hx hZ hml hown N1030 (ow hw 93 rfl) (ow hw 94 rfl) (ow hw 95 rfl) (ow hw 96 rfl) e1030 (rm22 l Z a0 hw [] c0 h0 n0 Z0) (W := 0) (g := (mkF m 81 #[rv a1, iv 0, iv c0] [(.int c0)])) (argsL := [(.int c0)]) (rest := []) (lenOf pd_0 rfl) (hb hby d12_81)
  have pre1032 := own_go pre0 (T1031.setTop (mkF m 84 #[rv a1, iv 0, iv c0] [(.int (own_F22 c0))])) fun t kt => by
    refine XS.aloadN X0.here hx rfl (hb hby d12_0) rfl rfl ?_
    refine st1027 _ ?_
    refine XS.ifYes X1027.here hx rfl (pc0 := 4) (pc' := 17) rfl (hb hby d12_4) rfl ((if0 _ _).trans (teq (by decide : (0 : Int32) = (0 : Int32))).1) (by decide) (by decide) ?_
    refine XS.iconst X1027.here hx rfl (hb hby d12_17) ?_
    refine XS.istoreN X1027.here hx rfl (hb hby d12_18) rfl (l' := #[rv a1, iv 0, .unset]) rfl ?_
    refine XS.iloadN X1027.here hx rfl (hb hby d12_19) rfl ?_
    refine XS.aloadN X1027.here hx rfl (hb hby d12_20) rfl rfl ?_
    refine st1028 _ ?_
    refine XS.icmpNo X1028.here hx rfl (hb hby d12_24) rfl (tlt (by decide : (0 : Int32) < (4 : Int32))).2.1 ?_
    refine XS.aloadN X1028.here hx rfl (hb hby d12_27) rfl rfl ?_
    refine XS.iloadN X1028.here hx rfl (hb hby d12_28) rfl ?_
    refine st1029 _ ?_
    refine XS.istoreN X1029.here hx rfl (hb hby d12_32) rfl (l' := #[rv a1, iv 0, iv c0]) rfl ?_
    refine XS.iloadN X1029.here hx rfl (hb hby d12_33) rfl ?_
    refine XS.bipush X1029.here hx rfl (hb hby d12_34) ?_
    refine XS.icmpYes X1029.here hx rfl (pc0 := 36) (pc' := 56) rfl (hb hby d12_36) rfl (feq ((own_lb _ hk0.1).1 : ¬ (c0 = (9 : Int32)))).2 (by decide) (by decide) ?_
    refine XS.iloadN X1029.here hx rfl (hb hby d12_56) rfl ?_
    refine st1030 _ ?_
    refine XS.ifYes X1030.here hx rfl (pc0 := 60) (pc' := 80) rfl (hb hby d12_60) rfl ((if0 _ _).trans (teq ((own_lb _ hk0.1).2 : (own_F21 c0) = (0 : Int32))).1) (by decide) (by decide) ?_
    refine XS.iloadN X1030.here hx rfl (hb hby d12_80) rfl ?_
    refine st1031 _ ?_
    exact kt
  by_cases hc84_1033 : (own_F22 c0) = (0 : Int32)
  · obtain ⟨T1034, L1034, X1034, e1034, N1034, st1034⟩ := own_pS X1031 hx hZ hml hown N1031 (ow hw 98 rfl) (ow hw 99 rfl) (ow hw 95 rfl) (ow hw 100 rfl) e1031 (rm23 l Z a0 hw [] c0 h0 n0 Z0) (W := 0) (g := (mkF m 117 #[rv a1, iv 0, iv c0] [(.int c0)])) (argsL := [(.int c0)]) (rest := []) (lenOf pd_0 rfl) (hb hby d12_117)
    obtain ⟨T1035, L1035, X1035, e1035, N1035, st1035⟩ := own_pV X1034 hx hZ hml hown N1034 (ow hw 58 rfl) (ow hw 59 rfl) (notFace_of_selects (args := #[]) (mvT hZ (ow hw 61 rfl))) (ow hw 61 rfl) (ow hw 60 rfl) (ow hw 22 rfl) (ow hw 62 rfl) e1034 (rmLN_4 l Z a0 hw [] a1 c0 c1 c2 c3 cs vf h0 n0 Z0 hS SC hcs SF hvf SA SH SL) (own_Exa4 hS) (W := 1) (g := (mkF m 21 #[rv a1, iv 1, iv c0] [(.ref a1), (.int 1)])) (argsL := []) (rest := [(.int 1)]) (lenOf pd_15 rfl) (hb hby d12_21)
    obtain ⟨T1036, L1036, X1036, e1036, N1036, st1036⟩ := own_pV X1035 hx hZ hml hown N1035 (ow hw 68 rfl) (ow hw 69 rfl) (notFace_of_selects (args := #[]) (mvT hZ (ow hw 71 rfl))) (ow hw 71 rfl) (ow hw 70 rfl) (ow hw 22 rfl) (ow hw 72 rfl) e1035 (rmCH_41 l Z a0 hw [] a1 c0 c1 c2 c3 cs vf h0 n0 Z0 hS SC hcs SF hvf SA SH SL) (own_Exa4 hS) (W := 0) (g := (mkF m 29 #[rv a1, iv 1, iv c0] [(.int 1), (.ref a1)])) (argsL := [(.int 1)]) (rest := []) (lenOf pd_16 rfl) (hb hby d12_29)
    obtain ⟨T1037, L1037, X1037, e1037, N1037, st1037⟩ := own_pS X1036 hx hZ hml hown N1036 (ow hw 90 rfl) (ow hw 91 rfl) (ow hw 51 rfl) (ow hw 92 rfl) e1036 (rm21 l Z a0 hw [] c1 h0 n0 Z0) (W := 0) (g := (mkF m 57 #[rv a1, iv 1, iv c1] [(.int c1)])) (argsL := [(.int c1)]) (rest := []) (lenOf pd_0 rfl) (hb hby d12_57)
    obtain ⟨T1038, L1038, X1038, e1038, N1038, st1038⟩ := own_pS X1037 hx hZ hml hown N1037 (ow hw 93 rfl) (ow hw 94 rfl) (ow hw 95 rfl) (ow hw 96 rfl) e1037 (rm22 l Z a0 hw [] c1 h0 n0 Z0) (W := 0) (g := (mkF m 81 #[rv a1, iv 1, iv c1] [(.int c1)])) (argsL := [(.int c1)]) (rest := []) (lenOf pd_0 rfl) (hb hby d12_81)
    have pre1039 := own_go pre1032 (T1038.setTop (mkF m 84 #[rv a1, iv 1, iv c1] [(.int (own_F22 c1))])) fun t kt => by
      refine XS.ifYes X1031.here hx rfl (pc0 := 84) (pc' := 116) rfl (hb hby d12_84) rfl ((if0 _ _).trans (teq hc84_1033).1) (by decide) (by decide) ?_
      refine XS.iloadN X1031.here hx rfl (hb hby d12_116) rfl ?_
      refine st1034 _ ?_
      refine XS.ifYes X1034.here hx rfl (pc0 := 120) (pc' := 140) rfl (hb hby d12_120) rfl ((if0 _ _).trans (teq ((own_is _ (by rw [← own_hs]; exact hc84_1033) (Classical.byContradiction fun q => hk0.2.2 (by rw [← own_hs]; exact hc84_1033) q)) : (own_F23 c0) = (0 : Int32))).1) (by decide) (by decide) ?_
      refine XS.iinc X1034.here hx rfl (hb hby d12_140) rfl (l' := #[rv a1, iv 1, iv c0]) rfl ?_
      refine XS.goto X1034.here hx rfl (pc0 := 143) (pc' := 19) rfl (hb hby d12_143) (by decide) (by decide) ?_
      refine XS.iloadN X1034.here hx rfl (hb hby d12_19) rfl ?_
      refine XS.aloadN X1034.here hx rfl (hb hby d12_20) rfl rfl ?_
      refine st1035 _ ?_
      refine XS.icmpNo X1035.here hx rfl (hb hby d12_24) rfl (tlt (by decide : (1 : Int32) < (4 : Int32))).2.1 ?_
      refine XS.aloadN X1035.here hx rfl (hb hby d12_27) rfl rfl ?_
      refine XS.iloadN X1035.here hx rfl (hb hby d12_28) rfl ?_
      refine st1036 _ ?_
      refine XS.istoreN X1036.here hx rfl (hb hby d12_32) rfl (l' := #[rv a1, iv 1, iv c1]) rfl ?_
      refine XS.iloadN X1036.here hx rfl (hb hby d12_33) rfl ?_
      refine XS.bipush X1036.here hx rfl (hb hby d12_34) ?_
      refine XS.icmpYes X1036.here hx rfl (pc0 := 36) (pc' := 56) rfl (hb hby d12_36) rfl (feq ((own_lb _ hk1.1).1 : ¬ (c1 = (9 : Int32)))).2 (by decide) (by decide) ?_
      refine XS.iloadN X1036.here hx rfl (hb hby d12_56) rfl ?_
      refine st1037 _ ?_
      refine XS.ifYes X1037.here hx rfl (pc0 := 60) (pc' := 80) rfl (hb hby d12_60) rfl ((if0 _ _).trans (teq ((own_lb _ hk1.1).2 : (own_F21 c1) = (0 : Int32))).1) (by decide) (by decide) ?_
      refine XS.iloadN X1037.here hx rfl (hb hby d12_80) rfl ?_
      refine st1038 _ ?_
      exact kt
    by_cases hc84_1040 : (own_F22 c1) = (0 : Int32)
    · obtain ⟨T1041, L1041, X1041, e1041, N1041, st1041⟩ := own_pS X1038 hx hZ hml hown N1038 (ow hw 98 rfl) (ow hw 99 rfl) (ow hw 95 rfl) (ow hw 100 rfl) e1038 (rm23 l Z a0 hw [] c1 h0 n0 Z0) (W := 0) (g := (mkF m 117 #[rv a1, iv 1, iv c1] [(.int c1)])) (argsL := [(.int c1)]) (rest := []) (lenOf pd_0 rfl) (hb hby d12_117)
      obtain ⟨T1042, L1042, X1042, e1042, N1042, st1042⟩ := own_pV X1041 hx hZ hml hown N1041 (ow hw 58 rfl) (ow hw 59 rfl) (notFace_of_selects (args := #[]) (mvT hZ (ow hw 61 rfl))) (ow hw 61 rfl) (ow hw 60 rfl) (ow hw 22 rfl) (ow hw 62 rfl) e1041 (rmLN_4 l Z a0 hw [] a1 c0 c1 c2 c3 cs vf h0 n0 Z0 hS SC hcs SF hvf SA SH SL) (own_Exa4 hS) (W := 1) (g := (mkF m 21 #[rv a1, iv 2, iv c1] [(.ref a1), (.int 2)])) (argsL := []) (rest := [(.int 2)]) (lenOf pd_15 rfl) (hb hby d12_21)
      obtain ⟨T1043, L1043, X1043, e1043, N1043, st1043⟩ := own_pV X1042 hx hZ hml hown N1042 (ow hw 68 rfl) (ow hw 69 rfl) (notFace_of_selects (args := #[]) (mvT hZ (ow hw 71 rfl))) (ow hw 71 rfl) (ow hw 70 rfl) (ow hw 22 rfl) (ow hw 72 rfl) e1042 (rmCH_42 l Z a0 hw [] a1 c0 c1 c2 c3 cs vf h0 n0 Z0 hS SC hcs SF hvf SA SH SL) (own_Exa4 hS) (W := 0) (g := (mkF m 29 #[rv a1, iv 2, iv c1] [(.int 2), (.ref a1)])) (argsL := [(.int 2)]) (rest := []) (lenOf pd_16 rfl) (hb hby d12_29)
      obtain ⟨T1044, L1044, X1044, e1044, N1044, st1044⟩ := own_pS X1043 hx hZ hml hown N1043 (ow hw 90 rfl) (ow hw 91 rfl) (ow hw 51 rfl) (ow hw 92 rfl) e1043 (rm21 l Z a0 hw [] c2 h0 n0 Z0) (W := 0) (g := (mkF m 57 #[rv a1, iv 2, iv c2] [(.int c2)])) (argsL := [(.int c2)]) (rest := []) (lenOf pd_0 rfl) (hb hby d12_57)
      obtain ⟨T1045, L1045, X1045, e1045, N1045, st1045⟩ := own_pS X1044 hx hZ hml hown N1044 (ow hw 93 rfl) (ow hw 94 rfl) (ow hw 95 rfl) (ow hw 96 rfl) e1044 (rm22 l Z a0 hw [] c2 h0 n0 Z0) (W := 0) (g := (mkF m 81 #[rv a1, iv 2, iv c2] [(.int c2)])) (argsL := [(.int c2)]) (rest := []) (lenOf pd_0 rfl) (hb hby d12_81)
      have pre1046 := own_go pre1039 (T1045.setTop (mkF m 84 #[rv a1, iv 2, iv c2] [(.int (own_F22 c2))])) fun t kt => by
        refine XS.ifYes X1038.here hx rfl (pc0 := 84) (pc' := 116) rfl (hb hby d12_84) rfl ((if0 _ _).trans (teq hc84_1040).1) (by decide) (by decide) ?_
        refine XS.iloadN X1038.here hx rfl (hb hby d12_116) rfl ?_
        refine st1041 _ ?_
        refine XS.ifYes X1041.here hx rfl (pc0 := 120) (pc' := 140) rfl (hb hby d12_120) rfl ((if0 _ _).trans (teq ((own_is _ (by rw [← own_hs]; exact hc84_1040) (Classical.byContradiction fun q => hk1.2.2 (by rw [← own_hs]; exact hc84_1040) q (by rw [← own_hs]; exact hc84_1033))) : (own_F23 c1) = (0 : Int32))).1) (by decide) (by decide) ?_
        refine XS.iinc X1041.here hx rfl (hb hby d12_140) rfl (l' := #[rv a1, iv 2, iv c1]) rfl ?_
        refine XS.goto X1041.here hx rfl (pc0 := 143) (pc' := 19) rfl (hb hby d12_143) (by decide) (by decide) ?_
        refine XS.iloadN X1041.here hx rfl (hb hby d12_19) rfl ?_
        refine XS.aloadN X1041.here hx rfl (hb hby d12_20) rfl rfl ?_
        refine st1042 _ ?_
        refine XS.icmpNo X1042.here hx rfl (hb hby d12_24) rfl (tlt (by decide : (2 : Int32) < (4 : Int32))).2.1 ?_
        refine XS.aloadN X1042.here hx rfl (hb hby d12_27) rfl rfl ?_
        refine XS.iloadN X1042.here hx rfl (hb hby d12_28) rfl ?_
        refine st1043 _ ?_
        refine XS.istoreN X1043.here hx rfl (hb hby d12_32) rfl (l' := #[rv a1, iv 2, iv c2]) rfl ?_
        refine XS.iloadN X1043.here hx rfl (hb hby d12_33) rfl ?_
        refine XS.bipush X1043.here hx rfl (hb hby d12_34) ?_
        refine XS.icmpYes X1043.here hx rfl (pc0 := 36) (pc' := 56) rfl (hb hby d12_36) rfl (feq ((own_lb _ hk2.1).1 : ¬ (c2 = (9 : Int32)))).2 (by decide) (by decide) ?_
        refine XS.iloadN X1043.here hx rfl (hb hby d12_56) rfl ?_
        refine st1044 _ ?_
        refine XS.ifYes X1044.here hx rfl (pc0 := 60) (pc' := 80) rfl (hb hby d12_60) rfl ((if0 _ _).trans (teq ((own_lb _ hk2.1).2 : (own_F21 c2) = (0 : Int32))).1) (by decide) (by decide) ?_
        refine XS.iloadN X1044.here hx rfl (hb hby d12_80) rfl ?_
        refine st1045 _ ?_
        exact kt
      by_cases hc84_1047 : (own_F22 c2) = (0 : Int32)
      · obtain ⟨T1048, L1048, X1048, e1048, N1048, st1048⟩ := own_pS X1045 hx hZ hml hown N1045 (ow hw 98 rfl) (ow hw 99 rfl) (ow hw 95 rfl) (ow hw 100 rfl) e1045 (rm23 l Z a0 hw [] c2 h0 n0 Z0) (W := 0) (g := (mkF m 117 #[rv a1, iv 2, iv c2] [(.int c2)])) (argsL := [(.int c2)]) (rest := []) (lenOf pd_0 rfl) (hb hby d12_117)
        obtain ⟨T1049, L1049, X1049, e1049, N1049, st1049⟩ := own_pV X1048 hx hZ hml hown N1048 (ow hw 58 rfl) (ow hw 59 rfl) (notFace_of_selects (args := #[]) (mvT hZ (ow hw 61 rfl))) (ow hw 61 rfl) (ow hw 60 rfl) (ow hw 22 rfl) (ow hw 62 rfl) e1048 (rmLN_4 l Z a0 hw [] a1 c0 c1 c2 c3 cs vf h0 n0 Z0 hS SC hcs SF hvf SA SH SL) (own_Exa4 hS) (W := 1) (g := (mkF m 21 #[rv a1, iv 3, iv c2] [(.ref a1), (.int 3)])) (argsL := []) (rest := [(.int 3)]) (lenOf pd_15 rfl) (hb hby d12_21)
        obtain ⟨T1050, L1050, X1050, e1050, N1050, st1050⟩ := own_pV X1049 hx hZ hml hown N1049 (ow hw 68 rfl) (ow hw 69 rfl) (notFace_of_selects (args := #[]) (mvT hZ (ow hw 71 rfl))) (ow hw 71 rfl) (ow hw 70 rfl) (ow hw 22 rfl) (ow hw 72 rfl) e1049 (rmCH_43 l Z a0 hw [] a1 c0 c1 c2 c3 cs vf h0 n0 Z0 hS SC hcs SF hvf SA SH SL) (own_Exa4 hS) (W := 0) (g := (mkF m 29 #[rv a1, iv 3, iv c2] [(.int 3), (.ref a1)])) (argsL := [(.int 3)]) (rest := []) (lenOf pd_16 rfl) (hb hby d12_29)
        obtain ⟨T1051, L1051, X1051, e1051, N1051, st1051⟩ := own_pS X1050 hx hZ hml hown N1050 (ow hw 90 rfl) (ow hw 91 rfl) (ow hw 51 rfl) (ow hw 92 rfl) e1050 (rm21 l Z a0 hw [] c3 h0 n0 Z0) (W := 0) (g := (mkF m 57 #[rv a1, iv 3, iv c3] [(.int c3)])) (argsL := [(.int c3)]) (rest := []) (lenOf pd_0 rfl) (hb hby d12_57)
        obtain ⟨T1052, L1052, X1052, e1052, N1052, st1052⟩ := own_pS X1051 hx hZ hml hown N1051 (ow hw 93 rfl) (ow hw 94 rfl) (ow hw 95 rfl) (ow hw 96 rfl) e1051 (rm22 l Z a0 hw [] c3 h0 n0 Z0) (W := 0) (g := (mkF m 81 #[rv a1, iv 3, iv c3] [(.int c3)])) (argsL := [(.int c3)]) (rest := []) (lenOf pd_0 rfl) (hb hby d12_81)
        obtain ⟨T1053, L1053, X1053, e1053, N1053, st1053⟩ := own_pS X1052 hx hZ hml hown N1052 (ow hw 98 rfl) (ow hw 99 rfl) (ow hw 95 rfl) (ow hw 100 rfl) e1052 (rm23 l Z a0 hw [] c3 h0 n0 Z0) (W := 0) (g := (mkF m 117 #[rv a1, iv 3, iv c3] [(.int c3)])) (argsL := [(.int c3)]) (rest := []) (lenOf pd_0 rfl) (hb hby d12_117)
        obtain ⟨T1054, L1054, X1054, e1054, N1054, st1054⟩ := own_pV X1053 hx hZ hml hown N1053 (ow hw 58 rfl) (ow hw 59 rfl) (notFace_of_selects (args := #[]) (mvT hZ (ow hw 61 rfl))) (ow hw 61 rfl) (ow hw 60 rfl) (ow hw 22 rfl) (ow hw 62 rfl) e1053 (rmLN_4 l Z a0 hw [] a1 c0 c1 c2 c3 cs vf h0 n0 Z0 hS SC hcs SF hvf SA SH SL) (own_Exa4 hS) (W := 1) (g := (mkF m 21 #[rv a1, iv 4, iv c3] [(.ref a1), (.int 4)])) (argsL := []) (rest := [(.int 4)]) (lenOf pd_15 rfl) (hb hby d12_21)
        have pre1055 := own_go pre1046 (T1054.setTop (mkF m 146 #[rv a1, iv 4, iv c3] [])) fun t kt => by
          refine XS.ifYes X1045.here hx rfl (pc0 := 84) (pc' := 116) rfl (hb hby d12_84) rfl ((if0 _ _).trans (teq hc84_1047).1) (by decide) (by decide) ?_
          refine XS.iloadN X1045.here hx rfl (hb hby d12_116) rfl ?_
          refine st1048 _ ?_
          refine XS.ifYes X1048.here hx rfl (pc0 := 120) (pc' := 140) rfl (hb hby d12_120) rfl ((if0 _ _).trans (teq ((own_is _ (by rw [← own_hs]; exact hc84_1047) (Classical.byContradiction fun q => hk2.2.2 (by rw [← own_hs]; exact hc84_1047) q (by rw [← own_hs]; exact hc84_1040))) : (own_F23 c2) = (0 : Int32))).1) (by decide) (by decide) ?_
          refine XS.iinc X1048.here hx rfl (hb hby d12_140) rfl (l' := #[rv a1, iv 3, iv c2]) rfl ?_
          refine XS.goto X1048.here hx rfl (pc0 := 143) (pc' := 19) rfl (hb hby d12_143) (by decide) (by decide) ?_
          refine XS.iloadN X1048.here hx rfl (hb hby d12_19) rfl ?_
          refine XS.aloadN X1048.here hx rfl (hb hby d12_20) rfl rfl ?_
          refine st1049 _ ?_
          refine XS.icmpNo X1049.here hx rfl (hb hby d12_24) rfl (tlt (by decide : (3 : Int32) < (4 : Int32))).2.1 ?_
          refine XS.aloadN X1049.here hx rfl (hb hby d12_27) rfl rfl ?_
          refine XS.iloadN X1049.here hx rfl (hb hby d12_28) rfl ?_
          refine st1050 _ ?_
          refine XS.istoreN X1050.here hx rfl (hb hby d12_32) rfl (l' := #[rv a1, iv 3, iv c3]) rfl ?_
          refine XS.iloadN X1050.here hx rfl (hb hby d12_33) rfl ?_
          refine XS.bipush X1050.here hx rfl (hb hby d12_34) ?_
          refine XS.icmpYes X1050.here hx rfl (pc0 := 36) (pc' := 56) rfl (hb hby d12_36) rfl (feq ((own_lb _ hk3.1).1 : ¬ (c3 = (9 : Int32)))).2 (by decide) (by decide) ?_
          refine XS.iloadN X1050.here hx rfl (hb hby d12_56) rfl ?_
          refine st1051 _ ?_
          refine XS.ifYes X1051.here hx rfl (pc0 := 60) (pc' := 80) rfl (hb hby d12_60) rfl ((if0 _ _).trans (teq ((own_lb _ hk3.1).2 : (own_F21 c3) = (0 : Int32))).1) (by decide) (by decide) ?_
          refine XS.iloadN X1051.here hx rfl (hb hby d12_80) rfl ?_
          refine st1052 _ ?_
          refine XS.ifYes X1052.here hx rfl (pc0 := 84) (pc' := 116) rfl (hb hby d12_84) rfl ((if0 _ _).trans (teq ((by rw [own_hs]; exact Classical.byContradiction fun q => hk3.2.1 q) : (own_F22 c3) = (0 : Int32))).1) (by decide) (by decide) ?_
          refine XS.iloadN X1052.here hx rfl (hb hby d12_116) rfl ?_
          refine st1053 _ ?_
          refine XS.ifYes X1053.here hx rfl (pc0 := 120) (pc' := 140) rfl (hb hby d12_120) rfl ((if0 _ _).trans (teq ((own_is _ (Classical.byContradiction fun q => hk3.2.1 q) (Classical.byContradiction fun q => hk3.2.2 (Classical.byContradiction fun q => hk3.2.1 q) q (by rw [← own_hs]; exact hc84_1047))) : (own_F23 c3) = (0 : Int32))).1) (by decide) (by decide) ?_
          refine XS.iinc X1053.here hx rfl (hb hby d12_140) rfl (l' := #[rv a1, iv 4, iv c3]) rfl ?_
          refine XS.goto X1053.here hx rfl (pc0 := 143) (pc' := 19) rfl (hb hby d12_143) (by decide) (by decide) ?_
          refine XS.iloadN X1053.here hx rfl (hb hby d12_19) rfl ?_
          refine XS.aloadN X1053.here hx rfl (hb hby d12_20) rfl rfl ?_
          refine st1054 _ ?_
          refine XS.icmpYes X1054.here hx rfl (pc0 := 24) (pc' := 146) rfl (hb hby d12_24) rfl (flt (by decide : ¬ ((4 : Int32) < (4 : Int32)))).2.1 (by decide) (by decide) ?_
          exact kt
        refine own_lv X1054 Bd.notSynchronized (v := none) (fun _ => rfl) pre1055 (fun fs hr => X1054.returnOut hx Bd.returns (hb hby d12_146) hr) ?_
        show Q12_4 Z a1 c0 c1 c2 c3 cs vf h0 n0 _ T1054.heap _
        rw [e1054]
        exact ⟨rfl, N1054, rfl⟩
      · obtain ⟨T1056, L1056, X1056, e1056, N1056, st1056⟩ := own_pV X1045 hx hZ hml hown N1045 (ow hw 58 rfl) (ow hw 59 rfl) (notFace_of_selects (args := #[]) (mvT hZ (ow hw 61 rfl))) (ow hw 61 rfl) (ow hw 60 rfl) (ow hw 22 rfl) (ow hw 62 rfl) e1045 (rmLN_4 l Z a0 hw [] a1 c0 c1 c2 c3 cs vf h0 n0 Z0 hS SC hcs SF hvf SA SH SL) (own_Exa4 hS) (W := 1) (g := (mkF m 91 #[rv a1, iv 2, iv c2] [(.ref a1), (.int 3)])) (argsL := []) (rest := [(.int 3)]) (lenOf pd_15 rfl) (hb hby d12_91)
        obtain ⟨T1057, L1057, X1057, e1057, N1057, st1057⟩ := own_pV X1056 hx hZ hml hown N1056 (ow hw 68 rfl) (ow hw 69 rfl) (notFace_of_selects (args := #[]) (mvT hZ (ow hw 71 rfl))) (ow hw 71 rfl) (ow hw 70 rfl) (ow hw 22 rfl) (ow hw 72 rfl) e1056 (rmCH_43 l Z a0 hw [] a1 c0 c1 c2 c3 cs vf h0 n0 Z0 hS SC hcs SF hvf SA SH SL) (own_Exa4 hS) (W := 0) (g := (mkF m 101 #[rv a1, iv 2, iv c2] [(.int 3), (.ref a1)])) (argsL := [(.int 3)]) (rest := []) (lenOf pd_16 rfl) (hb hby d12_101)
        obtain ⟨T1058, L1058, X1058, e1058, N1058, st1058⟩ := own_pS X1057 hx hZ hml hown N1057 (ow hw 138 rfl) (ow hw 139 rfl) (ow hw 95 rfl) (ow hw 140 rfl) e1057 (rm32 l Z a0 hw [] c3 h0 n0 Z0) (W := 0) (g := (mkF m 104 #[rv a1, iv 2, iv c2] [(.int c3)])) (argsL := [(.int c3)]) (rest := []) (lenOf pd_0 rfl) (hb hby d12_104)
        obtain ⟨T1059, L1059, X1059, e1059, N1059, st1059⟩ := own_pV X1058 hx hZ hml hown N1058 (ow hw 58 rfl) (ow hw 59 rfl) (notFace_of_selects (args := #[]) (mvT hZ (ow hw 61 rfl))) (ow hw 61 rfl) (ow hw 60 rfl) (ow hw 22 rfl) (ow hw 62 rfl) e1058 (rmLN_4 l Z a0 hw [] a1 c0 c1 c2 c3 cs vf h0 n0 Z0 hS SC hcs SF hvf SA SH SL) (own_Exa4 hS) (W := 1) (g := (mkF m 21 #[rv a1, iv 4, iv c2] [(.ref a1), (.int 4)])) (argsL := []) (rest := [(.int 4)]) (lenOf pd_15 rfl) (hb hby d12_21)
        have pre1060 := own_go pre1046 (T1059.setTop (mkF m 146 #[rv a1, iv 4, iv c2] [])) fun t kt => by
          refine XS.ifNo X1045.here hx rfl (hb hby d12_84) rfl ((if0 _ _).trans (feq hc84_1047).1) ?_
          refine XS.iloadN X1045.here hx rfl (hb hby d12_87) rfl ?_
          refine XS.iconst X1045.here hx rfl (hb hby d12_88) ?_
          refine XS.iadd X1045.here hx rfl (hb hby d12_89) rfl ?_
          refine XS.aloadN X1045.here hx rfl (hb hby d12_90) rfl rfl ?_
          refine st1056 _ ?_
          refine XS.icmpNo X1056.here hx rfl (hb hby d12_94) rfl (tlt (by decide : (3 : Int32) < (4 : Int32))).2.1 ?_
          refine XS.aloadN X1056.here hx rfl (hb hby d12_97) rfl rfl ?_
          refine XS.iloadN X1056.here hx rfl (hb hby d12_98) rfl ?_
          refine XS.iconst X1056.here hx rfl (hb hby d12_99) ?_
          refine XS.iadd X1056.here hx rfl (hb hby d12_100) rfl ?_
          refine st1057 _ ?_
          refine st1058 _ ?_
          refine XS.ifNo X1058.here hx rfl (hb hby d12_107) rfl ((if0 _ _).trans (feq ((by rw [own_ls]; exact hk2.2.1 (by rw [← own_hs]; exact hc84_1047)) : ¬ ((own_F32 c3) = (0 : Int32)))).1) ?_
          refine XS.iinc X1058.here hx rfl (hb hby d12_110) rfl (l' := #[rv a1, iv 3, iv c2]) rfl ?_
          refine XS.goto X1058.here hx rfl (pc0 := 113) (pc' := 140) rfl (hb hby d12_113) (by decide) (by decide) ?_
          refine XS.iinc X1058.here hx rfl (hb hby d12_140) rfl (l' := #[rv a1, iv 4, iv c2]) rfl ?_
          refine XS.goto X1058.here hx rfl (pc0 := 143) (pc' := 19) rfl (hb hby d12_143) (by decide) (by decide) ?_
          refine XS.iloadN X1058.here hx rfl (hb hby d12_19) rfl ?_
          refine XS.aloadN X1058.here hx rfl (hb hby d12_20) rfl rfl ?_
          refine st1059 _ ?_
          refine XS.icmpYes X1059.here hx rfl (pc0 := 24) (pc' := 146) rfl (hb hby d12_24) rfl (flt (by decide : ¬ ((4 : Int32) < (4 : Int32)))).2.1 (by decide) (by decide) ?_
          exact kt
        refine own_lv X1059 Bd.notSynchronized (v := none) (fun _ => rfl) pre1060 (fun fs hr => X1059.returnOut hx Bd.returns (hb hby d12_146) hr) ?_
        show Q12_4 Z a1 c0 c1 c2 c3 cs vf h0 n0 _ T1059.heap _
        rw [e1059]
        exact ⟨rfl, N1059, rfl⟩
    · obtain ⟨T1061, L1061, X1061, e1061, N1061, st1061⟩ := own_pV X1038 hx hZ hml hown N1038 (ow hw 58 rfl) (ow hw 59 rfl) (notFace_of_selects (args := #[]) (mvT hZ (ow hw 61 rfl))) (ow hw 61 rfl) (ow hw 60 rfl) (ow hw 22 rfl) (ow hw 62 rfl) e1038 (rmLN_4 l Z a0 hw [] a1 c0 c1 c2 c3 cs vf h0 n0 Z0 hS SC hcs SF hvf SA SH SL) (own_Exa4 hS) (W := 1) (g := (mkF m 91 #[rv a1, iv 1, iv c1] [(.ref a1), (.int 2)])) (argsL := []) (rest := [(.int 2)]) (lenOf pd_15 rfl) (hb hby d12_91)
      obtain ⟨T1062, L1062, X1062, e1062, N1062, st1062⟩ := own_pV X1061 hx hZ hml hown N1061 (ow hw 68 rfl) (ow hw 69 rfl) (notFace_of_selects (args := #[]) (mvT hZ (ow hw 71 rfl))) (ow hw 71 rfl) (ow hw 70 rfl) (ow hw 22 rfl) (ow hw 72 rfl) e1061 (rmCH_42 l Z a0 hw [] a1 c0 c1 c2 c3 cs vf h0 n0 Z0 hS SC hcs SF hvf SA SH SL) (own_Exa4 hS) (W := 0) (g := (mkF m 101 #[rv a1, iv 1, iv c1] [(.int 2), (.ref a1)])) (argsL := [(.int 2)]) (rest := []) (lenOf pd_16 rfl) (hb hby d12_101)
      obtain ⟨T1063, L1063, X1063, e1063, N1063, st1063⟩ := own_pS X1062 hx hZ hml hown N1062 (ow hw 138 rfl) (ow hw 139 rfl) (ow hw 95 rfl) (ow hw 140 rfl) e1062 (rm32 l Z a0 hw [] c2 h0 n0 Z0) (W := 0) (g := (mkF m 104 #[rv a1, iv 1, iv c1] [(.int c2)])) (argsL := [(.int c2)]) (rest := []) (lenOf pd_0 rfl) (hb hby d12_104)
      obtain ⟨T1064, L1064, X1064, e1064, N1064, st1064⟩ := own_pV X1063 hx hZ hml hown N1063 (ow hw 58 rfl) (ow hw 59 rfl) (notFace_of_selects (args := #[]) (mvT hZ (ow hw 61 rfl))) (ow hw 61 rfl) (ow hw 60 rfl) (ow hw 22 rfl) (ow hw 62 rfl) e1063 (rmLN_4 l Z a0 hw [] a1 c0 c1 c2 c3 cs vf h0 n0 Z0 hS SC hcs SF hvf SA SH SL) (own_Exa4 hS) (W := 1) (g := (mkF m 21 #[rv a1, iv 3, iv c1] [(.ref a1), (.int 3)])) (argsL := []) (rest := [(.int 3)]) (lenOf pd_15 rfl) (hb hby d12_21)
      obtain ⟨T1065, L1065, X1065, e1065, N1065, st1065⟩ := own_pV X1064 hx hZ hml hown N1064 (ow hw 68 rfl) (ow hw 69 rfl) (notFace_of_selects (args := #[]) (mvT hZ (ow hw 71 rfl))) (ow hw 71 rfl) (ow hw 70 rfl) (ow hw 22 rfl) (ow hw 72 rfl) e1064 (rmCH_43 l Z a0 hw [] a1 c0 c1 c2 c3 cs vf h0 n0 Z0 hS SC hcs SF hvf SA SH SL) (own_Exa4 hS) (W := 0) (g := (mkF m 29 #[rv a1, iv 3, iv c1] [(.int 3), (.ref a1)])) (argsL := [(.int 3)]) (rest := []) (lenOf pd_16 rfl) (hb hby d12_29)
      obtain ⟨T1066, L1066, X1066, e1066, N1066, st1066⟩ := own_pS X1065 hx hZ hml hown N1065 (ow hw 90 rfl) (ow hw 91 rfl) (ow hw 51 rfl) (ow hw 92 rfl) e1065 (rm21 l Z a0 hw [] c3 h0 n0 Z0) (W := 0) (g := (mkF m 57 #[rv a1, iv 3, iv c3] [(.int c3)])) (argsL := [(.int c3)]) (rest := []) (lenOf pd_0 rfl) (hb hby d12_57)
      obtain ⟨T1067, L1067, X1067, e1067, N1067, st1067⟩ := own_pS X1066 hx hZ hml hown N1066 (ow hw 93 rfl) (ow hw 94 rfl) (ow hw 95 rfl) (ow hw 96 rfl) e1066 (rm22 l Z a0 hw [] c3 h0 n0 Z0) (W := 0) (g := (mkF m 81 #[rv a1, iv 3, iv c3] [(.int c3)])) (argsL := [(.int c3)]) (rest := []) (lenOf pd_0 rfl) (hb hby d12_81)
      obtain ⟨T1068, L1068, X1068, e1068, N1068, st1068⟩ := own_pS X1067 hx hZ hml hown N1067 (ow hw 98 rfl) (ow hw 99 rfl) (ow hw 95 rfl) (ow hw 100 rfl) e1067 (rm23 l Z a0 hw [] c3 h0 n0 Z0) (W := 0) (g := (mkF m 117 #[rv a1, iv 3, iv c3] [(.int c3)])) (argsL := [(.int c3)]) (rest := []) (lenOf pd_0 rfl) (hb hby d12_117)
      obtain ⟨T1069, L1069, X1069, e1069, N1069, st1069⟩ := own_pV X1068 hx hZ hml hown N1068 (ow hw 58 rfl) (ow hw 59 rfl) (notFace_of_selects (args := #[]) (mvT hZ (ow hw 61 rfl))) (ow hw 61 rfl) (ow hw 60 rfl) (ow hw 22 rfl) (ow hw 62 rfl) e1068 (rmLN_4 l Z a0 hw [] a1 c0 c1 c2 c3 cs vf h0 n0 Z0 hS SC hcs SF hvf SA SH SL) (own_Exa4 hS) (W := 1) (g := (mkF m 21 #[rv a1, iv 4, iv c3] [(.ref a1), (.int 4)])) (argsL := []) (rest := [(.int 4)]) (lenOf pd_15 rfl) (hb hby d12_21)
      have pre1070 := own_go pre1039 (T1069.setTop (mkF m 146 #[rv a1, iv 4, iv c3] [])) fun t kt => by
        refine XS.ifNo X1038.here hx rfl (hb hby d12_84) rfl ((if0 _ _).trans (feq hc84_1040).1) ?_
        refine XS.iloadN X1038.here hx rfl (hb hby d12_87) rfl ?_
        refine XS.iconst X1038.here hx rfl (hb hby d12_88) ?_
        refine XS.iadd X1038.here hx rfl (hb hby d12_89) rfl ?_
        refine XS.aloadN X1038.here hx rfl (hb hby d12_90) rfl rfl ?_
        refine st1061 _ ?_
        refine XS.icmpNo X1061.here hx rfl (hb hby d12_94) rfl (tlt (by decide : (2 : Int32) < (4 : Int32))).2.1 ?_
        refine XS.aloadN X1061.here hx rfl (hb hby d12_97) rfl rfl ?_
        refine XS.iloadN X1061.here hx rfl (hb hby d12_98) rfl ?_
        refine XS.iconst X1061.here hx rfl (hb hby d12_99) ?_
        refine XS.iadd X1061.here hx rfl (hb hby d12_100) rfl ?_
        refine st1062 _ ?_
        refine st1063 _ ?_
        refine XS.ifNo X1063.here hx rfl (hb hby d12_107) rfl ((if0 _ _).trans (feq ((by rw [own_ls]; exact hk1.2.1 (by rw [← own_hs]; exact hc84_1040)) : ¬ ((own_F32 c2) = (0 : Int32)))).1) ?_
        refine XS.iinc X1063.here hx rfl (hb hby d12_110) rfl (l' := #[rv a1, iv 2, iv c1]) rfl ?_
        refine XS.goto X1063.here hx rfl (pc0 := 113) (pc' := 140) rfl (hb hby d12_113) (by decide) (by decide) ?_
        refine XS.iinc X1063.here hx rfl (hb hby d12_140) rfl (l' := #[rv a1, iv 3, iv c1]) rfl ?_
        refine XS.goto X1063.here hx rfl (pc0 := 143) (pc' := 19) rfl (hb hby d12_143) (by decide) (by decide) ?_
        refine XS.iloadN X1063.here hx rfl (hb hby d12_19) rfl ?_
        refine XS.aloadN X1063.here hx rfl (hb hby d12_20) rfl rfl ?_
        refine st1064 _ ?_
        refine XS.icmpNo X1064.here hx rfl (hb hby d12_24) rfl (tlt (by decide : (3 : Int32) < (4 : Int32))).2.1 ?_
        refine XS.aloadN X1064.here hx rfl (hb hby d12_27) rfl rfl ?_
        refine XS.iloadN X1064.here hx rfl (hb hby d12_28) rfl ?_
        refine st1065 _ ?_
        refine XS.istoreN X1065.here hx rfl (hb hby d12_32) rfl (l' := #[rv a1, iv 3, iv c3]) rfl ?_
        refine XS.iloadN X1065.here hx rfl (hb hby d12_33) rfl ?_
        refine XS.bipush X1065.here hx rfl (hb hby d12_34) ?_
        refine XS.icmpYes X1065.here hx rfl (pc0 := 36) (pc' := 56) rfl (hb hby d12_36) rfl (feq ((own_lb _ hk3.1).1 : ¬ (c3 = (9 : Int32)))).2 (by decide) (by decide) ?_
        refine XS.iloadN X1065.here hx rfl (hb hby d12_56) rfl ?_
        refine st1066 _ ?_
        refine XS.ifYes X1066.here hx rfl (pc0 := 60) (pc' := 80) rfl (hb hby d12_60) rfl ((if0 _ _).trans (teq ((own_lb _ hk3.1).2 : (own_F21 c3) = (0 : Int32))).1) (by decide) (by decide) ?_
        refine XS.iloadN X1066.here hx rfl (hb hby d12_80) rfl ?_
        refine st1067 _ ?_
        refine XS.ifYes X1067.here hx rfl (pc0 := 84) (pc' := 116) rfl (hb hby d12_84) rfl ((if0 _ _).trans (teq ((by rw [own_hs]; exact Classical.byContradiction fun q => hk3.2.1 q) : (own_F22 c3) = (0 : Int32))).1) (by decide) (by decide) ?_
        refine XS.iloadN X1067.here hx rfl (hb hby d12_116) rfl ?_
        refine st1068 _ ?_
        refine XS.ifYes X1068.here hx rfl (pc0 := 120) (pc' := 140) rfl (hb hby d12_120) rfl ((if0 _ _).trans (teq ((own_is _ (Classical.byContradiction fun q => hk3.2.1 q) (Classical.byContradiction fun q => hk3.2.2 (Classical.byContradiction fun q => hk3.2.1 q) q (own_hl _ (hk1.2.1 (by rw [← own_hs]; exact hc84_1040))))) : (own_F23 c3) = (0 : Int32))).1) (by decide) (by decide) ?_
        refine XS.iinc X1068.here hx rfl (hb hby d12_140) rfl (l' := #[rv a1, iv 4, iv c3]) rfl ?_
        refine XS.goto X1068.here hx rfl (pc0 := 143) (pc' := 19) rfl (hb hby d12_143) (by decide) (by decide) ?_
        refine XS.iloadN X1068.here hx rfl (hb hby d12_19) rfl ?_
        refine XS.aloadN X1068.here hx rfl (hb hby d12_20) rfl rfl ?_
        refine st1069 _ ?_
        refine XS.icmpYes X1069.here hx rfl (pc0 := 24) (pc' := 146) rfl (hb hby d12_24) rfl (flt (by decide : ¬ ((4 : Int32) < (4 : Int32)))).2.1 (by decide) (by decide) ?_
        exact kt
      refine own_lv X1069 Bd.notSynchronized (v := none) (fun _ => rfl) pre1070 (fun fs hr => X1069.returnOut hx Bd.returns (hb hby d12_146) hr) ?_
      show Q12_4 Z a1 c0 c1 c2 c3 cs vf h0 n0 _ T1069.heap _
      rw [e1069]
      exact ⟨rfl, N1069, rfl⟩
  · obtain ⟨T1071, L1071, X1071, e1071, N1071, st1071⟩ := own_pV X1031 hx hZ hml hown N1031 (ow hw 58 rfl) (ow hw 59 rfl) (notFace_of_selects (args := #[]) (mvT hZ (ow hw 61 rfl))) (ow hw 61 rfl) (ow hw 60 rfl) (ow hw 22 rfl) (ow hw 62 rfl) e1031 (rmLN_4 l Z a0 hw [] a1 c0 c1 c2 c3 cs vf h0 n0 Z0 hS SC hcs SF hvf SA SH SL) (own_Exa4 hS) (W := 1) (g := (mkF m 91 #[rv a1, iv 0, iv c0] [(.ref a1), (.int 1)])) (argsL := []) (rest := [(.int 1)]) (lenOf pd_15 rfl) (hb hby d12_91)
    obtain ⟨T1072, L1072, X1072, e1072, N1072, st1072⟩ := own_pV X1071 hx hZ hml hown N1071 (ow hw 68 rfl) (ow hw 69 rfl) (notFace_of_selects (args := #[]) (mvT hZ (ow hw 71 rfl))) (ow hw 71 rfl) (ow hw 70 rfl) (ow hw 22 rfl) (ow hw 72 rfl) e1071 (rmCH_41 l Z a0 hw [] a1 c0 c1 c2 c3 cs vf h0 n0 Z0 hS SC hcs SF hvf SA SH SL) (own_Exa4 hS) (W := 0) (g := (mkF m 101 #[rv a1, iv 0, iv c0] [(.int 1), (.ref a1)])) (argsL := [(.int 1)]) (rest := []) (lenOf pd_16 rfl) (hb hby d12_101)
    obtain ⟨T1073, L1073, X1073, e1073, N1073, st1073⟩ := own_pS X1072 hx hZ hml hown N1072 (ow hw 138 rfl) (ow hw 139 rfl) (ow hw 95 rfl) (ow hw 140 rfl) e1072 (rm32 l Z a0 hw [] c1 h0 n0 Z0) (W := 0) (g := (mkF m 104 #[rv a1, iv 0, iv c0] [(.int c1)])) (argsL := [(.int c1)]) (rest := []) (lenOf pd_0 rfl) (hb hby d12_104)
    obtain ⟨T1074, L1074, X1074, e1074, N1074, st1074⟩ := own_pV X1073 hx hZ hml hown N1073 (ow hw 58 rfl) (ow hw 59 rfl) (notFace_of_selects (args := #[]) (mvT hZ (ow hw 61 rfl))) (ow hw 61 rfl) (ow hw 60 rfl) (ow hw 22 rfl) (ow hw 62 rfl) e1073 (rmLN_4 l Z a0 hw [] a1 c0 c1 c2 c3 cs vf h0 n0 Z0 hS SC hcs SF hvf SA SH SL) (own_Exa4 hS) (W := 1) (g := (mkF m 21 #[rv a1, iv 2, iv c0] [(.ref a1), (.int 2)])) (argsL := []) (rest := [(.int 2)]) (lenOf pd_15 rfl) (hb hby d12_21)
    obtain ⟨T1075, L1075, X1075, e1075, N1075, st1075⟩ := own_pV X1074 hx hZ hml hown N1074 (ow hw 68 rfl) (ow hw 69 rfl) (notFace_of_selects (args := #[]) (mvT hZ (ow hw 71 rfl))) (ow hw 71 rfl) (ow hw 70 rfl) (ow hw 22 rfl) (ow hw 72 rfl) e1074 (rmCH_42 l Z a0 hw [] a1 c0 c1 c2 c3 cs vf h0 n0 Z0 hS SC hcs SF hvf SA SH SL) (own_Exa4 hS) (W := 0) (g := (mkF m 29 #[rv a1, iv 2, iv c0] [(.int 2), (.ref a1)])) (argsL := [(.int 2)]) (rest := []) (lenOf pd_16 rfl) (hb hby d12_29)
    obtain ⟨T1076, L1076, X1076, e1076, N1076, st1076⟩ := own_pS X1075 hx hZ hml hown N1075 (ow hw 90 rfl) (ow hw 91 rfl) (ow hw 51 rfl) (ow hw 92 rfl) e1075 (rm21 l Z a0 hw [] c2 h0 n0 Z0) (W := 0) (g := (mkF m 57 #[rv a1, iv 2, iv c2] [(.int c2)])) (argsL := [(.int c2)]) (rest := []) (lenOf pd_0 rfl) (hb hby d12_57)
    obtain ⟨T1077, L1077, X1077, e1077, N1077, st1077⟩ := own_pS X1076 hx hZ hml hown N1076 (ow hw 93 rfl) (ow hw 94 rfl) (ow hw 95 rfl) (ow hw 96 rfl) e1076 (rm22 l Z a0 hw [] c2 h0 n0 Z0) (W := 0) (g := (mkF m 81 #[rv a1, iv 2, iv c2] [(.int c2)])) (argsL := [(.int c2)]) (rest := []) (lenOf pd_0 rfl) (hb hby d12_81)
    have pre1078 := own_go pre1032 (T1077.setTop (mkF m 84 #[rv a1, iv 2, iv c2] [(.int (own_F22 c2))])) fun t kt => by
      refine XS.ifNo X1031.here hx rfl (hb hby d12_84) rfl ((if0 _ _).trans (feq hc84_1033).1) ?_
      refine XS.iloadN X1031.here hx rfl (hb hby d12_87) rfl ?_
      refine XS.iconst X1031.here hx rfl (hb hby d12_88) ?_
      refine XS.iadd X1031.here hx rfl (hb hby d12_89) rfl ?_
      refine XS.aloadN X1031.here hx rfl (hb hby d12_90) rfl rfl ?_
      refine st1071 _ ?_
      refine XS.icmpNo X1071.here hx rfl (hb hby d12_94) rfl (tlt (by decide : (1 : Int32) < (4 : Int32))).2.1 ?_
      refine XS.aloadN X1071.here hx rfl (hb hby d12_97) rfl rfl ?_
      refine XS.iloadN X1071.here hx rfl (hb hby d12_98) rfl ?_
      refine XS.iconst X1071.here hx rfl (hb hby d12_99) ?_
      refine XS.iadd X1071.here hx rfl (hb hby d12_100) rfl ?_
      refine st1072 _ ?_
      refine st1073 _ ?_
      refine XS.ifNo X1073.here hx rfl (hb hby d12_107) rfl ((if0 _ _).trans (feq ((by rw [own_ls]; exact hk0.2.1 (by rw [← own_hs]; exact hc84_1033)) : ¬ ((own_F32 c1) = (0 : Int32)))).1) ?_
      refine XS.iinc X1073.here hx rfl (hb hby d12_110) rfl (l' := #[rv a1, iv 1, iv c0]) rfl ?_
      refine XS.goto X1073.here hx rfl (pc0 := 113) (pc' := 140) rfl (hb hby d12_113) (by decide) (by decide) ?_
      refine XS.iinc X1073.here hx rfl (hb hby d12_140) rfl (l' := #[rv a1, iv 2, iv c0]) rfl ?_
      refine XS.goto X1073.here hx rfl (pc0 := 143) (pc' := 19) rfl (hb hby d12_143) (by decide) (by decide) ?_
      refine XS.iloadN X1073.here hx rfl (hb hby d12_19) rfl ?_
      refine XS.aloadN X1073.here hx rfl (hb hby d12_20) rfl rfl ?_
      refine st1074 _ ?_
      refine XS.icmpNo X1074.here hx rfl (hb hby d12_24) rfl (tlt (by decide : (2 : Int32) < (4 : Int32))).2.1 ?_
      refine XS.aloadN X1074.here hx rfl (hb hby d12_27) rfl rfl ?_
      refine XS.iloadN X1074.here hx rfl (hb hby d12_28) rfl ?_
      refine st1075 _ ?_
      refine XS.istoreN X1075.here hx rfl (hb hby d12_32) rfl (l' := #[rv a1, iv 2, iv c2]) rfl ?_
      refine XS.iloadN X1075.here hx rfl (hb hby d12_33) rfl ?_
      refine XS.bipush X1075.here hx rfl (hb hby d12_34) ?_
      refine XS.icmpYes X1075.here hx rfl (pc0 := 36) (pc' := 56) rfl (hb hby d12_36) rfl (feq ((own_lb _ hk2.1).1 : ¬ (c2 = (9 : Int32)))).2 (by decide) (by decide) ?_
      refine XS.iloadN X1075.here hx rfl (hb hby d12_56) rfl ?_
      refine st1076 _ ?_
      refine XS.ifYes X1076.here hx rfl (pc0 := 60) (pc' := 80) rfl (hb hby d12_60) rfl ((if0 _ _).trans (teq ((own_lb _ hk2.1).2 : (own_F21 c2) = (0 : Int32))).1) (by decide) (by decide) ?_
      refine XS.iloadN X1076.here hx rfl (hb hby d12_80) rfl ?_
      refine st1077 _ ?_
      exact kt
    by_cases hc84_1079 : (own_F22 c2) = (0 : Int32)
    · obtain ⟨T1080, L1080, X1080, e1080, N1080, st1080⟩ := own_pS X1077 hx hZ hml hown N1077 (ow hw 98 rfl) (ow hw 99 rfl) (ow hw 95 rfl) (ow hw 100 rfl) e1077 (rm23 l Z a0 hw [] c2 h0 n0 Z0) (W := 0) (g := (mkF m 117 #[rv a1, iv 2, iv c2] [(.int c2)])) (argsL := [(.int c2)]) (rest := []) (lenOf pd_0 rfl) (hb hby d12_117)
      obtain ⟨T1081, L1081, X1081, e1081, N1081, st1081⟩ := own_pV X1080 hx hZ hml hown N1080 (ow hw 58 rfl) (ow hw 59 rfl) (notFace_of_selects (args := #[]) (mvT hZ (ow hw 61 rfl))) (ow hw 61 rfl) (ow hw 60 rfl) (ow hw 22 rfl) (ow hw 62 rfl) e1080 (rmLN_4 l Z a0 hw [] a1 c0 c1 c2 c3 cs vf h0 n0 Z0 hS SC hcs SF hvf SA SH SL) (own_Exa4 hS) (W := 1) (g := (mkF m 21 #[rv a1, iv 3, iv c2] [(.ref a1), (.int 3)])) (argsL := []) (rest := [(.int 3)]) (lenOf pd_15 rfl) (hb hby d12_21)
      obtain ⟨T1082, L1082, X1082, e1082, N1082, st1082⟩ := own_pV X1081 hx hZ hml hown N1081 (ow hw 68 rfl) (ow hw 69 rfl) (notFace_of_selects (args := #[]) (mvT hZ (ow hw 71 rfl))) (ow hw 71 rfl) (ow hw 70 rfl) (ow hw 22 rfl) (ow hw 72 rfl) e1081 (rmCH_43 l Z a0 hw [] a1 c0 c1 c2 c3 cs vf h0 n0 Z0 hS SC hcs SF hvf SA SH SL) (own_Exa4 hS) (W := 0) (g := (mkF m 29 #[rv a1, iv 3, iv c2] [(.int 3), (.ref a1)])) (argsL := [(.int 3)]) (rest := []) (lenOf pd_16 rfl) (hb hby d12_29)
      obtain ⟨T1083, L1083, X1083, e1083, N1083, st1083⟩ := own_pS X1082 hx hZ hml hown N1082 (ow hw 90 rfl) (ow hw 91 rfl) (ow hw 51 rfl) (ow hw 92 rfl) e1082 (rm21 l Z a0 hw [] c3 h0 n0 Z0) (W := 0) (g := (mkF m 57 #[rv a1, iv 3, iv c3] [(.int c3)])) (argsL := [(.int c3)]) (rest := []) (lenOf pd_0 rfl) (hb hby d12_57)
      obtain ⟨T1084, L1084, X1084, e1084, N1084, st1084⟩ := own_pS X1083 hx hZ hml hown N1083 (ow hw 93 rfl) (ow hw 94 rfl) (ow hw 95 rfl) (ow hw 96 rfl) e1083 (rm22 l Z a0 hw [] c3 h0 n0 Z0) (W := 0) (g := (mkF m 81 #[rv a1, iv 3, iv c3] [(.int c3)])) (argsL := [(.int c3)]) (rest := []) (lenOf pd_0 rfl) (hb hby d12_81)
      obtain ⟨T1085, L1085, X1085, e1085, N1085, st1085⟩ := own_pS X1084 hx hZ hml hown N1084 (ow hw 98 rfl) (ow hw 99 rfl) (ow hw 95 rfl) (ow hw 100 rfl) e1084 (rm23 l Z a0 hw [] c3 h0 n0 Z0) (W := 0) (g := (mkF m 117 #[rv a1, iv 3, iv c3] [(.int c3)])) (argsL := [(.int c3)]) (rest := []) (lenOf pd_0 rfl) (hb hby d12_117)
      obtain ⟨T1086, L1086, X1086, e1086, N1086, st1086⟩ := own_pV X1085 hx hZ hml hown N1085 (ow hw 58 rfl) (ow hw 59 rfl) (notFace_of_selects (args := #[]) (mvT hZ (ow hw 61 rfl))) (ow hw 61 rfl) (ow hw 60 rfl) (ow hw 22 rfl) (ow hw 62 rfl) e1085 (rmLN_4 l Z a0 hw [] a1 c0 c1 c2 c3 cs vf h0 n0 Z0 hS SC hcs SF hvf SA SH SL) (own_Exa4 hS) (W := 1) (g := (mkF m 21 #[rv a1, iv 4, iv c3] [(.ref a1), (.int 4)])) (argsL := []) (rest := [(.int 4)]) (lenOf pd_15 rfl) (hb hby d12_21)
      have pre1087 := own_go pre1078 (T1086.setTop (mkF m 146 #[rv a1, iv 4, iv c3] [])) fun t kt => by
        refine XS.ifYes X1077.here hx rfl (pc0 := 84) (pc' := 116) rfl (hb hby d12_84) rfl ((if0 _ _).trans (teq hc84_1079).1) (by decide) (by decide) ?_
        refine XS.iloadN X1077.here hx rfl (hb hby d12_116) rfl ?_
        refine st1080 _ ?_
        refine XS.ifYes X1080.here hx rfl (pc0 := 120) (pc' := 140) rfl (hb hby d12_120) rfl ((if0 _ _).trans (teq ((own_is _ (by rw [← own_hs]; exact hc84_1079) (Classical.byContradiction fun q => hk2.2.2 (by rw [← own_hs]; exact hc84_1079) q (own_hl _ (hk0.2.1 (by rw [← own_hs]; exact hc84_1033))))) : (own_F23 c2) = (0 : Int32))).1) (by decide) (by decide) ?_
        refine XS.iinc X1080.here hx rfl (hb hby d12_140) rfl (l' := #[rv a1, iv 3, iv c2]) rfl ?_
        refine XS.goto X1080.here hx rfl (pc0 := 143) (pc' := 19) rfl (hb hby d12_143) (by decide) (by decide) ?_
        refine XS.iloadN X1080.here hx rfl (hb hby d12_19) rfl ?_
        refine XS.aloadN X1080.here hx rfl (hb hby d12_20) rfl rfl ?_
        refine st1081 _ ?_
        refine XS.icmpNo X1081.here hx rfl (hb hby d12_24) rfl (tlt (by decide : (3 : Int32) < (4 : Int32))).2.1 ?_
        refine XS.aloadN X1081.here hx rfl (hb hby d12_27) rfl rfl ?_
        refine XS.iloadN X1081.here hx rfl (hb hby d12_28) rfl ?_
        refine st1082 _ ?_
        refine XS.istoreN X1082.here hx rfl (hb hby d12_32) rfl (l' := #[rv a1, iv 3, iv c3]) rfl ?_
        refine XS.iloadN X1082.here hx rfl (hb hby d12_33) rfl ?_
        refine XS.bipush X1082.here hx rfl (hb hby d12_34) ?_
        refine XS.icmpYes X1082.here hx rfl (pc0 := 36) (pc' := 56) rfl (hb hby d12_36) rfl (feq ((own_lb _ hk3.1).1 : ¬ (c3 = (9 : Int32)))).2 (by decide) (by decide) ?_
        refine XS.iloadN X1082.here hx rfl (hb hby d12_56) rfl ?_
        refine st1083 _ ?_
        refine XS.ifYes X1083.here hx rfl (pc0 := 60) (pc' := 80) rfl (hb hby d12_60) rfl ((if0 _ _).trans (teq ((own_lb _ hk3.1).2 : (own_F21 c3) = (0 : Int32))).1) (by decide) (by decide) ?_
        refine XS.iloadN X1083.here hx rfl (hb hby d12_80) rfl ?_
        refine st1084 _ ?_
        refine XS.ifYes X1084.here hx rfl (pc0 := 84) (pc' := 116) rfl (hb hby d12_84) rfl ((if0 _ _).trans (teq ((by rw [own_hs]; exact Classical.byContradiction fun q => hk3.2.1 q) : (own_F22 c3) = (0 : Int32))).1) (by decide) (by decide) ?_
        refine XS.iloadN X1084.here hx rfl (hb hby d12_116) rfl ?_
        refine st1085 _ ?_
        refine XS.ifYes X1085.here hx rfl (pc0 := 120) (pc' := 140) rfl (hb hby d12_120) rfl ((if0 _ _).trans (teq ((own_is _ (Classical.byContradiction fun q => hk3.2.1 q) (Classical.byContradiction fun q => hk3.2.2 (Classical.byContradiction fun q => hk3.2.1 q) q (by rw [← own_hs]; exact hc84_1079))) : (own_F23 c3) = (0 : Int32))).1) (by decide) (by decide) ?_
        refine XS.iinc X1085.here hx rfl (hb hby d12_140) rfl (l' := #[rv a1, iv 4, iv c3]) rfl ?_
        refine XS.goto X1085.here hx rfl (pc0 := 143) (pc' := 19) rfl (hb hby d12_143) (by decide) (by decide) ?_
        refine XS.iloadN X1085.here hx rfl (hb hby d12_19) rfl ?_
        refine XS.aloadN X1085.here hx rfl (hb hby d12_20) rfl rfl ?_
        refine st1086 _ ?_
        refine XS.icmpYes X1086.here hx rfl (pc0 := 24) (pc' := 146) rfl (hb hby d12_24) rfl (flt (by decide : ¬ ((4 : Int32) < (4 : Int32)))).2.1 (by decide) (by decide) ?_
        exact kt
      refine own_lv X1086 Bd.notSynchronized (v := none) (fun _ => rfl) pre1087 (fun fs hr => X1086.returnOut hx Bd.returns (hb hby d12_146) hr) ?_
      show Q12_4 Z a1 c0 c1 c2 c3 cs vf h0 n0 _ T1086.heap _
      rw [e1086]
      exact ⟨rfl, N1086, rfl⟩
    · obtain ⟨T1088, L1088, X1088, e1088, N1088, st1088⟩ := own_pV X1077 hx hZ hml hown N1077 (ow hw 58 rfl) (ow hw 59 rfl) (notFace_of_selects (args := #[]) (mvT hZ (ow hw 61 rfl))) (ow hw 61 rfl) (ow hw 60 rfl) (ow hw 22 rfl) (ow hw 62 rfl) e1077 (rmLN_4 l Z a0 hw [] a1 c0 c1 c2 c3 cs vf h0 n0 Z0 hS SC hcs SF hvf SA SH SL) (own_Exa4 hS) (W := 1) (g := (mkF m 91 #[rv a1, iv 2, iv c2] [(.ref a1), (.int 3)])) (argsL := []) (rest := [(.int 3)]) (lenOf pd_15 rfl) (hb hby d12_91)
      obtain ⟨T1089, L1089, X1089, e1089, N1089, st1089⟩ := own_pV X1088 hx hZ hml hown N1088 (ow hw 68 rfl) (ow hw 69 rfl) (notFace_of_selects (args := #[]) (mvT hZ (ow hw 71 rfl))) (ow hw 71 rfl) (ow hw 70 rfl) (ow hw 22 rfl) (ow hw 72 rfl) e1088 (rmCH_43 l Z a0 hw [] a1 c0 c1 c2 c3 cs vf h0 n0 Z0 hS SC hcs SF hvf SA SH SL) (own_Exa4 hS) (W := 0) (g := (mkF m 101 #[rv a1, iv 2, iv c2] [(.int 3), (.ref a1)])) (argsL := [(.int 3)]) (rest := []) (lenOf pd_16 rfl) (hb hby d12_101)
      obtain ⟨T1090, L1090, X1090, e1090, N1090, st1090⟩ := own_pS X1089 hx hZ hml hown N1089 (ow hw 138 rfl) (ow hw 139 rfl) (ow hw 95 rfl) (ow hw 140 rfl) e1089 (rm32 l Z a0 hw [] c3 h0 n0 Z0) (W := 0) (g := (mkF m 104 #[rv a1, iv 2, iv c2] [(.int c3)])) (argsL := [(.int c3)]) (rest := []) (lenOf pd_0 rfl) (hb hby d12_104)
      obtain ⟨T1091, L1091, X1091, e1091, N1091, st1091⟩ := own_pV X1090 hx hZ hml hown N1090 (ow hw 58 rfl) (ow hw 59 rfl) (notFace_of_selects (args := #[]) (mvT hZ (ow hw 61 rfl))) (ow hw 61 rfl) (ow hw 60 rfl) (ow hw 22 rfl) (ow hw 62 rfl) e1090 (rmLN_4 l Z a0 hw [] a1 c0 c1 c2 c3 cs vf h0 n0 Z0 hS SC hcs SF hvf SA SH SL) (own_Exa4 hS) (W := 1) (g := (mkF m 21 #[rv a1, iv 4, iv c2] [(.ref a1), (.int 4)])) (argsL := []) (rest := [(.int 4)]) (lenOf pd_15 rfl) (hb hby d12_21)
      have pre1092 := own_go pre1078 (T1091.setTop (mkF m 146 #[rv a1, iv 4, iv c2] [])) fun t kt => by
        refine XS.ifNo X1077.here hx rfl (hb hby d12_84) rfl ((if0 _ _).trans (feq hc84_1079).1) ?_
        refine XS.iloadN X1077.here hx rfl (hb hby d12_87) rfl ?_
        refine XS.iconst X1077.here hx rfl (hb hby d12_88) ?_
        refine XS.iadd X1077.here hx rfl (hb hby d12_89) rfl ?_
        refine XS.aloadN X1077.here hx rfl (hb hby d12_90) rfl rfl ?_
        refine st1088 _ ?_
        refine XS.icmpNo X1088.here hx rfl (hb hby d12_94) rfl (tlt (by decide : (3 : Int32) < (4 : Int32))).2.1 ?_
        refine XS.aloadN X1088.here hx rfl (hb hby d12_97) rfl rfl ?_
        refine XS.iloadN X1088.here hx rfl (hb hby d12_98) rfl ?_
        refine XS.iconst X1088.here hx rfl (hb hby d12_99) ?_
        refine XS.iadd X1088.here hx rfl (hb hby d12_100) rfl ?_
        refine st1089 _ ?_
        refine st1090 _ ?_
        refine XS.ifNo X1090.here hx rfl (hb hby d12_107) rfl ((if0 _ _).trans (feq ((by rw [own_ls]; exact hk2.2.1 (by rw [← own_hs]; exact hc84_1079)) : ¬ ((own_F32 c3) = (0 : Int32)))).1) ?_
        refine XS.iinc X1090.here hx rfl (hb hby d12_110) rfl (l' := #[rv a1, iv 3, iv c2]) rfl ?_
        refine XS.goto X1090.here hx rfl (pc0 := 113) (pc' := 140) rfl (hb hby d12_113) (by decide) (by decide) ?_
        refine XS.iinc X1090.here hx rfl (hb hby d12_140) rfl (l' := #[rv a1, iv 4, iv c2]) rfl ?_
        refine XS.goto X1090.here hx rfl (pc0 := 143) (pc' := 19) rfl (hb hby d12_143) (by decide) (by decide) ?_
        refine XS.iloadN X1090.here hx rfl (hb hby d12_19) rfl ?_
        refine XS.aloadN X1090.here hx rfl (hb hby d12_20) rfl rfl ?_
        refine st1091 _ ?_
        refine XS.icmpYes X1091.here hx rfl (pc0 := 24) (pc' := 146) rfl (hb hby d12_24) rfl (flt (by decide : ¬ ((4 : Int32) < (4 : Int32)))).2.1 (by decide) (by decide) ?_
        exact kt
      refine own_lv X1091 Bd.notSynchronized (v := none) (fun _ => rfl) pre1092 (fun fs hr => X1091.returnOut hx Bd.returns (hb hby d12_146) hr) ?_
      show Q12_4 Z a1 c0 c1 c2 c3 cs vf h0 n0 _ T1091.heap _
      rw [e1091]
      exact ⟨rfl, N1091, rfl⟩
theorem own_n3 (x : Int32) (h0 : ¬ (x &&& (3 : Int32)) = (0 : Int32)) (h1 : ¬ (x &&& (3 : Int32)) = (1 : Int32)) (h2 : ¬ (x &&& (3 : Int32)) = (2 : Int32)) : (x &&& (3 : Int32)) = (3 : Int32) := by
  have m1 := c_mask x 3 2 (by decide) (by decide)
  have e : ((2 ^ 2 : Nat) : Int) = 4 := rfl
  have e0 : (0 : Int32).toInt = 0 := rfl
  have e1 : (1 : Int32).toInt = 1 := rfl
  have e2 : (2 : Int32).toInt = 2 := rfl
  have e3 : (3 : Int32).toInt = 3 := rfl
  rw [e] at m1
  rw [← Int32.toInt_inj] at h0 h1 h2 ⊢
  omega
theorem pd_17 : parseMethodDescriptor "([CII)Z" = some ⟨[(.array .char), .int, .int], some .boolean⟩ := by decide +kernel
theorem pd_18 : parseMethodDescriptor "([C)V" = some ⟨[(.array .char)], none⟩ := by decide +kernel
theorem pd_19 : parseMethodDescriptor "(Ljava/lang/String;)V" = some ⟨[(.object "java/lang/String")], none⟩ := by decide +kernel
theorem pn_0 : plainName "com/example/lexiflow/lexiflow/model/IdsCheckPinLaw" = true := by first | (simp [plainName, overriddenIn]; done) | decide +kernel
theorem ef_0 (m : MethodId) (x0 : Int32) (x1 : Int32) (x2 : Int32) (x3 : Int32) (x4 : Int32) : entryFrame m #[(.int x0), (.int x1), (.int x2), (.int x3), (.int x4)] maxLocals = mkF m 0 #[.val (.int x0), .val (.int x1), .val (.int x2), .val (.int x3), .val (.int x4), .unset, .unset, .unset, .unset, .unset, .unset, .unset] [] := by first | (simp [entryFrame, mkF, argsToLocals, Value.category, maxLocals]; done) | rfl
def Q0 (Z : State) (p1 : Int32) (p2 : Int32) (p3 : Int32) (p4 : Int32) (p5 : Int32) (cs : Int32) (vf : Value) (h0 : Heap) (n0 : Nat) (v : Option Value) (h : Heap) (L : List Loc) : Prop := v = some (.int 1) ∧ Fr n0 L ∧ Keep h0 h []
set_option maxRecDepth 65536 in
set_option maxHeartbeats 40000000 in
theorem rm0 (l : Launch) (Z : State) (a0 : Array Value) (hw : own_H a0 Z) (ws : List Jvm.Cond) (p1 : Int32) (p2 : Int32) (p3 : Int32) (p4 : Int32) (p5 : Int32) (cs : Int32) (vf : Value) (h0 : Heap) (n0 : Nat) (Z0 : n0 ≤ h0.size) (P0 : Old Z n0 h0) (R1 : own_SC Z Z.heap cs) (R2 : Sta Z Z.heap "jdk/internal/util/Preconditions" "SIOOBE_FORMATTER" "Ljava/util/function/BiFunction;" vf) (R3 : Sta Z Z.heap "java/lang/StringUTF16" "$assertionsDisabled" "Z" (.int 1)) (R4 : Sta Z Z.heap "java/lang/StringUTF16" "HI_BYTE_SHIFT" "I" (.int 0)) (R5 : Sta Z Z.heap "java/lang/StringUTF16" "LO_BYTE_SHIFT" "I" (.int 8)) (hcs : ¬ cs = (0 : Int32)) (hvf : vf.isRef = true) :
    MetFree l x (head1 (Jvm.Cond.code x code maxLocals ret :: ws) room_1) (fun a U => a = #[(.int p1), (.int p2), (.int p3), (.int p4), (.int p5)] ∧ Z.Warmed39 U.vm ∧ U.heap = h0) (fun _ _ _ _ _ => True) (fun _ U o U' => ∃ v L, o = .returned v ∧ Q0 Z p1 p2 p3 p4 p5 cs vf h0 n0 v U'.heap L ∧ FrameEnd U o U' L room_1.cells room_1.slots) := by
  refine MetFree.of_bodySF (plainFor_of_name pn_0) hisR ?_
  intro p e s m args below meth c s₁ Bd hml0 hP hK
  obtain ⟨rfl, hZ, hh⟩ := hP
  have hx := Bd.exec
  have hby := Bd.bytes
  have hml : c.maxLocals = 12 := hml0
  have hown : s.vm.findClass "com/example/lexiflow/lexiflow/model/IdsCheckPinLaw" = some m.cls := findClass_of_methodNamed Bd.named
  have hnm := (name_of_methodNamed Bd.named Bd.method).1
  have X0 : Stand p l e room_1 s m #[(.int p1), (.int p2), (.int p3), (.int p4), (.int p5)] below meth c s₁ [] 0 0 := Stand.of_body Bd
  have e0 : s₁.heap = h0 := by rw [← hh, Bd.state]; rfl
  have N0 := Fr.nil n0
  have pre0 : ∀ t, Steps p.tables e below (s₁.setTop (mkF m 0 #[iv p1, iv p2, iv p3, iv p4, iv p5, .unset, .unset, .unset, .unset, .unset, .unset, .unset] [])) t → Steps p.tables e below (s₁.setTop (entryFrame m #[(.int p1), (.int p2), (.int p3), (.int p4), (.int p5)] maxLocals)) t := fun t k => castTop (ef_0 m p1 p2 p3 p4 p5) k
  obtain ⟨_, T1093, L1093, X1093, hQ1093, st1093⟩ := own_cS X0 hx hZ hml hown (ow hw 0 rfl) (ow hw 1 rfl) (ow hw 2 rfl) (ow hw 3 rfl) e0 (rm1 l Z a0 hw [] p2 h0 n0 Z0) (W := 0) (g := (mkF m 8 #[iv p1, iv p2, iv p3, iv p4, iv p5, iv ((1 : Int32) + (p1 &&& (3 : Int32))), .unset, .unset, .unset, .unset, .unset, .unset] [(.int p2)])) (argsL := [(.int p2)]) (rest := []) (lenOf pd_16 rfl) (hb hby at_8)
  obtain ⟨z1093, rfl, N1093q, K1093q, hr1093⟩ := hQ1093
  have N1093 := Fr.app N0 N1093q
  have K1093 : Keep h0 T1093.heap [] := (Keep.refl h0 []).trans K1093q all0
  have z1094 : n0 ≤ T1093.heap.size := (Nat.le_trans Z0 (own_ke K1093q).1)
  obtain ⟨_, T1095, L1095, X1095, hQ1095, st1095⟩ := own_cS X1093 hx hZ hml hown (ow hw 0 rfl) (ow hw 1 rfl) (ow hw 2 rfl) (ow hw 3 rfl) rfl (rm1 l Z a0 hw [] p3 T1093.heap n0 z1094) (W := 0) (g := (mkF m 14 #[iv p1, iv p2, iv p3, iv p4, iv p5, iv ((1 : Int32) + (p1 &&& (3 : Int32))), iv z1093, .unset, .unset, .unset, .unset, .unset] [(.int p3)])) (argsL := [(.int p3)]) (rest := []) (lenOf pd_16 rfl) (hb hby at_14)
  obtain ⟨z1095, rfl, N1095q, K1095q, hr1095⟩ := hQ1095
  have N1095 := Fr.app N1093 N1095q
  have K1095 : Keep h0 T1095.heap [] := K1093.trans K1095q all0
  have f1096 := ((P0.ext (own_ke K1093q)).ext (own_ke K1095q))
  have z1097 : n0 ≤ T1095.heap.size := (Nat.le_trans z1094 (own_ke K1095q).1)
  obtain ⟨_, T1098, L1098, X1098, hQ1098, st1098⟩ := own_cS X1095 hx hZ hml hown (ow hw 0 rfl) (ow hw 1 rfl) (ow hw 2 rfl) (ow hw 3 rfl) rfl (rm1 l Z a0 hw [] p4 T1095.heap n0 z1097) (W := 0) (g := (mkF m 20 #[iv p1, iv p2, iv p3, iv p4, iv p5, iv ((1 : Int32) + (p1 &&& (3 : Int32))), iv z1093, iv z1095, .unset, .unset, .unset, .unset] [(.int p4)])) (argsL := [(.int p4)]) (rest := []) (lenOf pd_16 rfl) (hb hby at_20)
  obtain ⟨z1098, rfl, N1098q, K1098q, hr1098⟩ := hQ1098
  have N1098 := Fr.app N1095 N1098q
  have K1098 : Keep h0 T1098.heap [] := K1095.trans K1098q all0
  have z1099 : n0 ≤ T1098.heap.size := (Nat.le_trans z1097 (own_ke K1098q).1)
  obtain ⟨_, T1100, L1100, X1100, hQ1100, st1100⟩ := own_cS X1098 hx hZ hml hown (ow hw 0 rfl) (ow hw 1 rfl) (ow hw 2 rfl) (ow hw 3 rfl) rfl (rm1 l Z a0 hw [] p5 T1098.heap n0 z1099) (W := 0) (g := (mkF m 27 #[iv p1, iv p2, iv p3, iv p4, iv p5, iv ((1 : Int32) + (p1 &&& (3 : Int32))), iv z1093, iv z1095, iv z1098, .unset, .unset, .unset] [(.int p5)])) (argsL := [(.int p5)]) (rest := []) (lenOf pd_16 rfl) (hb hby at_27)
  obtain ⟨z1100, rfl, N1100q, K1100q, hr1100⟩ := hQ1100
  have N1100 := Fr.app N1098 N1100q
  have K1100 : Keep h0 T1100.heap [] := K1098.trans K1100q all0
  have f1101 := ((f1096.ext (own_ke K1098q)).ext (own_ke K1100q))
  have z1102 : n0 ≤ T1100.heap.size := (Nat.le_trans z1099 (own_ke K1100q).1)
  obtain ⟨T1103, h1103, k1103, X1103, e1103, E1103, A1103, st1103⟩ := newP X1100 hx hZ (ow hw 5 rfl) rfl (g := (mkF m 33 #[iv p1, iv p2, iv p3, iv p4, iv p5, iv ((1 : Int32) + (p1 &&& (3 : Int32))), iv z1093, iv z1095, iv z1098, iv z1100, .unset, .unset] [(.int 4)])) rfl (hb hby at_33) rfl (by decide) (cap := 4) (by decide) (by decide) (by decide) (by decide)
  obtain ⟨b1103, g1103⟩ : ∃ z, z = T1100.heap.size := ⟨_, rfl⟩
  rw [← g1103] at A1103 st1103
  have g_b1103 : n0 ≤ b1103 := Nat.le_trans z1102 (Nat.le_of_eq g1103.symm)
  have sz_b1103 : h0.size ≤ b1103 := Nat.le_trans K1100.1 (Nat.le_of_eq g1103.symm)
  have K1103 : Keep h0 h1103 [] := K1100.ext E1103
  have V1103 : Arv Z h1103 b1103 k1103 .char (4 : Int32) [(.int 0), (.int 0), (.int 0), (.int 0)] (.int (0 : Int32)) := (Arv.new A1103 (by decide)).pad (pad_rep [] (.int (0 : Int32)) 4)
  obtain ⟨cl1104, Ar1104, q1104, S1104, N1104z, H1104, G1104⟩ := id V1103
  obtain ⟨T1104, h1104, X1104, e1104, W1104, st1104⟩ := stC X1103 hx hZ e1103 Ar1104 (j := (0 : Int32)) (inb_of S1104 ⟨by decide, by decide⟩) (g := (mkF m 39 #[iv p1, iv p2, iv p3, iv p4, iv p5, iv ((1 : Int32) + (p1 &&& (3 : Int32))), iv z1093, iv z1095, iv z1098, iv z1100, .unset, .unset] [(.int z1093), (.int 0), (.ref b1103), (.ref b1103)])) rfl rfl (hb hby at_39)
  have V1104 : Arv Z h1104 b1103 k1103 .char (4 : Int32) [(.int (nar .char z1093)), (.int 0), (.int 0), (.int 0)] (.int (0 : Int32)) := Arv.set Ar1104 q1104 S1104 N1104z H1104 G1104 (fits_nar_char _) W1104 0 rfl (Nat.le_of_ble_eq_true rfl)
  rw [own_ncz hr1093] at V1104
  have N1104 := Fr.snoc X1104 N1100 g_b1103
  have K1104 : Keep h0 h1104 [] := K1103.wr W1104 (Or.inr sz_b1103)
  have f1105 := ((f1101.ext E1103).wr W1104 g_b1103)
  have z1106 : n0 ≤ h1104.size := (Nat.le_trans (Nat.le_trans z1102 E1103.1) (Keep.of_wr W1104).1)
  obtain ⟨cl1107, Ar1107, q1107, S1107, N1107z, H1107, G1107⟩ := id V1104
  obtain ⟨T1107, h1107, X1107, e1107, W1107, st1107⟩ := stC X1104 hx hZ e1104 Ar1107 (j := (1 : Int32)) (inb_of S1107 ⟨by decide, by decide⟩) (g := (mkF m 44 #[iv p1, iv p2, iv p3, iv p4, iv p5, iv ((1 : Int32) + (p1 &&& (3 : Int32))), iv z1093, iv z1095, iv z1098, iv z1100, .unset, .unset] [(.int z1095), (.int 1), (.ref b1103), (.ref b1103)])) rfl rfl (hb hby at_44)
  have V1107 : Arv Z h1107 b1103 k1103 .char (4 : Int32) [(.int z1093), (.int (nar .char z1095)), (.int 0), (.int 0)] (.int (0 : Int32)) := Arv.set Ar1107 q1107 S1107 N1107z H1107 G1107 (fits_nar_char _) W1107 1 rfl (Nat.le_of_ble_eq_true rfl)
  rw [own_ncz hr1095] at V1107
  have N1107 := Fr.snoc X1107 N1104 g_b1103
  have K1107 : Keep h0 h1107 [] := K1104.wr W1107 (Or.inr sz_b1103)
  have z1108 : n0 ≤ h1107.size := (Nat.le_trans z1106 (Keep.of_wr W1107).1)
  obtain ⟨cl1109, Ar1109, q1109, S1109, N1109z, H1109, G1109⟩ := id V1107
  obtain ⟨T1109, h1109, X1109, e1109, W1109, st1109⟩ := stC X1107 hx hZ e1107 Ar1109 (j := (2 : Int32)) (inb_of S1109 ⟨by decide, by decide⟩) (g := (mkF m 49 #[iv p1, iv p2, iv p3, iv p4, iv p5, iv ((1 : Int32) + (p1 &&& (3 : Int32))), iv z1093, iv z1095, iv z1098, iv z1100, .unset, .unset] [(.int z1098), (.int 2), (.ref b1103), (.ref b1103)])) rfl rfl (hb hby at_49)
  have V1109 : Arv Z h1109 b1103 k1103 .char (4 : Int32) [(.int z1093), (.int z1095), (.int (nar .char z1098)), (.int 0)] (.int (0 : Int32)) := Arv.set Ar1109 q1109 S1109 N1109z H1109 G1109 (fits_nar_char _) W1109 2 rfl (Nat.le_of_ble_eq_true rfl)
  rw [own_ncz hr1098] at V1109
  have N1109 := Fr.snoc X1109 N1107 g_b1103
  have K1109 : Keep h0 h1109 [] := K1107.wr W1109 (Or.inr sz_b1103)
  have f1110 := ((f1105.wr W1107 g_b1103).wr W1109 g_b1103)
  have z1111 : n0 ≤ h1109.size := (Nat.le_trans z1108 (Keep.of_wr W1109).1)
  obtain ⟨cl1112, Ar1112, q1112, S1112, N1112z, H1112, G1112⟩ := id V1109
  obtain ⟨T1112, h1112, X1112, e1112, W1112, st1112⟩ := stC X1109 hx hZ e1109 Ar1112 (j := (3 : Int32)) (inb_of S1112 ⟨by decide, by decide⟩) (g := (mkF m 54 #[iv p1, iv p2, iv p3, iv p4, iv p5, iv ((1 : Int32) + (p1 &&& (3 : Int32))), iv z1093, iv z1095, iv z1098, iv z1100, .unset, .unset] [(.int z1100), (.int 3), (.ref b1103), (.ref b1103)])) rfl rfl (hb hby at_54)
  have V1112 : Arv Z h1112 b1103 k1103 .char (4 : Int32) [(.int z1093), (.int z1095), (.int z1098), (.int (nar .char z1100))] (.int (0 : Int32)) := Arv.set Ar1112 q1112 S1112 N1112z H1112 G1112 (fits_nar_char _) W1112 3 rfl (Nat.le_of_ble_eq_true rfl)
  rw [own_ncz hr1100] at V1112
  have N1112 := Fr.snoc X1112 N1109 g_b1103
  have K1112 : Keep h0 h1112 [] := K1109.wr W1112 (Or.inr sz_b1103)
  have z1113 : n0 ≤ h1112.size := (Nat.le_trans z1111 (Keep.of_wr W1112).1)
  have pre1114 := own_go pre0 (T1112.setTop (mkF m 57 #[iv p1, iv p2, iv p3, iv p4, iv p5, iv ((1 : Int32) + (p1 &&& (3 : Int32))), iv z1093, iv z1095, iv z1098, iv z1100, rv b1103, .unset] [])) fun t kt => by
    refine XS.iconst X0.here hx rfl (hb hby at_0) ?_
    refine XS.iloadN X0.here hx rfl (hb hby at_1) rfl ?_
    refine XS.iconst X0.here hx rfl (hb hby at_2) ?_
    refine XS.iand X0.here hx rfl (hb hby at_3) rfl ?_
    refine XS.iadd X0.here hx rfl (hb hby at_4) rfl ?_
    refine XS.istore X0.here hx rfl (hb hby at_5) rfl (l' := #[iv p1, iv p2, iv p3, iv p4, iv p5, iv ((1 : Int32) + (p1 &&& (3 : Int32))), .unset, .unset, .unset, .unset, .unset, .unset]) rfl ?_
    refine XS.iloadN X0.here hx rfl (hb hby at_7) rfl ?_
    refine st1093 _ ?_
    refine XS.istore X1093.here hx rfl (hb hby at_11) rfl (l' := #[iv p1, iv p2, iv p3, iv p4, iv p5, iv ((1 : Int32) + (p1 &&& (3 : Int32))), iv z1093, .unset, .unset, .unset, .unset, .unset]) rfl ?_
    refine XS.iloadN X1093.here hx rfl (hb hby at_13) rfl ?_
    refine st1095 _ ?_
    refine XS.istore X1095.here hx rfl (hb hby at_17) rfl (l' := #[iv p1, iv p2, iv p3, iv p4, iv p5, iv ((1 : Int32) + (p1 &&& (3 : Int32))), iv z1093, iv z1095, .unset, .unset, .unset, .unset]) rfl ?_
    refine XS.iloadN X1095.here hx rfl (hb hby at_19) rfl ?_
    refine st1098 _ ?_
    refine XS.istore X1098.here hx rfl (hb hby at_23) rfl (l' := #[iv p1, iv p2, iv p3, iv p4, iv p5, iv ((1 : Int32) + (p1 &&& (3 : Int32))), iv z1093, iv z1095, iv z1098, .unset, .unset, .unset]) rfl ?_
    refine XS.iload X1098.here hx rfl (hb hby at_25) rfl ?_
    refine st1100 _ ?_
    refine XS.istore X1100.here hx rfl (hb hby at_30) rfl (l' := #[iv p1, iv p2, iv p3, iv p4, iv p5, iv ((1 : Int32) + (p1 &&& (3 : Int32))), iv z1093, iv z1095, iv z1098, iv z1100, .unset, .unset]) rfl ?_
    refine XS.iconst X1100.here hx rfl (hb hby at_32) ?_
    refine st1103 _ ?_
    refine XS.dup X1103.here hx rfl (hb hby at_35) rfl rfl ?_
    refine XS.iconst X1103.here hx rfl (hb hby at_36) ?_
    refine XS.iload X1103.here hx rfl (hb hby at_37) rfl ?_
    refine st1104 _ ?_
    refine XS.dup X1104.here hx rfl (hb hby at_40) rfl rfl ?_
    refine XS.iconst X1104.here hx rfl (hb hby at_41) ?_
    refine XS.iload X1104.here hx rfl (hb hby at_42) rfl ?_
    refine st1107 _ ?_
    refine XS.dup X1107.here hx rfl (hb hby at_45) rfl rfl ?_
    refine XS.iconst X1107.here hx rfl (hb hby at_46) ?_
    refine XS.iload X1107.here hx rfl (hb hby at_47) rfl ?_
    refine st1109 _ ?_
    refine XS.dup X1109.here hx rfl (hb hby at_50) rfl rfl ?_
    refine XS.iconst X1109.here hx rfl (hb hby at_51) ?_
    refine XS.iload X1109.here hx rfl (hb hby at_52) rfl ?_
    refine st1112 _ ?_
    refine XS.astore X1112.here hx rfl (hb hby at_55) rfl rfl (l' := #[iv p1, iv p2, iv p3, iv p4, iv p5, iv ((1 : Int32) + (p1 &&& (3 : Int32))), iv z1093, iv z1095, iv z1098, iv z1100, rv b1103, .unset]) rfl ?_
    exact kt
  by_cases hk1115 : (p1 &&& (3 : Int32)) = (0 : Int32)
  · have pre1116 := own_go pre1114 (T1112.setTop (mkF m 57 #[iv p1, iv p2, iv p3, iv p4, iv p5, iv 1, iv z1093, iv z1095, iv z1098, iv z1100, rv b1103, .unset] [])) fun t kt => by
      rw [(show ((1 : Int32) + (p1 &&& (3 : Int32))) = (1 : Int32) by rw [hk1115]; rfl)]
      exact kt
    obtain ⟨T1117, L1117, X1117, e1117, N1117, st1117⟩ := own_pS X1112 hx hZ hml hown N1112 (ow hw 6 rfl) (ow hw 7 rfl) (ow hw 2 rfl) (ow hw 8 rfl) e1112 (rm2_B0 l Z a0 hw [] b1103 (1 : Int32) k1103 z1093 z1095 z1098 z1100 h1112 n0 z1113 V1112 (by decide) (by decide)) (W := 0) (g := (mkF m 62 #[iv p1, iv p2, iv p3, iv p4, iv p5, iv 1, iv z1093, iv z1095, iv z1098, iv z1100, rv b1103, .unset] [(.int 0), (.int 1), (.ref b1103)])) (argsL := [(.ref b1103), (.int 1), (.int 0)]) (rest := []) (lenOf pd_17 rfl) (hb hby at_62)
    have pre1118 := own_go pre1116 (T1117.setTop (mkF m 65 #[iv p1, iv p2, iv p3, iv p4, iv p5, iv 1, iv z1093, iv z1095, iv z1098, iv z1100, rv b1103, .unset] [(.int (own_F2_B0 b1103 (1 : Int32) k1103 z1093 z1095 z1098 z1100))])) fun t kt => by
      refine XS.aload X1112.here hx rfl (hb hby at_57) rfl rfl ?_
      refine XS.iload X1112.here hx rfl (hb hby at_59) rfl ?_
      refine XS.iconst X1112.here hx rfl (hb hby at_61) ?_
      refine st1117 _ ?_
      exact kt
    by_cases hc65_1119 : (own_F2_B0 b1103 (1 : Int32) k1103 z1093 z1095 z1098 z1100) = (0 : Int32)
    · have pre1120 := own_go pre1118 (T1117.setTop (mkF m 102 #[iv p1, iv p2, iv p3, iv p4, iv p5, iv 1, iv z1093, iv z1095, iv z1098, iv z1100, rv b1103, .unset] [(.int 1)])) fun t kt => by
        refine XS.ifYes X1117.here hx rfl (pc0 := 65) (pc' := 101) rfl (hb hby at_65) rfl ((if0 _ _).trans (teq hc65_1119).1) (by decide) (by decide) ?_
        refine XS.iconst X1117.here hx rfl (hb hby at_101) ?_
        exact kt
      obtain ⟨fs, hr, hrun, hended, hW, hsame⟩ := X1117.leave (v := some (.int 1)) (fun h => by rw [Bd.returns] at h; cases h)
      refine ⟨_, _, pre1120 _ ?_, hrun, hended, _, _, rfl, ?_, ⟨_, rfl⟩, hW, hsame.mono (by decide) (by decide)⟩
      · exact retN X1117 hx (t := .boolean) Bd.returns (by simp) (hb hby at_102) hr
      · show Q0 Z p1 p2 p3 p4 p5 cs vf h0 n0 _ T1117.heap _
        rw [e1117]
        exact ⟨rfl, N1117, K1112⟩
    · obtain ⟨T1121, L1121, X1121, e1121, N1121, st1121⟩ := own_pS X1117 hx hZ hml hown N1117 (ow hw 6 rfl) (ow hw 7 rfl) (ow hw 2 rfl) (ow hw 8 rfl) e1117 (rm2_C1 l Z a0 hw [] b1103 (1 : Int32) k1103 z1093 z1095 z1098 z1100 h1112 n0 z1113 V1112 (by decide)) (W := 0) (g := (mkF m 73 #[iv p1, iv p2, iv p3, iv p4, iv p5, iv 1, iv z1093, iv z1095, iv z1098, iv z1100, rv b1103, .unset] [(.int 1), (.int 1), (.ref b1103)])) (argsL := [(.ref b1103), (.int 1), (.int 1)]) (rest := []) (lenOf pd_17 rfl) (hb hby at_73)
      obtain ⟨T1122, L1122, X1122, e1122, N1122, st1122⟩ := own_pS X1121 hx hZ hml hown N1121 (ow hw 6 rfl) (ow hw 7 rfl) (ow hw 2 rfl) (ow hw 8 rfl) e1121 (rm2_C2 l Z a0 hw [] b1103 (1 : Int32) k1103 z1093 z1095 z1098 z1100 h1112 n0 z1113 V1112 (by decide)) (W := 0) (g := (mkF m 84 #[iv p1, iv p2, iv p3, iv p4, iv p5, iv 1, iv z1093, iv z1095, iv z1098, iv z1100, rv b1103, .unset] [(.int 2), (.int 1), (.ref b1103)])) (argsL := [(.ref b1103), (.int 1), (.int 2)]) (rest := []) (lenOf pd_17 rfl) (hb hby at_84)
      obtain ⟨T1123, L1123, X1123, e1123, N1123, st1123⟩ := own_pS X1122 hx hZ hml hown N1122 (ow hw 6 rfl) (ow hw 7 rfl) (ow hw 2 rfl) (ow hw 8 rfl) e1122 (rm2_C3 l Z a0 hw [] b1103 (1 : Int32) k1103 z1093 z1095 z1098 z1100 h1112 n0 z1113 V1112 (by decide)) (W := 0) (g := (mkF m 95 #[iv p1, iv p2, iv p3, iv p4, iv p5, iv 1, iv z1093, iv z1095, iv z1098, iv z1100, rv b1103, .unset] [(.int 3), (.int 1), (.ref b1103)])) (argsL := [(.ref b1103), (.int 1), (.int 3)]) (rest := []) (lenOf pd_17 rfl) (hb hby at_95)
      obtain ⟨T1124, h1124, X1124, e1124, E1124, A1124, D1124, -, st1124⟩ := newO X1123 hx hZ hown (ow hw 20 rfl) (ow hw 21 rfl) (ow hw 22 rfl) e1123 (g := (mkF m 109 #[iv p1, iv p2, iv p3, iv p4, iv p5, iv 1, iv z1093, iv z1095, iv z1098, iv z1100, rv b1103, .unset] [])) rfl (hb hby at_109) (by decide) (by decide)
      obtain ⟨b1124, g1124⟩ : ∃ z, z = h1112.size := ⟨_, rfl⟩
      rw [← g1124] at A1124 D1124 st1124
      have ne1125 : b1103 ≠ b1124 := Nat.ne_of_lt (Nat.lt_of_lt_of_le V1112.lt (Nat.le_of_eq g1124.symm))
      have g_b1124 : n0 ≤ b1124 := Nat.le_trans z1113 (Nat.le_of_eq g1124.symm)
      have sz_b1124 : h0.size ≤ b1124 := Nat.le_trans K1112.1 (Nat.le_of_eq g1124.symm)
      have K1124 : Keep h0 h1124 [] := K1112.ext E1124
      have f1126 : Fld Z h1124 b1124 "java/lang/String" "coder" "B" (.int 0) := D1124 (Or.inr (ow hw 46 rfl)) (ty := .byte) (by decide)
      have f1127 : Fld Z h1124 b1124 "java/lang/String" "value" "[B" .null := D1124 (Or.inr (ow hw 48 rfl)) (ty := (.array .byte)) (by decide)
      have f1128 := ((f1110.wr W1112 g_b1103).ext E1124)
      obtain ⟨T1129, h1129, k1129, X1129, e1129, E1129, A1129, st1129⟩ := newP X1124 hx hZ (ow hw 5 rfl) e1124 (g := (mkF m 114 #[iv p1, iv p2, iv p3, iv p4, iv p5, iv 1, iv z1093, iv z1095, iv z1098, iv z1100, rv b1103, .unset] [(.int 1), (.ref b1124), (.ref b1124)])) rfl (hb hby at_114) rfl (by decide) (cap := 1) (by decide) (by decide) (by decide) (by decide)
      obtain ⟨b1129, g1129⟩ : ∃ z, z = h1124.size := ⟨_, rfl⟩
      rw [← g1129] at A1129 st1129
      have ne1130 : b1103 ≠ b1129 := Nat.ne_of_lt (Nat.lt_of_lt_of_le (V1112.ext E1124).lt (Nat.le_of_eq g1129.symm))
      have ne1131 : b1124 ≠ b1129 := Nat.ne_of_lt (Nat.lt_of_lt_of_le A1124.lt (Nat.le_of_eq g1129.symm))
      have g_b1129 : n0 ≤ b1129 := Nat.le_trans (Nat.le_trans z1113 E1124.1) (Nat.le_of_eq g1129.symm)
      have sz_b1129 : h0.size ≤ b1129 := Nat.le_trans K1124.1 (Nat.le_of_eq g1129.symm)
      have K1129 : Keep h0 h1129 [] := K1124.ext E1129
      have V1129 : Arv Z h1129 b1129 k1129 .char (1 : Int32) [(.int 0)] (.int (0 : Int32)) := (Arv.new A1129 (by decide)).pad (pad_rep [] (.int (0 : Int32)) 1)
      have z1132 : n0 ≤ h1129.size := (Nat.le_trans (Nat.le_trans z1113 E1124.1) E1129.1)
      obtain ⟨cl1133, Ar1133, q1133, S1133, N1133z, H1133, G1133⟩ := id V1129
      obtain ⟨T1133, h1133, X1133, e1133, W1133, st1133⟩ := stC X1129 hx hZ e1129 Ar1133 (j := (0 : Int32)) (inb_of S1133 ⟨by decide, by decide⟩) (g := (mkF m 120 #[iv p1, iv p2, iv p3, iv p4, iv p5, iv 1, iv z1093, iv z1095, iv z1098, iv z1100, rv b1103, .unset] [(.int z1093), (.int 0), (.ref b1129), (.ref b1129), (.ref b1124), (.ref b1124)])) rfl rfl (hb hby at_120)
      have V1133 : Arv Z h1133 b1129 k1129 .char (1 : Int32) [(.int (nar .char z1093))] (.int (0 : Int32)) := Arv.set Ar1133 q1133 S1133 N1133z H1133 G1133 (fits_nar_char _) W1133 0 rfl (Nat.le_of_ble_eq_true rfl)
      rw [own_ncz hr1093] at V1133
      have N1133 := Fr.snoc X1133 N1123 g_b1129
      have K1133 : Keep h0 h1133 [] := K1129.wr W1133 (Or.inr sz_b1129)
      have f1134 := ((f1128.ext E1129).wr W1133 g_b1129)
      have f1135 := (((V1112.ext E1124).ext E1129).other W1133 ne1130)
      have f1136 := ((f1126.ext E1129).other W1133 (Or.inl ne1131))
      have f1137 := ((f1127.ext E1129).other W1133 (Or.inl ne1131))
      have z1138 : n0 ≤ h1133.size := (Nat.le_trans z1132 (Keep.of_wr W1133).1)
      obtain ⟨_, T1139, L1139, X1139, hQ1139, st1139⟩ := own_cI X1133 hx hZ hml hown rfl (ow hw 23 rfl) (ow hw 24 rfl) (ow hw 22 rfl) (ow hw 25 rfl) e1133 (rmNS_1 l Z a0 hw [] b1124 b1129 k1129 z1093 cs h1133 n0 z1138 ((A1124.ext E1129).wr W1133) f1137 f1136 V1133 f1134 R1 R3 R4 R5 (Ne.symm ne1131) g_b1124 hcs hr1093) (W := 1) (g := (mkF m 121 #[iv p1, iv p2, iv p3, iv p4, iv p5, iv 1, iv z1093, iv z1095, iv z1098, iv z1100, rv b1103, .unset] [(.ref b1129), (.ref b1124), (.ref b1124)])) (argsL := [(.ref b1129)]) (rest := [(.ref b1124)]) (lenOf pd_18 rfl) (hb hby at_121)
      obtain ⟨rfl, N1139q, K1139q, hS1139⟩ := hQ1139
      have N1139 := Fr.app N1133 N1139q
      have K1139 : Keep h0 T1139.heap [] := K1133.trans K1139q (allS (Or.inr sz_b1124) all0)
      have f1140 := (f1134.keep K1139q (allS g_b1124 all0))
      have f1141 := (f1135.keep K1139q (ninS ne1125 nin0))
      have f1142 := (((A1124.ext E1129).wr W1133).keep K1139q)
      have f1143 := (V1133.keep K1139q (ninS (Ne.symm ne1131) nin0))
      obtain ⟨T1144, L1144, X1144, e1144, N1144, st1144⟩ := own_pS X1139 hx hZ hml hown N1139 (ow hw 49 rfl) (ow hw 50 rfl) (ow hw 51 rfl) (ow hw 52 rfl) rfl (rm12_1 l Z a0 hw [] b1124 z1093 cs vf T1139.heap n0 (Nat.le_trans z1138 K1139q.1) hS1139 (R1.ext f1140.2) hcs (R2.ext f1140.2) hvf (R3.ext f1140.2) (R4.ext f1140.2) (R5.ext f1140.2) (own_p_B0 hc65_1119)) (W := 0) (g := (mkF m 230 #[iv p1, iv p2, iv p3, iv p4, iv p5, iv 1, iv z1093, iv z1095, iv z1098, iv z1100, rv b1103, rv b1124] [(.ref b1124)])) (argsL := [(.ref b1124)]) (rest := []) (lenOf pd_19 rfl) (hb hby at_230)
      obtain ⟨T1145, L1145, X1145, e1145, N1145, st1145⟩ := own_pV X1144 hx hZ hml hown N1144 (ow hw 101 rfl) (ow hw 59 rfl) (notFace_of_selects (args := #[]) (mvT hZ (ow hw 61 rfl))) (ow hw 61 rfl) (ow hw 60 rfl) (ow hw 22 rfl) (ow hw 62 rfl) e1144 (rmLN_1 l Z a0 hw [] b1124 z1093 cs vf T1139.heap n0 (Nat.le_trans z1138 K1139q.1) hS1139 (R1.ext f1140.2) hcs (R2.ext f1140.2) hvf (R3.ext f1140.2) (R4.ext f1140.2) (R5.ext f1140.2)) (own_Exa1 hS1139) (W := 0) (g := (mkF m 235 #[iv p1, iv p2, iv p3, iv p4, iv p5, iv 1, iv z1093, iv z1095, iv z1098, iv z1100, rv b1103, rv b1124] [(.ref b1124)])) (argsL := []) (rest := []) (lenOf pd_15 rfl) (hb hby at_235)
      have pre1146 := own_go pre1118 (T1145.setTop (mkF m 248 #[iv p1, iv p2, iv p3, iv p4, iv p5, iv 1, iv z1093, iv z1095, iv z1098, iv z1100, rv b1103, rv b1124] [(.int 1)])) fun t kt => by
        refine XS.ifNo X1117.here hx rfl (hb hby at_65) rfl ((if0 _ _).trans (feq hc65_1119).1) ?_
        refine XS.aload X1117.here hx rfl (hb hby at_68) rfl rfl ?_
        refine XS.iload X1117.here hx rfl (hb hby at_70) rfl ?_
        refine XS.iconst X1117.here hx rfl (hb hby at_72) ?_
        refine st1121 _ ?_
        refine XS.ifNo X1121.here hx rfl (hb hby at_76) rfl ((if0 _ _).trans (feq (by decide : ¬ ((1 : Int32) = (0 : Int32)))).1) ?_
        refine XS.aload X1121.here hx rfl (hb hby at_79) rfl rfl ?_
        refine XS.iload X1121.here hx rfl (hb hby at_81) rfl ?_
        refine XS.iconst X1121.here hx rfl (hb hby at_83) ?_
        refine st1122 _ ?_
        refine XS.ifNo X1122.here hx rfl (hb hby at_87) rfl ((if0 _ _).trans (feq (by decide : ¬ ((1 : Int32) = (0 : Int32)))).1) ?_
        refine XS.aload X1122.here hx rfl (hb hby at_90) rfl rfl ?_
        refine XS.iload X1122.here hx rfl (hb hby at_92) rfl ?_
        refine XS.iconst X1122.here hx rfl (hb hby at_94) ?_
        refine st1123 _ ?_
        refine XS.ifYes X1123.here hx rfl (pc0 := 98) (pc' := 103) rfl (hb hby at_98) rfl ((if0 _ _).trans (feq (by decide : ¬ ((1 : Int32) = (0 : Int32)))).2) (by decide) (by decide) ?_
        refine XS.iload X1123.here hx rfl (hb hby at_103) rfl ?_
        refine XS.iconst X1123.here hx rfl (hb hby at_105) ?_
        refine XS.icmpNo X1123.here hx rfl (hb hby at_106) rfl (teq (by decide : (1 : Int32) = (1 : Int32))).2 ?_
        refine st1124 _ ?_
        refine XS.dup X1124.here hx rfl (hb hby at_112) rfl rfl ?_
        refine XS.iconst X1124.here hx rfl (hb hby at_113) ?_
        refine st1129 _ ?_
        refine XS.dup X1129.here hx rfl (hb hby at_116) rfl rfl ?_
        refine XS.iconst X1129.here hx rfl (hb hby at_117) ?_
        refine XS.iload X1129.here hx rfl (hb hby at_118) rfl ?_
        refine st1133 _ ?_
        refine st1139 _ ?_
        refine XS.astore X1139.here hx rfl (hb hby at_124) rfl rfl (l' := #[iv p1, iv p2, iv p3, iv p4, iv p5, iv 1, iv z1093, iv z1095, iv z1098, iv z1100, rv b1103, rv b1124]) rfl ?_
        refine XS.goto X1139.here hx rfl (pc0 := 126) (pc' := 228) rfl (hb hby at_126) (by decide) (by decide) ?_
        refine XS.aload X1139.here hx rfl (hb hby at_228) rfl rfl ?_
        refine st1144 _ ?_
        refine XS.aload X1144.here hx rfl (hb hby at_233) rfl rfl ?_
        refine st1145 _ ?_
        refine XS.iload X1145.here hx rfl (hb hby at_238) rfl ?_
        refine XS.icmpNo X1145.here hx rfl (hb hby at_240) rfl (teq (by decide : (1 : Int32) = (1 : Int32))).2 ?_
        refine XS.iconst X1145.here hx rfl (hb hby at_243) ?_
        refine XS.goto X1145.here hx rfl (pc0 := 244) (pc' := 248) rfl (hb hby at_244) (by decide) (by decide) ?_
        exact kt
      obtain ⟨fs, hr, hrun, hended, hW, hsame⟩ := X1145.leave (v := some (.int 1)) (fun h => by rw [Bd.returns] at h; cases h)
      refine ⟨_, _, pre1146 _ ?_, hrun, hended, _, _, rfl, ?_, ⟨_, rfl⟩, hW, hsame.mono (by decide) (by decide)⟩
      · exact retN X1145 hx (t := .boolean) Bd.returns (by simp) (hb hby at_248) hr
      · show Q0 Z p1 p2 p3 p4 p5 cs vf h0 n0 _ T1145.heap _
        rw [e1145]
        exact ⟨rfl, N1145, K1139⟩
  · by_cases hk1147 : (p1 &&& (3 : Int32)) = (1 : Int32)
    · have pre1148 := own_go pre1114 (T1112.setTop (mkF m 57 #[iv p1, iv p2, iv p3, iv p4, iv p5, iv 2, iv z1093, iv z1095, iv z1098, iv z1100, rv b1103, .unset] [])) fun t kt => by
        rw [(show ((1 : Int32) + (p1 &&& (3 : Int32))) = (2 : Int32) by rw [hk1147]; rfl)]
        exact kt
      obtain ⟨T1149, L1149, X1149, e1149, N1149, st1149⟩ := own_pS X1112 hx hZ hml hown N1112 (ow hw 6 rfl) (ow hw 7 rfl) (ow hw 2 rfl) (ow hw 8 rfl) e1112 (rm2_A0 l Z a0 hw [] b1103 (2 : Int32) k1103 z1093 z1095 z1098 z1100 h1112 n0 z1113 V1112 (by decide) (by decide)) (W := 0) (g := (mkF m 62 #[iv p1, iv p2, iv p3, iv p4, iv p5, iv 2, iv z1093, iv z1095, iv z1098, iv z1100, rv b1103, .unset] [(.int 0), (.int 2), (.ref b1103)])) (argsL := [(.ref b1103), (.int 2), (.int 0)]) (rest := []) (lenOf pd_17 rfl) (hb hby at_62)
      have pre1150 := own_go pre1148 (T1149.setTop (mkF m 65 #[iv p1, iv p2, iv p3, iv p4, iv p5, iv 2, iv z1093, iv z1095, iv z1098, iv z1100, rv b1103, .unset] [(.int (own_F2_A0 b1103 (2 : Int32) k1103 z1093 z1095 z1098 z1100))])) fun t kt => by
        refine XS.aload X1112.here hx rfl (hb hby at_57) rfl rfl ?_
        refine XS.iload X1112.here hx rfl (hb hby at_59) rfl ?_
        refine XS.iconst X1112.here hx rfl (hb hby at_61) ?_
        refine st1149 _ ?_
        exact kt
      by_cases hc65_1151 : (own_F2_A0 b1103 (2 : Int32) k1103 z1093 z1095 z1098 z1100) = (0 : Int32)
      · have pre1152 := own_go pre1150 (T1149.setTop (mkF m 102 #[iv p1, iv p2, iv p3, iv p4, iv p5, iv 2, iv z1093, iv z1095, iv z1098, iv z1100, rv b1103, .unset] [(.int 1)])) fun t kt => by
          refine XS.ifYes X1149.here hx rfl (pc0 := 65) (pc' := 101) rfl (hb hby at_65) rfl ((if0 _ _).trans (teq hc65_1151).1) (by decide) (by decide) ?_
          refine XS.iconst X1149.here hx rfl (hb hby at_101) ?_
          exact kt
        obtain ⟨fs, hr, hrun, hended, hW, hsame⟩ := X1149.leave (v := some (.int 1)) (fun h => by rw [Bd.returns] at h; cases h)
        refine ⟨_, _, pre1152 _ ?_, hrun, hended, _, _, rfl, ?_, ⟨_, rfl⟩, hW, hsame.mono (by decide) (by decide)⟩
        · exact retN X1149 hx (t := .boolean) Bd.returns (by simp) (hb hby at_102) hr
        · show Q0 Z p1 p2 p3 p4 p5 cs vf h0 n0 _ T1149.heap _
          rw [e1149]
          exact ⟨rfl, N1149, K1112⟩
      · obtain ⟨T1153, L1153, X1153, e1153, N1153, st1153⟩ := own_pS X1149 hx hZ hml hown N1149 (ow hw 6 rfl) (ow hw 7 rfl) (ow hw 2 rfl) (ow hw 8 rfl) e1149 (rm2_B1 l Z a0 hw [] b1103 (2 : Int32) k1103 z1093 z1095 z1098 z1100 h1112 n0 z1113 V1112 (by decide) (by decide)) (W := 0) (g := (mkF m 73 #[iv p1, iv p2, iv p3, iv p4, iv p5, iv 2, iv z1093, iv z1095, iv z1098, iv z1100, rv b1103, .unset] [(.int 1), (.int 2), (.ref b1103)])) (argsL := [(.ref b1103), (.int 2), (.int 1)]) (rest := []) (lenOf pd_17 rfl) (hb hby at_73)
        have pre1154 := own_go pre1150 (T1153.setTop (mkF m 76 #[iv p1, iv p2, iv p3, iv p4, iv p5, iv 2, iv z1093, iv z1095, iv z1098, iv z1100, rv b1103, .unset] [(.int (own_F2_B1 b1103 (2 : Int32) k1103 z1093 z1095 z1098 z1100))])) fun t kt => by
          refine XS.ifNo X1149.here hx rfl (hb hby at_65) rfl ((if0 _ _).trans (feq hc65_1151).1) ?_
          refine XS.aload X1149.here hx rfl (hb hby at_68) rfl rfl ?_
          refine XS.iload X1149.here hx rfl (hb hby at_70) rfl ?_
          refine XS.iconst X1149.here hx rfl (hb hby at_72) ?_
          refine st1153 _ ?_
          exact kt
        by_cases hc76_1155 : (own_F2_B1 b1103 (2 : Int32) k1103 z1093 z1095 z1098 z1100) = (0 : Int32)
        · have pre1156 := own_go pre1154 (T1153.setTop (mkF m 102 #[iv p1, iv p2, iv p3, iv p4, iv p5, iv 2, iv z1093, iv z1095, iv z1098, iv z1100, rv b1103, .unset] [(.int 1)])) fun t kt => by
            refine XS.ifYes X1153.here hx rfl (pc0 := 76) (pc' := 101) rfl (hb hby at_76) rfl ((if0 _ _).trans (teq hc76_1155).1) (by decide) (by decide) ?_
            refine XS.iconst X1153.here hx rfl (hb hby at_101) ?_
            exact kt
          obtain ⟨fs, hr, hrun, hended, hW, hsame⟩ := X1153.leave (v := some (.int 1)) (fun h => by rw [Bd.returns] at h; cases h)
          refine ⟨_, _, pre1156 _ ?_, hrun, hended, _, _, rfl, ?_, ⟨_, rfl⟩, hW, hsame.mono (by decide) (by decide)⟩
          · exact retN X1153 hx (t := .boolean) Bd.returns (by simp) (hb hby at_102) hr
          · show Q0 Z p1 p2 p3 p4 p5 cs vf h0 n0 _ T1153.heap _
            rw [e1153]
            exact ⟨rfl, N1153, K1112⟩
        · obtain ⟨T1157, L1157, X1157, e1157, N1157, st1157⟩ := own_pS X1153 hx hZ hml hown N1153 (ow hw 6 rfl) (ow hw 7 rfl) (ow hw 2 rfl) (ow hw 8 rfl) e1153 (rm2_C2 l Z a0 hw [] b1103 (2 : Int32) k1103 z1093 z1095 z1098 z1100 h1112 n0 z1113 V1112 (by decide)) (W := 0) (g := (mkF m 84 #[iv p1, iv p2, iv p3, iv p4, iv p5, iv 2, iv z1093, iv z1095, iv z1098, iv z1100, rv b1103, .unset] [(.int 2), (.int 2), (.ref b1103)])) (argsL := [(.ref b1103), (.int 2), (.int 2)]) (rest := []) (lenOf pd_17 rfl) (hb hby at_84)
          obtain ⟨T1158, L1158, X1158, e1158, N1158, st1158⟩ := own_pS X1157 hx hZ hml hown N1157 (ow hw 6 rfl) (ow hw 7 rfl) (ow hw 2 rfl) (ow hw 8 rfl) e1157 (rm2_C3 l Z a0 hw [] b1103 (2 : Int32) k1103 z1093 z1095 z1098 z1100 h1112 n0 z1113 V1112 (by decide)) (W := 0) (g := (mkF m 95 #[iv p1, iv p2, iv p3, iv p4, iv p5, iv 2, iv z1093, iv z1095, iv z1098, iv z1100, rv b1103, .unset] [(.int 3), (.int 2), (.ref b1103)])) (argsL := [(.ref b1103), (.int 2), (.int 3)]) (rest := []) (lenOf pd_17 rfl) (hb hby at_95)
          obtain ⟨T1159, h1159, X1159, e1159, E1159, A1159, D1159, -, st1159⟩ := newO X1158 hx hZ hown (ow hw 20 rfl) (ow hw 21 rfl) (ow hw 22 rfl) e1158 (g := (mkF m 135 #[iv p1, iv p2, iv p3, iv p4, iv p5, iv 2, iv z1093, iv z1095, iv z1098, iv z1100, rv b1103, .unset] [])) rfl (hb hby at_135) (by decide) (by decide)
          obtain ⟨b1159, g1159⟩ : ∃ z, z = h1112.size := ⟨_, rfl⟩
          rw [← g1159] at A1159 D1159 st1159
          have ne1160 : b1103 ≠ b1159 := Nat.ne_of_lt (Nat.lt_of_lt_of_le V1112.lt (Nat.le_of_eq g1159.symm))
          have g_b1159 : n0 ≤ b1159 := Nat.le_trans z1113 (Nat.le_of_eq g1159.symm)
          have sz_b1159 : h0.size ≤ b1159 := Nat.le_trans K1112.1 (Nat.le_of_eq g1159.symm)
          have K1159 : Keep h0 h1159 [] := K1112.ext E1159
          have f1161 : Fld Z h1159 b1159 "java/lang/String" "coder" "B" (.int 0) := D1159 (Or.inr (ow hw 46 rfl)) (ty := .byte) (by decide)
          have f1162 : Fld Z h1159 b1159 "java/lang/String" "value" "[B" .null := D1159 (Or.inr (ow hw 48 rfl)) (ty := (.array .byte)) (by decide)
          have f1163 := ((f1110.wr W1112 g_b1103).ext E1159)
          obtain ⟨T1164, h1164, k1164, X1164, e1164, E1164, A1164, st1164⟩ := newP X1159 hx hZ (ow hw 5 rfl) e1159 (g := (mkF m 140 #[iv p1, iv p2, iv p3, iv p4, iv p5, iv 2, iv z1093, iv z1095, iv z1098, iv z1100, rv b1103, .unset] [(.int 2), (.ref b1159), (.ref b1159)])) rfl (hb hby at_140) rfl (by decide) (cap := 2) (by decide) (by decide) (by decide) (by decide)
          obtain ⟨b1164, g1164⟩ : ∃ z, z = h1159.size := ⟨_, rfl⟩
          rw [← g1164] at A1164 st1164
          have ne1165 : b1103 ≠ b1164 := Nat.ne_of_lt (Nat.lt_of_lt_of_le (V1112.ext E1159).lt (Nat.le_of_eq g1164.symm))
          have ne1166 : b1159 ≠ b1164 := Nat.ne_of_lt (Nat.lt_of_lt_of_le A1159.lt (Nat.le_of_eq g1164.symm))
          have g_b1164 : n0 ≤ b1164 := Nat.le_trans (Nat.le_trans z1113 E1159.1) (Nat.le_of_eq g1164.symm)
          have sz_b1164 : h0.size ≤ b1164 := Nat.le_trans K1159.1 (Nat.le_of_eq g1164.symm)
          have K1164 : Keep h0 h1164 [] := K1159.ext E1164
          have V1164 : Arv Z h1164 b1164 k1164 .char (2 : Int32) [(.int 0), (.int 0)] (.int (0 : Int32)) := (Arv.new A1164 (by decide)).pad (pad_rep [] (.int (0 : Int32)) 2)
          have z1167 : n0 ≤ h1164.size := (Nat.le_trans (Nat.le_trans z1113 E1159.1) E1164.1)
          obtain ⟨cl1168, Ar1168, q1168, S1168, N1168z, H1168, G1168⟩ := id V1164
          obtain ⟨T1168, h1168, X1168, e1168, W1168, st1168⟩ := stC X1164 hx hZ e1164 Ar1168 (j := (0 : Int32)) (inb_of S1168 ⟨by decide, by decide⟩) (g := (mkF m 146 #[iv p1, iv p2, iv p3, iv p4, iv p5, iv 2, iv z1093, iv z1095, iv z1098, iv z1100, rv b1103, .unset] [(.int z1093), (.int 0), (.ref b1164), (.ref b1164), (.ref b1159), (.ref b1159)])) rfl rfl (hb hby at_146)
          have V1168 : Arv Z h1168 b1164 k1164 .char (2 : Int32) [(.int (nar .char z1093)), (.int 0)] (.int (0 : Int32)) := Arv.set Ar1168 q1168 S1168 N1168z H1168 G1168 (fits_nar_char _) W1168 0 rfl (Nat.le_of_ble_eq_true rfl)
          rw [own_ncz hr1093] at V1168
          have N1168 := Fr.snoc X1168 N1158 g_b1164
          have K1168 : Keep h0 h1168 [] := K1164.wr W1168 (Or.inr sz_b1164)
          have f1169 := ((f1163.ext E1164).wr W1168 g_b1164)
          have f1170 := (((V1112.ext E1159).ext E1164).other W1168 ne1165)
          have f1171 := ((f1161.ext E1164).other W1168 (Or.inl ne1166))
          have f1172 := ((f1162.ext E1164).other W1168 (Or.inl ne1166))
          have z1173 : n0 ≤ h1168.size := (Nat.le_trans z1167 (Keep.of_wr W1168).1)
          obtain ⟨cl1174, Ar1174, q1174, S1174, N1174z, H1174, G1174⟩ := id V1168
          obtain ⟨T1174, h1174, X1174, e1174, W1174, st1174⟩ := stC X1168 hx hZ e1168 Ar1174 (j := (1 : Int32)) (inb_of S1174 ⟨by decide, by decide⟩) (g := (mkF m 151 #[iv p1, iv p2, iv p3, iv p4, iv p5, iv 2, iv z1093, iv z1095, iv z1098, iv z1100, rv b1103, .unset] [(.int z1095), (.int 1), (.ref b1164), (.ref b1164), (.ref b1159), (.ref b1159)])) rfl rfl (hb hby at_151)
          have V1174 : Arv Z h1174 b1164 k1164 .char (2 : Int32) [(.int z1093), (.int (nar .char z1095))] (.int (0 : Int32)) := Arv.set Ar1174 q1174 S1174 N1174z H1174 G1174 (fits_nar_char _) W1174 1 rfl (Nat.le_of_ble_eq_true rfl)
          rw [own_ncz hr1095] at V1174
          have N1174 := Fr.snoc X1174 N1168 g_b1164
          have K1174 : Keep h0 h1174 [] := K1168.wr W1174 (Or.inr sz_b1164)
          have f1175 := (((A1159.ext E1164).wr W1168).wr W1174)
          have f1176 := (f1171.other W1174 (Or.inl ne1166))
          have f1177 := (f1172.other W1174 (Or.inl ne1166))
          have z1178 : n0 ≤ h1174.size := (Nat.le_trans z1173 (Keep.of_wr W1174).1)
          obtain ⟨_, T1179, L1179, X1179, hQ1179, st1179⟩ := own_cI X1174 hx hZ hml hown rfl (ow hw 23 rfl) (ow hw 24 rfl) (ow hw 22 rfl) (ow hw 25 rfl) e1174 (rmNS_2 l Z a0 hw [] b1159 b1164 k1164 z1093 z1095 cs h1174 n0 z1178 f1175 f1177 f1176 V1174 (f1169.wr W1174 g_b1164) R1 R3 R4 R5 (Ne.symm ne1166) g_b1159 hcs hr1093 hr1095) (W := 1) (g := (mkF m 152 #[iv p1, iv p2, iv p3, iv p4, iv p5, iv 2, iv z1093, iv z1095, iv z1098, iv z1100, rv b1103, .unset] [(.ref b1164), (.ref b1159), (.ref b1159)])) (argsL := [(.ref b1164)]) (rest := [(.ref b1159)]) (lenOf pd_18 rfl) (hb hby at_152)
          obtain ⟨rfl, N1179q, K1179q, hS1179⟩ := hQ1179
          have N1179 := Fr.app N1174 N1179q
          have K1179 : Keep h0 T1179.heap [] := K1174.trans K1179q (allS (Or.inr sz_b1159) all0)
          have f1180 := ((f1169.wr W1174 g_b1164).keep K1179q (allS g_b1159 all0))
          have f1181 := ((f1170.other W1174 ne1165).keep K1179q (ninS ne1160 nin0))
          have f1182 := (V1174.keep K1179q (ninS (Ne.symm ne1166) nin0))
          obtain ⟨T1183, L1183, X1183, e1183, N1183, st1183⟩ := own_pS X1179 hx hZ hml hown N1179 (ow hw 49 rfl) (ow hw 50 rfl) (ow hw 51 rfl) (ow hw 52 rfl) rfl (rm12_2 l Z a0 hw [] b1159 z1093 z1095 cs vf T1179.heap n0 (Nat.le_trans z1178 K1179q.1) hS1179 (R1.ext f1180.2) hcs (R2.ext f1180.2) hvf (R3.ext f1180.2) (R4.ext f1180.2) (R5.ext f1180.2) (own_p_A0 hc65_1151) (own_p_B1 hc76_1155)) (W := 0) (g := (mkF m 230 #[iv p1, iv p2, iv p3, iv p4, iv p5, iv 2, iv z1093, iv z1095, iv z1098, iv z1100, rv b1103, rv b1159] [(.ref b1159)])) (argsL := [(.ref b1159)]) (rest := []) (lenOf pd_19 rfl) (hb hby at_230)
          obtain ⟨T1184, L1184, X1184, e1184, N1184, st1184⟩ := own_pV X1183 hx hZ hml hown N1183 (ow hw 101 rfl) (ow hw 59 rfl) (notFace_of_selects (args := #[]) (mvT hZ (ow hw 61 rfl))) (ow hw 61 rfl) (ow hw 60 rfl) (ow hw 22 rfl) (ow hw 62 rfl) e1183 (rmLN_2 l Z a0 hw [] b1159 z1093 z1095 cs vf T1179.heap n0 (Nat.le_trans z1178 K1179q.1) hS1179 (R1.ext f1180.2) hcs (R2.ext f1180.2) hvf (R3.ext f1180.2) (R4.ext f1180.2) (R5.ext f1180.2)) (own_Exa2 hS1179) (W := 0) (g := (mkF m 235 #[iv p1, iv p2, iv p3, iv p4, iv p5, iv 2, iv z1093, iv z1095, iv z1098, iv z1100, rv b1103, rv b1159] [(.ref b1159)])) (argsL := []) (rest := []) (lenOf pd_15 rfl) (hb hby at_235)
          have pre1185 := own_go pre1154 (T1184.setTop (mkF m 248 #[iv p1, iv p2, iv p3, iv p4, iv p5, iv 2, iv z1093, iv z1095, iv z1098, iv z1100, rv b1103, rv b1159] [(.int 1)])) fun t kt => by
            refine XS.ifNo X1153.here hx rfl (hb hby at_76) rfl ((if0 _ _).trans (feq hc76_1155).1) ?_
            refine XS.aload X1153.here hx rfl (hb hby at_79) rfl rfl ?_
            refine XS.iload X1153.here hx rfl (hb hby at_81) rfl ?_
            refine XS.iconst X1153.here hx rfl (hb hby at_83) ?_
            refine st1157 _ ?_
            refine XS.ifNo X1157.here hx rfl (hb hby at_87) rfl ((if0 _ _).trans (feq (by decide : ¬ ((1 : Int32) = (0 : Int32)))).1) ?_
            refine XS.aload X1157.here hx rfl (hb hby at_90) rfl rfl ?_
            refine XS.iload X1157.here hx rfl (hb hby at_92) rfl ?_
            refine XS.iconst X1157.here hx rfl (hb hby at_94) ?_
            refine st1158 _ ?_
            refine XS.ifYes X1158.here hx rfl (pc0 := 98) (pc' := 103) rfl (hb hby at_98) rfl ((if0 _ _).trans (feq (by decide : ¬ ((1 : Int32) = (0 : Int32)))).2) (by decide) (by decide) ?_
            refine XS.iload X1158.here hx rfl (hb hby at_103) rfl ?_
            refine XS.iconst X1158.here hx rfl (hb hby at_105) ?_
            refine XS.icmpYes X1158.here hx rfl (pc0 := 106) (pc' := 129) rfl (hb hby at_106) rfl (feq (by decide : ¬ ((2 : Int32) = (1 : Int32)))).2 (by decide) (by decide) ?_
            refine XS.iload X1158.here hx rfl (hb hby at_129) rfl ?_
            refine XS.iconst X1158.here hx rfl (hb hby at_131) ?_
            refine XS.icmpNo X1158.here hx rfl (hb hby at_132) rfl (teq (by decide : (2 : Int32) = (2 : Int32))).2 ?_
            refine st1159 _ ?_
            refine XS.dup X1159.here hx rfl (hb hby at_138) rfl rfl ?_
            refine XS.iconst X1159.here hx rfl (hb hby at_139) ?_
            refine st1164 _ ?_
            refine XS.dup X1164.here hx rfl (hb hby at_142) rfl rfl ?_
            refine XS.iconst X1164.here hx rfl (hb hby at_143) ?_
            refine XS.iload X1164.here hx rfl (hb hby at_144) rfl ?_
            refine st1168 _ ?_
            refine XS.dup X1168.here hx rfl (hb hby at_147) rfl rfl ?_
            refine XS.iconst X1168.here hx rfl (hb hby at_148) ?_
            refine XS.iload X1168.here hx rfl (hb hby at_149) rfl ?_
            refine st1174 _ ?_
            refine st1179 _ ?_
            refine XS.astore X1179.here hx rfl (hb hby at_155) rfl rfl (l' := #[iv p1, iv p2, iv p3, iv p4, iv p5, iv 2, iv z1093, iv z1095, iv z1098, iv z1100, rv b1103, rv b1159]) rfl ?_
            refine XS.goto X1179.here hx rfl (pc0 := 157) (pc' := 228) rfl (hb hby at_157) (by decide) (by decide) ?_
            refine XS.aload X1179.here hx rfl (hb hby at_228) rfl rfl ?_
            refine st1183 _ ?_
            refine XS.aload X1183.here hx rfl (hb hby at_233) rfl rfl ?_
            refine st1184 _ ?_
            refine XS.iload X1184.here hx rfl (hb hby at_238) rfl ?_
            refine XS.icmpNo X1184.here hx rfl (hb hby at_240) rfl (teq (by decide : (2 : Int32) = (2 : Int32))).2 ?_
            refine XS.iconst X1184.here hx rfl (hb hby at_243) ?_
            refine XS.goto X1184.here hx rfl (pc0 := 244) (pc' := 248) rfl (hb hby at_244) (by decide) (by decide) ?_
            exact kt
          obtain ⟨fs, hr, hrun, hended, hW, hsame⟩ := X1184.leave (v := some (.int 1)) (fun h => by rw [Bd.returns] at h; cases h)
          refine ⟨_, _, pre1185 _ ?_, hrun, hended, _, _, rfl, ?_, ⟨_, rfl⟩, hW, hsame.mono (by decide) (by decide)⟩
          · exact retN X1184 hx (t := .boolean) Bd.returns (by simp) (hb hby at_248) hr
          · show Q0 Z p1 p2 p3 p4 p5 cs vf h0 n0 _ T1184.heap _
            rw [e1184]
            exact ⟨rfl, N1184, K1179⟩
    · by_cases hk1186 : (p1 &&& (3 : Int32)) = (2 : Int32)
      · have pre1187 := own_go pre1114 (T1112.setTop (mkF m 57 #[iv p1, iv p2, iv p3, iv p4, iv p5, iv 3, iv z1093, iv z1095, iv z1098, iv z1100, rv b1103, .unset] [])) fun t kt => by
          rw [(show ((1 : Int32) + (p1 &&& (3 : Int32))) = (3 : Int32) by rw [hk1186]; rfl)]
          exact kt
        obtain ⟨T1188, L1188, X1188, e1188, N1188, st1188⟩ := own_pS X1112 hx hZ hml hown N1112 (ow hw 6 rfl) (ow hw 7 rfl) (ow hw 2 rfl) (ow hw 8 rfl) e1112 (rm2_A0 l Z a0 hw [] b1103 (3 : Int32) k1103 z1093 z1095 z1098 z1100 h1112 n0 z1113 V1112 (by decide) (by decide)) (W := 0) (g := (mkF m 62 #[iv p1, iv p2, iv p3, iv p4, iv p5, iv 3, iv z1093, iv z1095, iv z1098, iv z1100, rv b1103, .unset] [(.int 0), (.int 3), (.ref b1103)])) (argsL := [(.ref b1103), (.int 3), (.int 0)]) (rest := []) (lenOf pd_17 rfl) (hb hby at_62)
        have pre1189 := own_go pre1187 (T1188.setTop (mkF m 65 #[iv p1, iv p2, iv p3, iv p4, iv p5, iv 3, iv z1093, iv z1095, iv z1098, iv z1100, rv b1103, .unset] [(.int (own_F2_A0 b1103 (3 : Int32) k1103 z1093 z1095 z1098 z1100))])) fun t kt => by
          refine XS.aload X1112.here hx rfl (hb hby at_57) rfl rfl ?_
          refine XS.iload X1112.here hx rfl (hb hby at_59) rfl ?_
          refine XS.iconst X1112.here hx rfl (hb hby at_61) ?_
          refine st1188 _ ?_
          exact kt
        by_cases hc65_1190 : (own_F2_A0 b1103 (3 : Int32) k1103 z1093 z1095 z1098 z1100) = (0 : Int32)
        · have pre1191 := own_go pre1189 (T1188.setTop (mkF m 102 #[iv p1, iv p2, iv p3, iv p4, iv p5, iv 3, iv z1093, iv z1095, iv z1098, iv z1100, rv b1103, .unset] [(.int 1)])) fun t kt => by
            refine XS.ifYes X1188.here hx rfl (pc0 := 65) (pc' := 101) rfl (hb hby at_65) rfl ((if0 _ _).trans (teq hc65_1190).1) (by decide) (by decide) ?_
            refine XS.iconst X1188.here hx rfl (hb hby at_101) ?_
            exact kt
          obtain ⟨fs, hr, hrun, hended, hW, hsame⟩ := X1188.leave (v := some (.int 1)) (fun h => by rw [Bd.returns] at h; cases h)
          refine ⟨_, _, pre1191 _ ?_, hrun, hended, _, _, rfl, ?_, ⟨_, rfl⟩, hW, hsame.mono (by decide) (by decide)⟩
          · exact retN X1188 hx (t := .boolean) Bd.returns (by simp) (hb hby at_102) hr
          · show Q0 Z p1 p2 p3 p4 p5 cs vf h0 n0 _ T1188.heap _
            rw [e1188]
            exact ⟨rfl, N1188, K1112⟩
        · obtain ⟨T1192, L1192, X1192, e1192, N1192, st1192⟩ := own_pS X1188 hx hZ hml hown N1188 (ow hw 6 rfl) (ow hw 7 rfl) (ow hw 2 rfl) (ow hw 8 rfl) e1188 (rm2_A1 l Z a0 hw [] b1103 (3 : Int32) k1103 z1093 z1095 z1098 z1100 h1112 n0 z1113 V1112 (by decide) (by decide)) (W := 0) (g := (mkF m 73 #[iv p1, iv p2, iv p3, iv p4, iv p5, iv 3, iv z1093, iv z1095, iv z1098, iv z1100, rv b1103, .unset] [(.int 1), (.int 3), (.ref b1103)])) (argsL := [(.ref b1103), (.int 3), (.int 1)]) (rest := []) (lenOf pd_17 rfl) (hb hby at_73)
          have pre1193 := own_go pre1189 (T1192.setTop (mkF m 76 #[iv p1, iv p2, iv p3, iv p4, iv p5, iv 3, iv z1093, iv z1095, iv z1098, iv z1100, rv b1103, .unset] [(.int (own_F2_A1 b1103 (3 : Int32) k1103 z1093 z1095 z1098 z1100))])) fun t kt => by
            refine XS.ifNo X1188.here hx rfl (hb hby at_65) rfl ((if0 _ _).trans (feq hc65_1190).1) ?_
            refine XS.aload X1188.here hx rfl (hb hby at_68) rfl rfl ?_
            refine XS.iload X1188.here hx rfl (hb hby at_70) rfl ?_
            refine XS.iconst X1188.here hx rfl (hb hby at_72) ?_
            refine st1192 _ ?_
            exact kt
          by_cases hc76_1194 : (own_F2_A1 b1103 (3 : Int32) k1103 z1093 z1095 z1098 z1100) = (0 : Int32)
          · have pre1195 := own_go pre1193 (T1192.setTop (mkF m 102 #[iv p1, iv p2, iv p3, iv p4, iv p5, iv 3, iv z1093, iv z1095, iv z1098, iv z1100, rv b1103, .unset] [(.int 1)])) fun t kt => by
              refine XS.ifYes X1192.here hx rfl (pc0 := 76) (pc' := 101) rfl (hb hby at_76) rfl ((if0 _ _).trans (teq hc76_1194).1) (by decide) (by decide) ?_
              refine XS.iconst X1192.here hx rfl (hb hby at_101) ?_
              exact kt
            obtain ⟨fs, hr, hrun, hended, hW, hsame⟩ := X1192.leave (v := some (.int 1)) (fun h => by rw [Bd.returns] at h; cases h)
            refine ⟨_, _, pre1195 _ ?_, hrun, hended, _, _, rfl, ?_, ⟨_, rfl⟩, hW, hsame.mono (by decide) (by decide)⟩
            · exact retN X1192 hx (t := .boolean) Bd.returns (by simp) (hb hby at_102) hr
            · show Q0 Z p1 p2 p3 p4 p5 cs vf h0 n0 _ T1192.heap _
              rw [e1192]
              exact ⟨rfl, N1192, K1112⟩
          · obtain ⟨T1196, L1196, X1196, e1196, N1196, st1196⟩ := own_pS X1192 hx hZ hml hown N1192 (ow hw 6 rfl) (ow hw 7 rfl) (ow hw 2 rfl) (ow hw 8 rfl) e1192 (rm2_B2 l Z a0 hw [] b1103 (3 : Int32) k1103 z1093 z1095 z1098 z1100 h1112 n0 z1113 V1112 (by decide) (by decide)) (W := 0) (g := (mkF m 84 #[iv p1, iv p2, iv p3, iv p4, iv p5, iv 3, iv z1093, iv z1095, iv z1098, iv z1100, rv b1103, .unset] [(.int 2), (.int 3), (.ref b1103)])) (argsL := [(.ref b1103), (.int 3), (.int 2)]) (rest := []) (lenOf pd_17 rfl) (hb hby at_84)
            have pre1197 := own_go pre1193 (T1196.setTop (mkF m 87 #[iv p1, iv p2, iv p3, iv p4, iv p5, iv 3, iv z1093, iv z1095, iv z1098, iv z1100, rv b1103, .unset] [(.int (own_F2_B2 b1103 (3 : Int32) k1103 z1093 z1095 z1098 z1100))])) fun t kt => by
              refine XS.ifNo X1192.here hx rfl (hb hby at_76) rfl ((if0 _ _).trans (feq hc76_1194).1) ?_
              refine XS.aload X1192.here hx rfl (hb hby at_79) rfl rfl ?_
              refine XS.iload X1192.here hx rfl (hb hby at_81) rfl ?_
              refine XS.iconst X1192.here hx rfl (hb hby at_83) ?_
              refine st1196 _ ?_
              exact kt
            by_cases hc87_1198 : (own_F2_B2 b1103 (3 : Int32) k1103 z1093 z1095 z1098 z1100) = (0 : Int32)
            · have pre1199 := own_go pre1197 (T1196.setTop (mkF m 102 #[iv p1, iv p2, iv p3, iv p4, iv p5, iv 3, iv z1093, iv z1095, iv z1098, iv z1100, rv b1103, .unset] [(.int 1)])) fun t kt => by
                refine XS.ifYes X1196.here hx rfl (pc0 := 87) (pc' := 101) rfl (hb hby at_87) rfl ((if0 _ _).trans (teq hc87_1198).1) (by decide) (by decide) ?_
                refine XS.iconst X1196.here hx rfl (hb hby at_101) ?_
                exact kt
              obtain ⟨fs, hr, hrun, hended, hW, hsame⟩ := X1196.leave (v := some (.int 1)) (fun h => by rw [Bd.returns] at h; cases h)
              refine ⟨_, _, pre1199 _ ?_, hrun, hended, _, _, rfl, ?_, ⟨_, rfl⟩, hW, hsame.mono (by decide) (by decide)⟩
              · exact retN X1196 hx (t := .boolean) Bd.returns (by simp) (hb hby at_102) hr
              · show Q0 Z p1 p2 p3 p4 p5 cs vf h0 n0 _ T1196.heap _
                rw [e1196]
                exact ⟨rfl, N1196, K1112⟩
            · obtain ⟨T1200, L1200, X1200, e1200, N1200, st1200⟩ := own_pS X1196 hx hZ hml hown N1196 (ow hw 6 rfl) (ow hw 7 rfl) (ow hw 2 rfl) (ow hw 8 rfl) e1196 (rm2_C3 l Z a0 hw [] b1103 (3 : Int32) k1103 z1093 z1095 z1098 z1100 h1112 n0 z1113 V1112 (by decide)) (W := 0) (g := (mkF m 95 #[iv p1, iv p2, iv p3, iv p4, iv p5, iv 3, iv z1093, iv z1095, iv z1098, iv z1100, rv b1103, .unset] [(.int 3), (.int 3), (.ref b1103)])) (argsL := [(.ref b1103), (.int 3), (.int 3)]) (rest := []) (lenOf pd_17 rfl) (hb hby at_95)
              obtain ⟨T1201, h1201, X1201, e1201, E1201, A1201, D1201, -, st1201⟩ := newO X1200 hx hZ hown (ow hw 20 rfl) (ow hw 21 rfl) (ow hw 22 rfl) e1200 (g := (mkF m 166 #[iv p1, iv p2, iv p3, iv p4, iv p5, iv 3, iv z1093, iv z1095, iv z1098, iv z1100, rv b1103, .unset] [])) rfl (hb hby at_166) (by decide) (by decide)
              obtain ⟨b1201, g1201⟩ : ∃ z, z = h1112.size := ⟨_, rfl⟩
              rw [← g1201] at A1201 D1201 st1201
              have ne1202 : b1103 ≠ b1201 := Nat.ne_of_lt (Nat.lt_of_lt_of_le V1112.lt (Nat.le_of_eq g1201.symm))
              have g_b1201 : n0 ≤ b1201 := Nat.le_trans z1113 (Nat.le_of_eq g1201.symm)
              have sz_b1201 : h0.size ≤ b1201 := Nat.le_trans K1112.1 (Nat.le_of_eq g1201.symm)
              have K1201 : Keep h0 h1201 [] := K1112.ext E1201
              have f1203 : Fld Z h1201 b1201 "java/lang/String" "coder" "B" (.int 0) := D1201 (Or.inr (ow hw 46 rfl)) (ty := .byte) (by decide)
              have f1204 : Fld Z h1201 b1201 "java/lang/String" "value" "[B" .null := D1201 (Or.inr (ow hw 48 rfl)) (ty := (.array .byte)) (by decide)
              have f1205 := ((f1110.wr W1112 g_b1103).ext E1201)
              obtain ⟨T1206, h1206, k1206, X1206, e1206, E1206, A1206, st1206⟩ := newP X1201 hx hZ (ow hw 5 rfl) e1201 (g := (mkF m 171 #[iv p1, iv p2, iv p3, iv p4, iv p5, iv 3, iv z1093, iv z1095, iv z1098, iv z1100, rv b1103, .unset] [(.int 3), (.ref b1201), (.ref b1201)])) rfl (hb hby at_171) rfl (by decide) (cap := 3) (by decide) (by decide) (by decide) (by decide)
              obtain ⟨b1206, g1206⟩ : ∃ z, z = h1201.size := ⟨_, rfl⟩
              rw [← g1206] at A1206 st1206
              have ne1207 : b1103 ≠ b1206 := Nat.ne_of_lt (Nat.lt_of_lt_of_le (V1112.ext E1201).lt (Nat.le_of_eq g1206.symm))
              have ne1208 : b1201 ≠ b1206 := Nat.ne_of_lt (Nat.lt_of_lt_of_le A1201.lt (Nat.le_of_eq g1206.symm))
              have g_b1206 : n0 ≤ b1206 := Nat.le_trans (Nat.le_trans z1113 E1201.1) (Nat.le_of_eq g1206.symm)
              have sz_b1206 : h0.size ≤ b1206 := Nat.le_trans K1201.1 (Nat.le_of_eq g1206.symm)
              have K1206 : Keep h0 h1206 [] := K1201.ext E1206
              have V1206 : Arv Z h1206 b1206 k1206 .char (3 : Int32) [(.int 0), (.int 0), (.int 0)] (.int (0 : Int32)) := (Arv.new A1206 (by decide)).pad (pad_rep [] (.int (0 : Int32)) 3)
              have z1209 : n0 ≤ h1206.size := (Nat.le_trans (Nat.le_trans z1113 E1201.1) E1206.1)
              obtain ⟨cl1210, Ar1210, q1210, S1210, N1210z, H1210, G1210⟩ := id V1206
              obtain ⟨T1210, h1210, X1210, e1210, W1210, st1210⟩ := stC X1206 hx hZ e1206 Ar1210 (j := (0 : Int32)) (inb_of S1210 ⟨by decide, by decide⟩) (g := (mkF m 177 #[iv p1, iv p2, iv p3, iv p4, iv p5, iv 3, iv z1093, iv z1095, iv z1098, iv z1100, rv b1103, .unset] [(.int z1093), (.int 0), (.ref b1206), (.ref b1206), (.ref b1201), (.ref b1201)])) rfl rfl (hb hby at_177)
              have V1210 : Arv Z h1210 b1206 k1206 .char (3 : Int32) [(.int (nar .char z1093)), (.int 0), (.int 0)] (.int (0 : Int32)) := Arv.set Ar1210 q1210 S1210 N1210z H1210 G1210 (fits_nar_char _) W1210 0 rfl (Nat.le_of_ble_eq_true rfl)
              rw [own_ncz hr1093] at V1210
              have N1210 := Fr.snoc X1210 N1200 g_b1206
              have K1210 : Keep h0 h1210 [] := K1206.wr W1210 (Or.inr sz_b1206)
              have f1211 := ((f1205.ext E1206).wr W1210 g_b1206)
              have f1212 := (((V1112.ext E1201).ext E1206).other W1210 ne1207)
              have f1213 := ((f1203.ext E1206).other W1210 (Or.inl ne1208))
              have f1214 := ((f1204.ext E1206).other W1210 (Or.inl ne1208))
              have z1215 : n0 ≤ h1210.size := (Nat.le_trans z1209 (Keep.of_wr W1210).1)
              obtain ⟨cl1216, Ar1216, q1216, S1216, N1216z, H1216, G1216⟩ := id V1210
              obtain ⟨T1216, h1216, X1216, e1216, W1216, st1216⟩ := stC X1210 hx hZ e1210 Ar1216 (j := (1 : Int32)) (inb_of S1216 ⟨by decide, by decide⟩) (g := (mkF m 182 #[iv p1, iv p2, iv p3, iv p4, iv p5, iv 3, iv z1093, iv z1095, iv z1098, iv z1100, rv b1103, .unset] [(.int z1095), (.int 1), (.ref b1206), (.ref b1206), (.ref b1201), (.ref b1201)])) rfl rfl (hb hby at_182)
              have V1216 : Arv Z h1216 b1206 k1206 .char (3 : Int32) [(.int z1093), (.int (nar .char z1095)), (.int 0)] (.int (0 : Int32)) := Arv.set Ar1216 q1216 S1216 N1216z H1216 G1216 (fits_nar_char _) W1216 1 rfl (Nat.le_of_ble_eq_true rfl)
              rw [own_ncz hr1095] at V1216
              have N1216 := Fr.snoc X1216 N1210 g_b1206
              have K1216 : Keep h0 h1216 [] := K1210.wr W1216 (Or.inr sz_b1206)
              have f1217 := (((A1201.ext E1206).wr W1210).wr W1216)
              have f1218 := (f1213.other W1216 (Or.inl ne1208))
              have f1219 := (f1214.other W1216 (Or.inl ne1208))
              have z1220 : n0 ≤ h1216.size := (Nat.le_trans z1215 (Keep.of_wr W1216).1)
              obtain ⟨cl1221, Ar1221, q1221, S1221, N1221z, H1221, G1221⟩ := id V1216
              obtain ⟨T1221, h1221, X1221, e1221, W1221, st1221⟩ := stC X1216 hx hZ e1216 Ar1221 (j := (2 : Int32)) (inb_of S1221 ⟨by decide, by decide⟩) (g := (mkF m 187 #[iv p1, iv p2, iv p3, iv p4, iv p5, iv 3, iv z1093, iv z1095, iv z1098, iv z1100, rv b1103, .unset] [(.int z1098), (.int 2), (.ref b1206), (.ref b1206), (.ref b1201), (.ref b1201)])) rfl rfl (hb hby at_187)
              have V1221 : Arv Z h1221 b1206 k1206 .char (3 : Int32) [(.int z1093), (.int z1095), (.int (nar .char z1098))] (.int (0 : Int32)) := Arv.set Ar1221 q1221 S1221 N1221z H1221 G1221 (fits_nar_char _) W1221 2 rfl (Nat.le_of_ble_eq_true rfl)
              rw [own_ncz hr1098] at V1221
              have N1221 := Fr.snoc X1221 N1216 g_b1206
              have K1221 : Keep h0 h1221 [] := K1216.wr W1221 (Or.inr sz_b1206)
              have f1222 := ((f1211.wr W1216 g_b1206).wr W1221 g_b1206)
              have f1223 := ((f1212.other W1216 ne1207).other W1221 ne1207)
              have f1224 := (f1218.other W1221 (Or.inl ne1208))
              have f1225 := (f1219.other W1221 (Or.inl ne1208))
              have z1226 : n0 ≤ h1221.size := (Nat.le_trans z1220 (Keep.of_wr W1221).1)
              obtain ⟨_, T1227, L1227, X1227, hQ1227, st1227⟩ := own_cI X1221 hx hZ hml hown rfl (ow hw 23 rfl) (ow hw 24 rfl) (ow hw 22 rfl) (ow hw 25 rfl) e1221 (rmNS_3 l Z a0 hw [] b1201 b1206 k1206 z1093 z1095 z1098 cs h1221 n0 z1226 (f1217.wr W1221) f1225 f1224 V1221 f1222 R1 R3 R4 R5 (Ne.symm ne1208) g_b1201 hcs hr1093 hr1095 hr1098) (W := 1) (g := (mkF m 188 #[iv p1, iv p2, iv p3, iv p4, iv p5, iv 3, iv z1093, iv z1095, iv z1098, iv z1100, rv b1103, .unset] [(.ref b1206), (.ref b1201), (.ref b1201)])) (argsL := [(.ref b1206)]) (rest := [(.ref b1201)]) (lenOf pd_18 rfl) (hb hby at_188)
              obtain ⟨rfl, N1227q, K1227q, hS1227⟩ := hQ1227
              have N1227 := Fr.app N1221 N1227q
              have K1227 : Keep h0 T1227.heap [] := K1221.trans K1227q (allS (Or.inr sz_b1201) all0)
              have f1228 := (f1222.keep K1227q (allS g_b1201 all0))
              have f1229 := (f1223.keep K1227q (ninS ne1202 nin0))
              have f1230 := (V1221.keep K1227q (ninS (Ne.symm ne1208) nin0))
              obtain ⟨T1231, L1231, X1231, e1231, N1231, st1231⟩ := own_pS X1227 hx hZ hml hown N1227 (ow hw 49 rfl) (ow hw 50 rfl) (ow hw 51 rfl) (ow hw 52 rfl) rfl (rm12_3 l Z a0 hw [] b1201 z1093 z1095 z1098 cs vf T1227.heap n0 (Nat.le_trans z1226 K1227q.1) hS1227 (R1.ext f1228.2) hcs (R2.ext f1228.2) hvf (R3.ext f1228.2) (R4.ext f1228.2) (R5.ext f1228.2) (own_p_A0 hc65_1190) (own_p_A1 hc76_1194) (own_p_B2 hc87_1198)) (W := 0) (g := (mkF m 230 #[iv p1, iv p2, iv p3, iv p4, iv p5, iv 3, iv z1093, iv z1095, iv z1098, iv z1100, rv b1103, rv b1201] [(.ref b1201)])) (argsL := [(.ref b1201)]) (rest := []) (lenOf pd_19 rfl) (hb hby at_230)
              obtain ⟨T1232, L1232, X1232, e1232, N1232, st1232⟩ := own_pV X1231 hx hZ hml hown N1231 (ow hw 101 rfl) (ow hw 59 rfl) (notFace_of_selects (args := #[]) (mvT hZ (ow hw 61 rfl))) (ow hw 61 rfl) (ow hw 60 rfl) (ow hw 22 rfl) (ow hw 62 rfl) e1231 (rmLN_3 l Z a0 hw [] b1201 z1093 z1095 z1098 cs vf T1227.heap n0 (Nat.le_trans z1226 K1227q.1) hS1227 (R1.ext f1228.2) hcs (R2.ext f1228.2) hvf (R3.ext f1228.2) (R4.ext f1228.2) (R5.ext f1228.2)) (own_Exa3 hS1227) (W := 0) (g := (mkF m 235 #[iv p1, iv p2, iv p3, iv p4, iv p5, iv 3, iv z1093, iv z1095, iv z1098, iv z1100, rv b1103, rv b1201] [(.ref b1201)])) (argsL := []) (rest := []) (lenOf pd_15 rfl) (hb hby at_235)
              have pre1233 := own_go pre1197 (T1232.setTop (mkF m 248 #[iv p1, iv p2, iv p3, iv p4, iv p5, iv 3, iv z1093, iv z1095, iv z1098, iv z1100, rv b1103, rv b1201] [(.int 1)])) fun t kt => by
                refine XS.ifNo X1196.here hx rfl (hb hby at_87) rfl ((if0 _ _).trans (feq hc87_1198).1) ?_
                refine XS.aload X1196.here hx rfl (hb hby at_90) rfl rfl ?_
                refine XS.iload X1196.here hx rfl (hb hby at_92) rfl ?_
                refine XS.iconst X1196.here hx rfl (hb hby at_94) ?_
                refine st1200 _ ?_
                refine XS.ifYes X1200.here hx rfl (pc0 := 98) (pc' := 103) rfl (hb hby at_98) rfl ((if0 _ _).trans (feq (by decide : ¬ ((1 : Int32) = (0 : Int32)))).2) (by decide) (by decide) ?_
                refine XS.iload X1200.here hx rfl (hb hby at_103) rfl ?_
                refine XS.iconst X1200.here hx rfl (hb hby at_105) ?_
                refine XS.icmpYes X1200.here hx rfl (pc0 := 106) (pc' := 129) rfl (hb hby at_106) rfl (feq (by decide : ¬ ((3 : Int32) = (1 : Int32)))).2 (by decide) (by decide) ?_
                refine XS.iload X1200.here hx rfl (hb hby at_129) rfl ?_
                refine XS.iconst X1200.here hx rfl (hb hby at_131) ?_
                refine XS.icmpYes X1200.here hx rfl (pc0 := 132) (pc' := 160) rfl (hb hby at_132) rfl (feq (by decide : ¬ ((3 : Int32) = (2 : Int32)))).2 (by decide) (by decide) ?_
                refine XS.iload X1200.here hx rfl (hb hby at_160) rfl ?_
                refine XS.iconst X1200.here hx rfl (hb hby at_162) ?_
                refine XS.icmpNo X1200.here hx rfl (hb hby at_163) rfl (teq (by decide : (3 : Int32) = (3 : Int32))).2 ?_
                refine st1201 _ ?_
                refine XS.dup X1201.here hx rfl (hb hby at_169) rfl rfl ?_
                refine XS.iconst X1201.here hx rfl (hb hby at_170) ?_
                refine st1206 _ ?_
                refine XS.dup X1206.here hx rfl (hb hby at_173) rfl rfl ?_
                refine XS.iconst X1206.here hx rfl (hb hby at_174) ?_
                refine XS.iload X1206.here hx rfl (hb hby at_175) rfl ?_
                refine st1210 _ ?_
                refine XS.dup X1210.here hx rfl (hb hby at_178) rfl rfl ?_
                refine XS.iconst X1210.here hx rfl (hb hby at_179) ?_
                refine XS.iload X1210.here hx rfl (hb hby at_180) rfl ?_
                refine st1216 _ ?_
                refine XS.dup X1216.here hx rfl (hb hby at_183) rfl rfl ?_
                refine XS.iconst X1216.here hx rfl (hb hby at_184) ?_
                refine XS.iload X1216.here hx rfl (hb hby at_185) rfl ?_
                refine st1221 _ ?_
                refine st1227 _ ?_
                refine XS.astore X1227.here hx rfl (hb hby at_191) rfl rfl (l' := #[iv p1, iv p2, iv p3, iv p4, iv p5, iv 3, iv z1093, iv z1095, iv z1098, iv z1100, rv b1103, rv b1201]) rfl ?_
                refine XS.goto X1227.here hx rfl (pc0 := 193) (pc' := 228) rfl (hb hby at_193) (by decide) (by decide) ?_
                refine XS.aload X1227.here hx rfl (hb hby at_228) rfl rfl ?_
                refine st1231 _ ?_
                refine XS.aload X1231.here hx rfl (hb hby at_233) rfl rfl ?_
                refine st1232 _ ?_
                refine XS.iload X1232.here hx rfl (hb hby at_238) rfl ?_
                refine XS.icmpNo X1232.here hx rfl (hb hby at_240) rfl (teq (by decide : (3 : Int32) = (3 : Int32))).2 ?_
                refine XS.iconst X1232.here hx rfl (hb hby at_243) ?_
                refine XS.goto X1232.here hx rfl (pc0 := 244) (pc' := 248) rfl (hb hby at_244) (by decide) (by decide) ?_
                exact kt
              obtain ⟨fs, hr, hrun, hended, hW, hsame⟩ := X1232.leave (v := some (.int 1)) (fun h => by rw [Bd.returns] at h; cases h)
              refine ⟨_, _, pre1233 _ ?_, hrun, hended, _, _, rfl, ?_, ⟨_, rfl⟩, hW, hsame.mono (by decide) (by decide)⟩
              · exact retN X1232 hx (t := .boolean) Bd.returns (by simp) (hb hby at_248) hr
              · show Q0 Z p1 p2 p3 p4 p5 cs vf h0 n0 _ T1232.heap _
                rw [e1232]
                exact ⟨rfl, N1232, K1227⟩
      · have pre1234 := own_go pre1114 (T1112.setTop (mkF m 57 #[iv p1, iv p2, iv p3, iv p4, iv p5, iv 4, iv z1093, iv z1095, iv z1098, iv z1100, rv b1103, .unset] [])) fun t kt => by
          rw [(show ((1 : Int32) + (p1 &&& (3 : Int32))) = (4 : Int32) by rw [own_n3 p1 hk1115 hk1147 hk1186]; rfl)]
          exact kt
        obtain ⟨T1235, L1235, X1235, e1235, N1235, st1235⟩ := own_pS X1112 hx hZ hml hown N1112 (ow hw 6 rfl) (ow hw 7 rfl) (ow hw 2 rfl) (ow hw 8 rfl) e1112 (rm2_A0 l Z a0 hw [] b1103 (4 : Int32) k1103 z1093 z1095 z1098 z1100 h1112 n0 z1113 V1112 (by decide) (by decide)) (W := 0) (g := (mkF m 62 #[iv p1, iv p2, iv p3, iv p4, iv p5, iv 4, iv z1093, iv z1095, iv z1098, iv z1100, rv b1103, .unset] [(.int 0), (.int 4), (.ref b1103)])) (argsL := [(.ref b1103), (.int 4), (.int 0)]) (rest := []) (lenOf pd_17 rfl) (hb hby at_62)
        have pre1236 := own_go pre1234 (T1235.setTop (mkF m 65 #[iv p1, iv p2, iv p3, iv p4, iv p5, iv 4, iv z1093, iv z1095, iv z1098, iv z1100, rv b1103, .unset] [(.int (own_F2_A0 b1103 (4 : Int32) k1103 z1093 z1095 z1098 z1100))])) fun t kt => by
          refine XS.aload X1112.here hx rfl (hb hby at_57) rfl rfl ?_
          refine XS.iload X1112.here hx rfl (hb hby at_59) rfl ?_
          refine XS.iconst X1112.here hx rfl (hb hby at_61) ?_
          refine st1235 _ ?_
          exact kt
        by_cases hc65_1237 : (own_F2_A0 b1103 (4 : Int32) k1103 z1093 z1095 z1098 z1100) = (0 : Int32)
        · have pre1238 := own_go pre1236 (T1235.setTop (mkF m 102 #[iv p1, iv p2, iv p3, iv p4, iv p5, iv 4, iv z1093, iv z1095, iv z1098, iv z1100, rv b1103, .unset] [(.int 1)])) fun t kt => by
            refine XS.ifYes X1235.here hx rfl (pc0 := 65) (pc' := 101) rfl (hb hby at_65) rfl ((if0 _ _).trans (teq hc65_1237).1) (by decide) (by decide) ?_
            refine XS.iconst X1235.here hx rfl (hb hby at_101) ?_
            exact kt
          obtain ⟨fs, hr, hrun, hended, hW, hsame⟩ := X1235.leave (v := some (.int 1)) (fun h => by rw [Bd.returns] at h; cases h)
          refine ⟨_, _, pre1238 _ ?_, hrun, hended, _, _, rfl, ?_, ⟨_, rfl⟩, hW, hsame.mono (by decide) (by decide)⟩
          · exact retN X1235 hx (t := .boolean) Bd.returns (by simp) (hb hby at_102) hr
          · show Q0 Z p1 p2 p3 p4 p5 cs vf h0 n0 _ T1235.heap _
            rw [e1235]
            exact ⟨rfl, N1235, K1112⟩
        · obtain ⟨T1239, L1239, X1239, e1239, N1239, st1239⟩ := own_pS X1235 hx hZ hml hown N1235 (ow hw 6 rfl) (ow hw 7 rfl) (ow hw 2 rfl) (ow hw 8 rfl) e1235 (rm2_A1 l Z a0 hw [] b1103 (4 : Int32) k1103 z1093 z1095 z1098 z1100 h1112 n0 z1113 V1112 (by decide) (by decide)) (W := 0) (g := (mkF m 73 #[iv p1, iv p2, iv p3, iv p4, iv p5, iv 4, iv z1093, iv z1095, iv z1098, iv z1100, rv b1103, .unset] [(.int 1), (.int 4), (.ref b1103)])) (argsL := [(.ref b1103), (.int 4), (.int 1)]) (rest := []) (lenOf pd_17 rfl) (hb hby at_73)
          have pre1240 := own_go pre1236 (T1239.setTop (mkF m 76 #[iv p1, iv p2, iv p3, iv p4, iv p5, iv 4, iv z1093, iv z1095, iv z1098, iv z1100, rv b1103, .unset] [(.int (own_F2_A1 b1103 (4 : Int32) k1103 z1093 z1095 z1098 z1100))])) fun t kt => by
            refine XS.ifNo X1235.here hx rfl (hb hby at_65) rfl ((if0 _ _).trans (feq hc65_1237).1) ?_
            refine XS.aload X1235.here hx rfl (hb hby at_68) rfl rfl ?_
            refine XS.iload X1235.here hx rfl (hb hby at_70) rfl ?_
            refine XS.iconst X1235.here hx rfl (hb hby at_72) ?_
            refine st1239 _ ?_
            exact kt
          by_cases hc76_1241 : (own_F2_A1 b1103 (4 : Int32) k1103 z1093 z1095 z1098 z1100) = (0 : Int32)
          · have pre1242 := own_go pre1240 (T1239.setTop (mkF m 102 #[iv p1, iv p2, iv p3, iv p4, iv p5, iv 4, iv z1093, iv z1095, iv z1098, iv z1100, rv b1103, .unset] [(.int 1)])) fun t kt => by
              refine XS.ifYes X1239.here hx rfl (pc0 := 76) (pc' := 101) rfl (hb hby at_76) rfl ((if0 _ _).trans (teq hc76_1241).1) (by decide) (by decide) ?_
              refine XS.iconst X1239.here hx rfl (hb hby at_101) ?_
              exact kt
            obtain ⟨fs, hr, hrun, hended, hW, hsame⟩ := X1239.leave (v := some (.int 1)) (fun h => by rw [Bd.returns] at h; cases h)
            refine ⟨_, _, pre1242 _ ?_, hrun, hended, _, _, rfl, ?_, ⟨_, rfl⟩, hW, hsame.mono (by decide) (by decide)⟩
            · exact retN X1239 hx (t := .boolean) Bd.returns (by simp) (hb hby at_102) hr
            · show Q0 Z p1 p2 p3 p4 p5 cs vf h0 n0 _ T1239.heap _
              rw [e1239]
              exact ⟨rfl, N1239, K1112⟩
          · obtain ⟨T1243, L1243, X1243, e1243, N1243, st1243⟩ := own_pS X1239 hx hZ hml hown N1239 (ow hw 6 rfl) (ow hw 7 rfl) (ow hw 2 rfl) (ow hw 8 rfl) e1239 (rm2_A2 l Z a0 hw [] b1103 (4 : Int32) k1103 z1093 z1095 z1098 z1100 h1112 n0 z1113 V1112 (by decide) (by decide)) (W := 0) (g := (mkF m 84 #[iv p1, iv p2, iv p3, iv p4, iv p5, iv 4, iv z1093, iv z1095, iv z1098, iv z1100, rv b1103, .unset] [(.int 2), (.int 4), (.ref b1103)])) (argsL := [(.ref b1103), (.int 4), (.int 2)]) (rest := []) (lenOf pd_17 rfl) (hb hby at_84)
            have pre1244 := own_go pre1240 (T1243.setTop (mkF m 87 #[iv p1, iv p2, iv p3, iv p4, iv p5, iv 4, iv z1093, iv z1095, iv z1098, iv z1100, rv b1103, .unset] [(.int (own_F2_A2 b1103 (4 : Int32) k1103 z1093 z1095 z1098 z1100))])) fun t kt => by
              refine XS.ifNo X1239.here hx rfl (hb hby at_76) rfl ((if0 _ _).trans (feq hc76_1241).1) ?_
              refine XS.aload X1239.here hx rfl (hb hby at_79) rfl rfl ?_
              refine XS.iload X1239.here hx rfl (hb hby at_81) rfl ?_
              refine XS.iconst X1239.here hx rfl (hb hby at_83) ?_
              refine st1243 _ ?_
              exact kt
            by_cases hc87_1245 : (own_F2_A2 b1103 (4 : Int32) k1103 z1093 z1095 z1098 z1100) = (0 : Int32)
            · have pre1246 := own_go pre1244 (T1243.setTop (mkF m 102 #[iv p1, iv p2, iv p3, iv p4, iv p5, iv 4, iv z1093, iv z1095, iv z1098, iv z1100, rv b1103, .unset] [(.int 1)])) fun t kt => by
                refine XS.ifYes X1243.here hx rfl (pc0 := 87) (pc' := 101) rfl (hb hby at_87) rfl ((if0 _ _).trans (teq hc87_1245).1) (by decide) (by decide) ?_
                refine XS.iconst X1243.here hx rfl (hb hby at_101) ?_
                exact kt
              obtain ⟨fs, hr, hrun, hended, hW, hsame⟩ := X1243.leave (v := some (.int 1)) (fun h => by rw [Bd.returns] at h; cases h)
              refine ⟨_, _, pre1246 _ ?_, hrun, hended, _, _, rfl, ?_, ⟨_, rfl⟩, hW, hsame.mono (by decide) (by decide)⟩
              · exact retN X1243 hx (t := .boolean) Bd.returns (by simp) (hb hby at_102) hr
              · show Q0 Z p1 p2 p3 p4 p5 cs vf h0 n0 _ T1243.heap _
                rw [e1243]
                exact ⟨rfl, N1243, K1112⟩
            · obtain ⟨T1247, L1247, X1247, e1247, N1247, st1247⟩ := own_pS X1243 hx hZ hml hown N1243 (ow hw 6 rfl) (ow hw 7 rfl) (ow hw 2 rfl) (ow hw 8 rfl) e1243 (rm2_B3 l Z a0 hw [] b1103 (4 : Int32) k1103 z1093 z1095 z1098 z1100 h1112 n0 z1113 V1112 (by decide) (by decide)) (W := 0) (g := (mkF m 95 #[iv p1, iv p2, iv p3, iv p4, iv p5, iv 4, iv z1093, iv z1095, iv z1098, iv z1100, rv b1103, .unset] [(.int 3), (.int 4), (.ref b1103)])) (argsL := [(.ref b1103), (.int 4), (.int 3)]) (rest := []) (lenOf pd_17 rfl) (hb hby at_95)
              have pre1248 := own_go pre1244 (T1247.setTop (mkF m 98 #[iv p1, iv p2, iv p3, iv p4, iv p5, iv 4, iv z1093, iv z1095, iv z1098, iv z1100, rv b1103, .unset] [(.int (own_F2_B3 b1103 (4 : Int32) k1103 z1093 z1095 z1098 z1100))])) fun t kt => by
                refine XS.ifNo X1243.here hx rfl (hb hby at_87) rfl ((if0 _ _).trans (feq hc87_1245).1) ?_
                refine XS.aload X1243.here hx rfl (hb hby at_90) rfl rfl ?_
                refine XS.iload X1243.here hx rfl (hb hby at_92) rfl ?_
                refine XS.iconst X1243.here hx rfl (hb hby at_94) ?_
                refine st1247 _ ?_
                exact kt
              by_cases hc98_1249 : (own_F2_B3 b1103 (4 : Int32) k1103 z1093 z1095 z1098 z1100) = (0 : Int32)
              · have pre1250 := own_go pre1248 (T1247.setTop (mkF m 102 #[iv p1, iv p2, iv p3, iv p4, iv p5, iv 4, iv z1093, iv z1095, iv z1098, iv z1100, rv b1103, .unset] [(.int 1)])) fun t kt => by
                  refine XS.ifNo X1247.here hx rfl (hb hby at_98) rfl ((if0 _ _).trans (teq hc98_1249).2) ?_
                  refine XS.iconst X1247.here hx rfl (hb hby at_101) ?_
                  exact kt
                obtain ⟨fs, hr, hrun, hended, hW, hsame⟩ := X1247.leave (v := some (.int 1)) (fun h => by rw [Bd.returns] at h; cases h)
                refine ⟨_, _, pre1250 _ ?_, hrun, hended, _, _, rfl, ?_, ⟨_, rfl⟩, hW, hsame.mono (by decide) (by decide)⟩
                · exact retN X1247 hx (t := .boolean) Bd.returns (by simp) (hb hby at_102) hr
                · show Q0 Z p1 p2 p3 p4 p5 cs vf h0 n0 _ T1247.heap _
                  rw [e1247]
                  exact ⟨rfl, N1247, K1112⟩
              · obtain ⟨T1251, h1251, X1251, e1251, E1251, A1251, D1251, -, st1251⟩ := newO X1247 hx hZ hown (ow hw 20 rfl) (ow hw 21 rfl) (ow hw 22 rfl) e1247 (g := (mkF m 196 #[iv p1, iv p2, iv p3, iv p4, iv p5, iv 4, iv z1093, iv z1095, iv z1098, iv z1100, rv b1103, .unset] [])) rfl (hb hby at_196) (by decide) (by decide)
                obtain ⟨b1251, g1251⟩ : ∃ z, z = h1112.size := ⟨_, rfl⟩
                rw [← g1251] at A1251 D1251 st1251
                have ne1252 : b1103 ≠ b1251 := Nat.ne_of_lt (Nat.lt_of_lt_of_le V1112.lt (Nat.le_of_eq g1251.symm))
                have g_b1251 : n0 ≤ b1251 := Nat.le_trans z1113 (Nat.le_of_eq g1251.symm)
                have sz_b1251 : h0.size ≤ b1251 := Nat.le_trans K1112.1 (Nat.le_of_eq g1251.symm)
                have K1251 : Keep h0 h1251 [] := K1112.ext E1251
                have f1253 : Fld Z h1251 b1251 "java/lang/String" "coder" "B" (.int 0) := D1251 (Or.inr (ow hw 46 rfl)) (ty := .byte) (by decide)
                have f1254 : Fld Z h1251 b1251 "java/lang/String" "value" "[B" .null := D1251 (Or.inr (ow hw 48 rfl)) (ty := (.array .byte)) (by decide)
                have f1255 := ((f1110.wr W1112 g_b1103).ext E1251)
                obtain ⟨T1256, h1256, k1256, X1256, e1256, E1256, A1256, st1256⟩ := newP X1251 hx hZ (ow hw 5 rfl) e1251 (g := (mkF m 201 #[iv p1, iv p2, iv p3, iv p4, iv p5, iv 4, iv z1093, iv z1095, iv z1098, iv z1100, rv b1103, .unset] [(.int 4), (.ref b1251), (.ref b1251)])) rfl (hb hby at_201) rfl (by decide) (cap := 4) (by decide) (by decide) (by decide) (by decide)
                obtain ⟨b1256, g1256⟩ : ∃ z, z = h1251.size := ⟨_, rfl⟩
                rw [← g1256] at A1256 st1256
                have ne1257 : b1103 ≠ b1256 := Nat.ne_of_lt (Nat.lt_of_lt_of_le (V1112.ext E1251).lt (Nat.le_of_eq g1256.symm))
                have ne1258 : b1251 ≠ b1256 := Nat.ne_of_lt (Nat.lt_of_lt_of_le A1251.lt (Nat.le_of_eq g1256.symm))
                have g_b1256 : n0 ≤ b1256 := Nat.le_trans (Nat.le_trans z1113 E1251.1) (Nat.le_of_eq g1256.symm)
                have sz_b1256 : h0.size ≤ b1256 := Nat.le_trans K1251.1 (Nat.le_of_eq g1256.symm)
                have K1256 : Keep h0 h1256 [] := K1251.ext E1256
                have V1256 : Arv Z h1256 b1256 k1256 .char (4 : Int32) [(.int 0), (.int 0), (.int 0), (.int 0)] (.int (0 : Int32)) := (Arv.new A1256 (by decide)).pad (pad_rep [] (.int (0 : Int32)) 4)
                have z1259 : n0 ≤ h1256.size := (Nat.le_trans (Nat.le_trans z1113 E1251.1) E1256.1)
                obtain ⟨cl1260, Ar1260, q1260, S1260, N1260z, H1260, G1260⟩ := id V1256
                obtain ⟨T1260, h1260, X1260, e1260, W1260, st1260⟩ := stC X1256 hx hZ e1256 Ar1260 (j := (0 : Int32)) (inb_of S1260 ⟨by decide, by decide⟩) (g := (mkF m 207 #[iv p1, iv p2, iv p3, iv p4, iv p5, iv 4, iv z1093, iv z1095, iv z1098, iv z1100, rv b1103, .unset] [(.int z1093), (.int 0), (.ref b1256), (.ref b1256), (.ref b1251), (.ref b1251)])) rfl rfl (hb hby at_207)
                have V1260 : Arv Z h1260 b1256 k1256 .char (4 : Int32) [(.int (nar .char z1093)), (.int 0), (.int 0), (.int 0)] (.int (0 : Int32)) := Arv.set Ar1260 q1260 S1260 N1260z H1260 G1260 (fits_nar_char _) W1260 0 rfl (Nat.le_of_ble_eq_true rfl)
                rw [own_ncz hr1093] at V1260
                have N1260 := Fr.snoc X1260 N1247 g_b1256
                have K1260 : Keep h0 h1260 [] := K1256.wr W1260 (Or.inr sz_b1256)
                have f1261 := ((f1255.ext E1256).wr W1260 g_b1256)
                have f1262 := (((V1112.ext E1251).ext E1256).other W1260 ne1257)
                have f1263 := ((f1253.ext E1256).other W1260 (Or.inl ne1258))
                have f1264 := ((f1254.ext E1256).other W1260 (Or.inl ne1258))
                have z1265 : n0 ≤ h1260.size := (Nat.le_trans z1259 (Keep.of_wr W1260).1)
                obtain ⟨cl1266, Ar1266, q1266, S1266, N1266z, H1266, G1266⟩ := id V1260
                obtain ⟨T1266, h1266, X1266, e1266, W1266, st1266⟩ := stC X1260 hx hZ e1260 Ar1266 (j := (1 : Int32)) (inb_of S1266 ⟨by decide, by decide⟩) (g := (mkF m 212 #[iv p1, iv p2, iv p3, iv p4, iv p5, iv 4, iv z1093, iv z1095, iv z1098, iv z1100, rv b1103, .unset] [(.int z1095), (.int 1), (.ref b1256), (.ref b1256), (.ref b1251), (.ref b1251)])) rfl rfl (hb hby at_212)
                have V1266 : Arv Z h1266 b1256 k1256 .char (4 : Int32) [(.int z1093), (.int (nar .char z1095)), (.int 0), (.int 0)] (.int (0 : Int32)) := Arv.set Ar1266 q1266 S1266 N1266z H1266 G1266 (fits_nar_char _) W1266 1 rfl (Nat.le_of_ble_eq_true rfl)
                rw [own_ncz hr1095] at V1266
                have N1266 := Fr.snoc X1266 N1260 g_b1256
                have K1266 : Keep h0 h1266 [] := K1260.wr W1266 (Or.inr sz_b1256)
                have f1267 := (((A1251.ext E1256).wr W1260).wr W1266)
                have f1268 := (f1263.other W1266 (Or.inl ne1258))
                have f1269 := (f1264.other W1266 (Or.inl ne1258))
                have z1270 : n0 ≤ h1266.size := (Nat.le_trans z1265 (Keep.of_wr W1266).1)
                obtain ⟨cl1271, Ar1271, q1271, S1271, N1271z, H1271, G1271⟩ := id V1266
                obtain ⟨T1271, h1271, X1271, e1271, W1271, st1271⟩ := stC X1266 hx hZ e1266 Ar1271 (j := (2 : Int32)) (inb_of S1271 ⟨by decide, by decide⟩) (g := (mkF m 217 #[iv p1, iv p2, iv p3, iv p4, iv p5, iv 4, iv z1093, iv z1095, iv z1098, iv z1100, rv b1103, .unset] [(.int z1098), (.int 2), (.ref b1256), (.ref b1256), (.ref b1251), (.ref b1251)])) rfl rfl (hb hby at_217)
                have V1271 : Arv Z h1271 b1256 k1256 .char (4 : Int32) [(.int z1093), (.int z1095), (.int (nar .char z1098)), (.int 0)] (.int (0 : Int32)) := Arv.set Ar1271 q1271 S1271 N1271z H1271 G1271 (fits_nar_char _) W1271 2 rfl (Nat.le_of_ble_eq_true rfl)
                rw [own_ncz hr1098] at V1271
                have N1271 := Fr.snoc X1271 N1266 g_b1256
                have K1271 : Keep h0 h1271 [] := K1266.wr W1271 (Or.inr sz_b1256)
                have f1272 := ((f1261.wr W1266 g_b1256).wr W1271 g_b1256)
                have f1273 := ((f1262.other W1266 ne1257).other W1271 ne1257)
                have f1274 := (f1268.other W1271 (Or.inl ne1258))
                have f1275 := (f1269.other W1271 (Or.inl ne1258))
                have z1276 : n0 ≤ h1271.size := (Nat.le_trans z1270 (Keep.of_wr W1271).1)
                obtain ⟨cl1277, Ar1277, q1277, S1277, N1277z, H1277, G1277⟩ := id V1271
                obtain ⟨T1277, h1277, X1277, e1277, W1277, st1277⟩ := stC X1271 hx hZ e1271 Ar1277 (j := (3 : Int32)) (inb_of S1277 ⟨by decide, by decide⟩) (g := (mkF m 222 #[iv p1, iv p2, iv p3, iv p4, iv p5, iv 4, iv z1093, iv z1095, iv z1098, iv z1100, rv b1103, .unset] [(.int z1100), (.int 3), (.ref b1256), (.ref b1256), (.ref b1251), (.ref b1251)])) rfl rfl (hb hby at_222)
                have V1277 : Arv Z h1277 b1256 k1256 .char (4 : Int32) [(.int z1093), (.int z1095), (.int z1098), (.int (nar .char z1100))] (.int (0 : Int32)) := Arv.set Ar1277 q1277 S1277 N1277z H1277 G1277 (fits_nar_char _) W1277 3 rfl (Nat.le_of_ble_eq_true rfl)
                rw [own_ncz hr1100] at V1277
                have N1277 := Fr.snoc X1277 N1271 g_b1256
                have K1277 : Keep h0 h1277 [] := K1271.wr W1277 (Or.inr sz_b1256)
                have f1278 := (f1274.other W1277 (Or.inl ne1258))
                have f1279 := (f1275.other W1277 (Or.inl ne1258))
                have z1280 : n0 ≤ h1277.size := (Nat.le_trans z1276 (Keep.of_wr W1277).1)
                obtain ⟨_, T1281, L1281, X1281, hQ1281, st1281⟩ := own_cI X1277 hx hZ hml hown rfl (ow hw 23 rfl) (ow hw 24 rfl) (ow hw 22 rfl) (ow hw 25 rfl) e1277 (rmNS_4 l Z a0 hw [] b1251 b1256 k1256 z1093 z1095 z1098 z1100 cs h1277 n0 z1280 ((f1267.wr W1271).wr W1277) f1279 f1278 V1277 (f1272.wr W1277 g_b1256) R1 R3 R4 R5 (Ne.symm ne1258) g_b1251 hcs hr1093 hr1095 hr1098 hr1100) (W := 1) (g := (mkF m 223 #[iv p1, iv p2, iv p3, iv p4, iv p5, iv 4, iv z1093, iv z1095, iv z1098, iv z1100, rv b1103, .unset] [(.ref b1256), (.ref b1251), (.ref b1251)])) (argsL := [(.ref b1256)]) (rest := [(.ref b1251)]) (lenOf pd_18 rfl) (hb hby at_223)
                obtain ⟨rfl, N1281q, K1281q, hS1281⟩ := hQ1281
                have N1281 := Fr.app N1277 N1281q
                have K1281 : Keep h0 T1281.heap [] := K1277.trans K1281q (allS (Or.inr sz_b1251) all0)
                have f1282 := ((f1272.wr W1277 g_b1256).keep K1281q (allS g_b1251 all0))
                have f1283 := ((f1273.other W1277 ne1257).keep K1281q (ninS ne1252 nin0))
                have f1284 := (((f1267.wr W1271).wr W1277).keep K1281q)
                have f1285 := (V1277.keep K1281q (ninS (Ne.symm ne1258) nin0))
                obtain ⟨T1286, L1286, X1286, e1286, N1286, st1286⟩ := own_pS X1281 hx hZ hml hown N1281 (ow hw 49 rfl) (ow hw 50 rfl) (ow hw 51 rfl) (ow hw 52 rfl) rfl (rm12_4 l Z a0 hw [] b1251 z1093 z1095 z1098 z1100 cs vf T1281.heap n0 (Nat.le_trans z1280 K1281q.1) hS1281 (R1.ext f1282.2) hcs (R2.ext f1282.2) hvf (R3.ext f1282.2) (R4.ext f1282.2) (R5.ext f1282.2) (own_p_A0 hc65_1237) (own_p_A1 hc76_1241) (own_p_A2 hc87_1245) (own_p_B3 hc98_1249)) (W := 0) (g := (mkF m 230 #[iv p1, iv p2, iv p3, iv p4, iv p5, iv 4, iv z1093, iv z1095, iv z1098, iv z1100, rv b1103, rv b1251] [(.ref b1251)])) (argsL := [(.ref b1251)]) (rest := []) (lenOf pd_19 rfl) (hb hby at_230)
                obtain ⟨T1287, L1287, X1287, e1287, N1287, st1287⟩ := own_pV X1286 hx hZ hml hown N1286 (ow hw 101 rfl) (ow hw 59 rfl) (notFace_of_selects (args := #[]) (mvT hZ (ow hw 61 rfl))) (ow hw 61 rfl) (ow hw 60 rfl) (ow hw 22 rfl) (ow hw 62 rfl) e1286 (rmLN_4 l Z a0 hw [] b1251 z1093 z1095 z1098 z1100 cs vf T1281.heap n0 (Nat.le_trans z1280 K1281q.1) hS1281 (R1.ext f1282.2) hcs (R2.ext f1282.2) hvf (R3.ext f1282.2) (R4.ext f1282.2) (R5.ext f1282.2)) (own_Exa4 hS1281) (W := 0) (g := (mkF m 235 #[iv p1, iv p2, iv p3, iv p4, iv p5, iv 4, iv z1093, iv z1095, iv z1098, iv z1100, rv b1103, rv b1251] [(.ref b1251)])) (argsL := []) (rest := []) (lenOf pd_15 rfl) (hb hby at_235)
                have pre1288 := own_go pre1248 (T1287.setTop (mkF m 248 #[iv p1, iv p2, iv p3, iv p4, iv p5, iv 4, iv z1093, iv z1095, iv z1098, iv z1100, rv b1103, rv b1251] [(.int 1)])) fun t kt => by
                  refine XS.ifYes X1247.here hx rfl (pc0 := 98) (pc' := 103) rfl (hb hby at_98) rfl ((if0 _ _).trans (feq hc98_1249).2) (by decide) (by decide) ?_
                  refine XS.iload X1247.here hx rfl (hb hby at_103) rfl ?_
                  refine XS.iconst X1247.here hx rfl (hb hby at_105) ?_
                  refine XS.icmpYes X1247.here hx rfl (pc0 := 106) (pc' := 129) rfl (hb hby at_106) rfl (feq (by decide : ¬ ((4 : Int32) = (1 : Int32)))).2 (by decide) (by decide) ?_
                  refine XS.iload X1247.here hx rfl (hb hby at_129) rfl ?_
                  refine XS.iconst X1247.here hx rfl (hb hby at_131) ?_
                  refine XS.icmpYes X1247.here hx rfl (pc0 := 132) (pc' := 160) rfl (hb hby at_132) rfl (feq (by decide : ¬ ((4 : Int32) = (2 : Int32)))).2 (by decide) (by decide) ?_
                  refine XS.iload X1247.here hx rfl (hb hby at_160) rfl ?_
                  refine XS.iconst X1247.here hx rfl (hb hby at_162) ?_
                  refine XS.icmpYes X1247.here hx rfl (pc0 := 163) (pc' := 196) rfl (hb hby at_163) rfl (feq (by decide : ¬ ((4 : Int32) = (3 : Int32)))).2 (by decide) (by decide) ?_
                  refine st1251 _ ?_
                  refine XS.dup X1251.here hx rfl (hb hby at_199) rfl rfl ?_
                  refine XS.iconst X1251.here hx rfl (hb hby at_200) ?_
                  refine st1256 _ ?_
                  refine XS.dup X1256.here hx rfl (hb hby at_203) rfl rfl ?_
                  refine XS.iconst X1256.here hx rfl (hb hby at_204) ?_
                  refine XS.iload X1256.here hx rfl (hb hby at_205) rfl ?_
                  refine st1260 _ ?_
                  refine XS.dup X1260.here hx rfl (hb hby at_208) rfl rfl ?_
                  refine XS.iconst X1260.here hx rfl (hb hby at_209) ?_
                  refine XS.iload X1260.here hx rfl (hb hby at_210) rfl ?_
                  refine st1266 _ ?_
                  refine XS.dup X1266.here hx rfl (hb hby at_213) rfl rfl ?_
                  refine XS.iconst X1266.here hx rfl (hb hby at_214) ?_
                  refine XS.iload X1266.here hx rfl (hb hby at_215) rfl ?_
                  refine st1271 _ ?_
                  refine XS.dup X1271.here hx rfl (hb hby at_218) rfl rfl ?_
                  refine XS.iconst X1271.here hx rfl (hb hby at_219) ?_
                  refine XS.iload X1271.here hx rfl (hb hby at_220) rfl ?_
                  refine st1277 _ ?_
                  refine st1281 _ ?_
                  refine XS.astore X1281.here hx rfl (hb hby at_226) rfl rfl (l' := #[iv p1, iv p2, iv p3, iv p4, iv p5, iv 4, iv z1093, iv z1095, iv z1098, iv z1100, rv b1103, rv b1251]) rfl ?_
                  refine XS.aload X1281.here hx rfl (hb hby at_228) rfl rfl ?_
                  refine st1286 _ ?_
                  refine XS.aload X1286.here hx rfl (hb hby at_233) rfl rfl ?_
                  refine st1287 _ ?_
                  refine XS.iload X1287.here hx rfl (hb hby at_238) rfl ?_
                  refine XS.icmpNo X1287.here hx rfl (hb hby at_240) rfl (teq (by decide : (4 : Int32) = (4 : Int32))).2 ?_
                  refine XS.iconst X1287.here hx rfl (hb hby at_243) ?_
                  refine XS.goto X1287.here hx rfl (pc0 := 244) (pc' := 248) rfl (hb hby at_244) (by decide) (by decide) ?_
                  exact kt
                obtain ⟨fs, hr, hrun, hended, hW, hsame⟩ := X1287.leave (v := some (.int 1)) (fun h => by rw [Bd.returns] at h; cases h)
                refine ⟨_, _, pre1288 _ ?_, hrun, hended, _, _, rfl, ?_, ⟨_, rfl⟩, hW, hsame.mono (by decide) (by decide)⟩
                · exact retN X1287 hx (t := .boolean) Bd.returns (by simp) (hb hby at_248) hr
                · show Q0 Z p1 p2 p3 p4 p5 cs vf h0 n0 _ T1287.heap _
                  rw [e1287]
                  exact ⟨rfl, N1287, K1281⟩
theorem own_eqs {Z : State} {args : Array Value} {t : Term} {k : Int32} (h : (Jvm.Cond.eq t (.int k)).value args Z none Z [] = some true) : t.eval args Z none [] Z = some (.int k) := by
  obtain ⟨x, y, h1, h2, h3, -⟩ := cmp_v (Or.inl h)
  have e2 : y = .int k := (Option.some.inj (h2.symm.trans (Term.int_eval k)))
  subst e2
  have e1 : x = .int k := by
    cases x with
    | int z => simpa [Cond.value, h1, h2] using h
    | _ => simp [Cond.value, h1, h2] at h
  rw [h1, e1]
set_option maxRecDepth 65536 in
set_option maxHeartbeats 40000000 in
theorem comes_1 {Post : Tables → Env → Array Value → State → Outcome → State → Prop} (hpost : ∀ tb e args s v u, (limb_1_1.after args s (.returned v) u = true ∧ limb_1_2.after args s (.returned v) u = true ∧ True) → FrameEnd s (.returned v) u (Jvm.fieldLocs frame_1_writes args s ++ Jvm.arrayLocs frame_1_arrays args s ++ Jvm.staticLocs frame_1_statics s) 32 256 → Post tb e args s (.returned v) u) :
    ArmFor flags0 classFile x code maxLocals ret World_1 tables_1 room_1 Calls_1 rest_1 Pre_1 Post := by
  intro l hfl _ _ p e ha hc hk s m args below hf hA hF happ hP
  obtain ⟨hcalls, hrest, hpre⟩ := hP
  obtain ⟨-, -, -, hnamed, -, -, -, hat⟩ := (Spec.applies_iff hf).mp happ
  obtain ⟨hg, hn⟩ := and_e (Cond.before_iff.mp (show (Jvm.Cond.and given_1 narrow_1).before args s = true from hpre))
  obtain ⟨gc, gr0⟩ := and_e hg
  obtain ⟨ga0, gr1⟩ := and_e gr0
  obtain ⟨ga1, gr2⟩ := and_e gr1
  obtain ⟨ga2, gr3⟩ := and_e gr2
  obtain ⟨ga3, gr4⟩ := and_e gr3
  obtain ⟨w0, w1, w2, w3, w4, rfl⟩ : ∃ w0 w1 w2 w3 w4 : Value, args = #[w0, w1, w2, w3, w4] := by
    have hs : args.size = 5 := by simpa [Cond.value, given_1] using gc
    obtain ⟨L⟩ := args
    match L, hs with
    | [w0, w1, w2, w3, w4], _ => exact ⟨w0, w1, w2, w3, w4, rfl⟩
  have hw := fun d (hd : d ∈ tables_1) => atoms_spec (ws := Jvm.Cond.code x code maxLocals ret :: tables_1) hat d (List.mem_cons_of_mem _ hd)
  have hfit : Fit s := fun {y c} hc i hi => by
    obtain ⟨ha, rfl⟩ := Array.getElem?_eq_some_iff.mp hc
    have q := List.all_eq_true.mp ((Array.all_eq_true_iff_forall_mem.mp hF) _ (Array.getElem_mem ha)) i (List.mem_range.mpr hi)
    simpa [Array.getElem?_eq_getElem hi] using q
  obtain ⟨i0, ei0⟩ := is_v ga0
  obtain rfl : w0 = (.int i0) := Option.some.inj ei0
  obtain ⟨i1, ei1⟩ := is_v ga1
  obtain rfl : w1 = (.int i1) := Option.some.inj ei1
  obtain ⟨i2, ei2⟩ := is_v ga2
  obtain rfl : w2 = (.int i2) := Option.some.inj ei2
  obtain ⟨i3, ei3⟩ := is_v ga3
  obtain rfl : w3 = (.int i3) := Option.some.inj ei3
  obtain ⟨i4, ei4⟩ := is_v gr4
  obtain rfl : w4 = (.int i4) := Option.some.inj ei4
  obtain ⟨hsets, hown0⟩ := atoms_of _ (rest_1_c_eq ▸ (show rest_1_c.before _ s = true from hrest))
  obtain ⟨cs, evC⟩ := is_v (Cond.before_iff.mp (hsets _ (own_g 1 rfl)))
  have SC := Sta.start evC (Or.inl (hsets _ (own_g 0 rfl)))
  have hcs : ¬ cs = (0 : Int32) := by
    have q := Cond.before_iff.mp (hsets _ (own_g 2 rfl))
    intro h
    subst h
    simp [Cond.value, evC, Term.int_eval] at q
  obtain ⟨vf, evF, hvf⟩ := isR_v (Cond.before_iff.mp (hsets _ (own_g 8 rfl)))
  have SF := Sta.start evF (Or.inl (hsets _ (own_g 7 rfl)))
  have SA := Sta.start (own_eqs (Cond.before_iff.mp (hsets _ (own_g 12 rfl)))) (Or.inl (hsets _ (own_g 11 rfl)))
  have SH := Sta.start (own_eqs (Cond.before_iff.mp (hsets _ (own_g 15 rfl)))) (Or.inl (hsets _ (own_g 14 rfl)))
  have SL := Sta.start (own_eqs (Cond.before_iff.mp (hsets _ (own_g 18 rfl)))) (Or.inl (hsets _ (own_g 17 rfl)))
  obtain ⟨n, o, h1, h2, h3, _, L, rfl, ⟨rfl, N, -⟩, hq⟩ := rm0 l s _ hw tables_1 i0 i1 i2 i3 i4 cs vf s.heap s.heap.size (Nat.le_refl _) (Old.start s) SC SF SA SH SL hcs hvf p e ha hc hk s m _ below hf ((Spec.applies_iff_loose hf).mp happ).1 ⟨rfl, State.Warmed39.refl s, rfl⟩ trivial
  refine ⟨n, _, h1, h2, h3, hpost _ _ _ _ _ _ ⟨Cond.after_iff.mpr rfl, Cond.after_iff.mpr (eq_i res_at (Term.int_eval (1)) rfl), trivial⟩ ⟨hq.1, hq.2.1, (hq.2.2.sift fun y hy => Or.inr (N y hy)).mono (by decide) (by decide)⟩⟩
theorem main_1_1 : Claimed_1_1 := comes_1 fun _ _ _ _ _ _ h hF => ⟨h.1, hF⟩
theorem main_1_2 : Claimed_1_2 := comes_1 fun _ _ _ _ _ _ h hF => ⟨h.2.1, hF⟩
end Jvm.Pilot.@@N@@
namespace Jvm.Pilot.@@N@@
open Jvm Jvm.ClassFile Sem Op Lib Jvm.Free Jvm.Stand Jvm.Pilot.@@N@@.Jvm.D
/-! MADE BY PROGRAM (witnessworld.py) out of the Statement's table words and the real class files: 21 classes; the members and pool entries that the words name. The judged class is class 1, her method 1. -/
namespace start1
open Jvm.ClassFile
def u (s : String) : CpInfo := .utf8 (stringToUtf16 s)
/-- a pool by its gaps: so many unusable entries, then the entry; so many at the end -/
def gap : Nat → List CpInfo → List CpInfo
  | 0, r => r
  | n + 1, r => .unusable :: gap n r
def poolList (es : List (Nat × CpInfo)) (last : Nat) : List CpInfo := es.foldr (fun e r => gap e.1 (e.2 :: r)) (gap last [])
def pool (es : List (Nat × CpInfo)) (last : Nat) : Array CpInfo := ⟨poolList es last⟩
def fileOf (pool : Array CpInfo) (this : Nat) (attrs : Array Attribute := #[]) (ms : Array MethodInfo := #[]) (fl : Nat := 33) (sup : Nat := 0) (ifs : Array Nat := #[]) (fds : Array FieldInfo := #[]) : ClassFile where
  minorVersion := 0
  majorVersion := 65
  constantPool := pool
  accessFlags := fl
  thisClass := this
  superClass := sup
  interfaces := ifs
  fields := fds
  methods := ms
  attributes := attrs
def plain (name : String) (sup : Option ClassId) : Class where
  name := name
  kind := .ordinary
  loader := none
  accessFlags := 33
  super := sup
  interfaces := #[]
  cf := none
  fields := #[]
  methods := #[]
  instanceTypes := #[]
  staticTypes := #[]
  resolved := #[]
  callSites := []
  init := .initialized
  statics := none
  mirror := none

def pool0 : Array CpInfo := pool [(5, u "<init>"), (0, u "()V"), (1, .class_ 10), (1, u "java/lang/Object")] 113

def k0c0 : Code := { maxStack := 0, maxLocals := 1, code := object_method_1_code, exceptionTable := #[], attributes := #[] }
def k0m0 : Method := { name := "<init>", desc := "()V", sig := { parameters := [], returnType := none }, accessFlags := 1, code := some k0c0 }
/-- java/lang/Object -/
def k0 : Class := { plain "java/lang/Object" none with
  accessFlags := 33
  interfaces := #[]
  cf := some (fileOf pool0 8 #[] #[{ accessFlags := 1, nameIndex := 5, descriptorIndex := 6, attributes := #[] }] 33 0 #[] #[])
  fields := #[]
  methods := #[k0m0]
  instanceTypes := #[]
  staticTypes := #[]
  resolved := Array.replicate 124 none
  statics := none }

def pool1 : Array CpInfo := pool [(2, .class_ 4), (1, u "java/lang/Object"), (0, u "<init>"), (0, u "()V"), (0, .methodref 8 9), (0, .class_ 10), (0, .nameAndType 11 12), (0, u "com/example/lexiflow/lexiflow/model/IdsCheckPinLaw"), (0, u "draw"), (0, u "(I)C"), (0, .methodref 8 14), (0, .nameAndType 15 16), (0, u "ok"), (0, u "([CII)Z"), (0, .class_ 18), (0, u "java/lang/String"), (0, .methodref 17 20), (0, .nameAndType 5 21), (0, u "([C)V"), (0, .methodref 23 24), (0, .class_ 25), (0, .nameAndType 26 27), (0, u "com/example/lexiflow/lexiflow/model/Ids"), (0, u "check"), (0, u "(Ljava/lang/String;)V"), (0, .methodref 17 29), (0, .nameAndType 30 31), (0, u "length"), (0, u "()I"), (0, .integer 65535), (0, .integer 55296), (0, .integer 56320), (0, .integer 55295), (0, .integer 57344), (0, .integer 65534), (0, .integer 56319), (0, .integer 57343), (0, .methodref 8 41), (0, .nameAndType 42 43), (0, u "forbidden"), (0, u "(C)Z"), (0, .methodref 8 45), (0, .nameAndType 46 43), (0, u "isHigh"), (0, .methodref 8 48), (0, .nameAndType 49 43), (0, u "isLow"), (2, u "law"), (0, u "(IIIII)Z")] 5

def k1m0 : Method := { name := "<init>", desc := "()V", sig := { parameters := [], returnType := none }, accessFlags := 2, code := none }
def k1c1 : Code := { maxStack := 6, maxLocals := 12, code := code, exceptionTable := #[], attributes := #[] }
def k1m1 : Method := { name := "law", desc := "(IIIII)Z", sig := { parameters := [.int, .int, .int, .int, .int], returnType := some .boolean }, accessFlags := 9, code := some k1c1 }
def k1c2 : Code := { maxStack := 4, maxLocals := 4, code := method_3_code, exceptionTable := #[], attributes := #[] }
def k1m2 : Method := { name := "draw", desc := "(I)C", sig := { parameters := [.int], returnType := some .char }, accessFlags := 10, code := some k1c2 }
def k1c3 : Code := { maxStack := 2, maxLocals := 1, code := method_4_code, exceptionTable := #[], attributes := #[] }
def k1m3 : Method := { name := "isHigh", desc := "(C)Z", sig := { parameters := [.char], returnType := some .boolean }, accessFlags := 10, code := some k1c3 }
def k1c4 : Code := { maxStack := 2, maxLocals := 1, code := method_5_code, exceptionTable := #[], attributes := #[] }
def k1m4 : Method := { name := "isLow", desc := "(C)Z", sig := { parameters := [.char], returnType := some .boolean }, accessFlags := 10, code := some k1c4 }
def k1c5 : Code := { maxStack := 2, maxLocals := 1, code := method_6_code, exceptionTable := #[], attributes := #[] }
def k1m5 : Method := { name := "forbidden", desc := "(C)Z", sig := { parameters := [.char], returnType := some .boolean }, accessFlags := 10, code := some k1c5 }
def k1c6 : Code := { maxStack := 3, maxLocals := 4, code := method_7_code, exceptionTable := #[], attributes := #[] }
def k1m6 : Method := { name := "ok", desc := "([CII)Z", sig := { parameters := [(.array .char), .int, .int], returnType := some .boolean }, accessFlags := 10, code := some k1c6 }
/-- com/example/lexiflow/lexiflow/model/IdsCheckPinLaw -/
def k1 : Class := { plain "com/example/lexiflow/lexiflow/model/IdsCheckPinLaw" (some 0) with
  accessFlags := 49
  interfaces := #[]
  cf := some (fileOf pool1 8 #[] #[{ accessFlags := 2, nameIndex := 5, descriptorIndex := 6, attributes := #[] }, { accessFlags := 9, nameIndex := 52, descriptorIndex := 53, attributes := #[] }, { accessFlags := 10, nameIndex := 11, descriptorIndex := 12, attributes := #[] }, { accessFlags := 10, nameIndex := 46, descriptorIndex := 43, attributes := #[] }, { accessFlags := 10, nameIndex := 49, descriptorIndex := 43, attributes := #[] }, { accessFlags := 10, nameIndex := 42, descriptorIndex := 43, attributes := #[] }, { accessFlags := 10, nameIndex := 15, descriptorIndex := 16, attributes := #[] }] 49 2 #[] #[])
  fields := #[]
  methods := #[k1m0, k1m1, k1m2, k1m3, k1m4, k1m5, k1m6]
  instanceTypes := #[]
  staticTypes := #[]
  resolved := Array.replicate 59 none
  statics := none }

def pool2 : Array CpInfo := pool [(1, .class_ 2), (0, u "java/io/Serializable"), (0, .class_ 4), (0, u "java/lang/Object")] 2

/-- java/io/Serializable -/
def k2 : Class := { plain "java/io/Serializable" (some 0) with
  accessFlags := 1537
  interfaces := #[]
  cf := some (fileOf pool2 1 #[] #[] 1537 3 #[] #[])
  fields := #[]
  methods := #[]
  instanceTypes := #[]
  staticTypes := #[]
  resolved := Array.replicate 7 none
  statics := none }

def pool3 : Array CpInfo := pool [(1, .class_ 2), (0, u "java/lang/Comparable"), (0, .class_ 4), (0, u "java/lang/Object")] 7

/-- java/lang/Comparable -/
def k3 : Class := { plain "java/lang/Comparable" (some 0) with
  accessFlags := 1537
  interfaces := #[]
  cf := some (fileOf pool3 1 #[] #[] 1537 3 #[] #[])
  fields := #[]
  methods := #[]
  instanceTypes := #[]
  staticTypes := #[]
  resolved := Array.replicate 12 none
  statics := none }

def pool4 : Array CpInfo := pool [(2, .class_ 4), (1, u "java/lang/CharSequence"), (42, .class_ 48), (0, u "java/lang/CharSequence$1CodePointIterator"), (10, .class_ 60), (0, u "java/lang/CharSequence$1CharIterator"), (5, .class_ 67), (0, u "java/lang/Object")] 63

/-- java/lang/CharSequence -/
def k4 : Class := { plain "java/lang/CharSequence" (some 0) with
  accessFlags := 1537
  interfaces := #[]
  cf := some (fileOf pool4 2 #[.nestMembers #[47, 59]] #[] 1537 66 #[] #[])
  fields := #[]
  methods := #[]
  instanceTypes := #[]
  staticTypes := #[]
  resolved := Array.replicate 131 none
  statics := none }

def pool5 : Array CpInfo := pool [(1, .class_ 2), (0, u "java/lang/constant/Constable"), (0, .class_ 4), (0, u "java/lang/Object")] 6

/-- java/lang/constant/Constable -/
def k5 : Class := { plain "java/lang/constant/Constable" (some 0) with
  accessFlags := 1537
  interfaces := #[]
  cf := some (fileOf pool5 1 #[] #[] 1537 3 #[] #[])
  fields := #[]
  methods := #[]
  instanceTypes := #[]
  staticTypes := #[]
  resolved := Array.replicate 11 none
  statics := none }

def pool6 : Array CpInfo := pool [(1, .class_ 2), (0, u "java/lang/constant/ConstantDesc"), (0, .class_ 4), (0, u "java/lang/Object")] 32

/-- java/lang/constant/ConstantDesc -/
def k6 : Class := { plain "java/lang/constant/ConstantDesc" (some 0) with
  accessFlags := 1537
  interfaces := #[]
  cf := some (fileOf pool6 1 #[] #[] 1537 3 #[] #[])
  fields := #[]
  methods := #[]
  instanceTypes := #[]
  staticTypes := #[]
  resolved := Array.replicate 37 none
  statics := none }

def pool7 : Array CpInfo := pool [(1, .methodref 2 3), (0, .class_ 4), (0, .nameAndType 5 6), (0, u "java/lang/Object"), (0, u "<init>"), (0, u "()V"), (2, .fieldref 10 11), (0, .class_ 12), (0, .nameAndType 13 14), (0, u "java/lang/String"), (0, u "value"), (0, u "[B"), (0, .fieldref 10 16), (0, .nameAndType 17 18), (0, u "coder"), (0, u "B"), (2, u "hash"), (0, u "I"), (2, u "hashIsZero"), (0, u "Z"), (0, .methodref 10 28), (0, .nameAndType 5 29), (0, u "([CIILjava/lang/Void;)V"), (8, .fieldref 10 39), (0, .nameAndType 40 26), (0, u "COMPACT_STRINGS"), (1, .class_ 44), (1, u "java/lang/StringUTF16"), (0, u "compress"), (1, .methodref 42 48), (0, .nameAndType 49 50), (0, u "coderFromArrayLen"), (0, u "([BI)B"), (56, .class_ 109), (1, u "java/lang/StringLatin1"), (32, u "()Z"), (34, .methodref 42 178), (0, .nameAndType 45 179), (0, u "([CII)[B"), (154, u "()I"), (0, .methodref 10 336), (0, .nameAndType 17 337), (0, u "()B"), (25, u "([BI)C"), (27, u "(II)V"), (35, u "(I)C"), (64, .methodref 10 493), (0, .nameAndType 494 142), (0, u "isLatin1"), (0, .methodref 107 496), (0, .nameAndType 497 363), (0, u "charAt"), (0, .methodref 42 496), (2, u "checkIndex"), (5, u "length"), (67, .class_ 576), (0, u "java/lang/CharSequence"), (22, u "CASE_INSENSITIVE_ORDER"), (0, u "Ljava/util/Comparator;"), (91, u "isEmpty"), (317, u "([C)V"), (42, .fieldref 1054 1055), (0, .class_ 1056), (0, .nameAndType 1057 1058), (0, u "jdk/internal/util/Preconditions"), (0, u "SIOOBE_FORMATTER"), (0, u "Ljava/util/function/BiFunction;"), (0, .methodref 1054 1060), (0, .nameAndType 501 1061), (0, u "(IILjava/util/function/BiFunction;)I"), (39, u "serialPersistentFields"), (0, u "[Ljava/io/ObjectStreamField;"), (0, .class_ 1104), (0, u "java/lang/String$CaseInsensitiveComparator"), (1, .class_ 1107), (0, u "java/io/Serializable"), (0, .class_ 1109), (0, u "java/lang/Comparable"), (0, .class_ 1111), (0, u "java/lang/constant/Constable"), (0, .class_ 1113), (0, u "java/lang/constant/ConstantDesc"), (2, u "serialVersionUID"), (0, u "J"), (3, u "REPL"), (0, u "C"), (2, u "LATIN1"), (1, u "UTF16")] 323

def k7m0 : Method := { name := "<init>", desc := "()V", sig := { parameters := [], returnType := none }, accessFlags := 1, code := none }
def k7c1 : Code := { maxStack := 5, maxLocals := 2, code := jdk_42_method_3_code, exceptionTable := #[], attributes := #[] }
def k7m1 : Method := { name := "<init>", desc := "([C)V", sig := { parameters := [(.array .char)], returnType := none }, accessFlags := 1, code := some k7c1 }
def k7c2 : Code := { maxStack := 2, maxLocals := 1, code := jdk_42_method_54_code, exceptionTable := #[], attributes := #[] }
def k7m2 : Method := { name := "length", desc := "()I", sig := { parameters := [], returnType := some .int }, accessFlags := 1, code := some k7c2 }
def k7c3 : Code := { maxStack := 1, maxLocals := 1, code := jdk_42_method_55_code, exceptionTable := #[], attributes := #[] }
def k7m3 : Method := { name := "isEmpty", desc := "()Z", sig := { parameters := [], returnType := some .boolean }, accessFlags := 1, code := some k7c3 }
def k7c4 : Code := { maxStack := 2, maxLocals := 2, code := jdk_42_method_56_code, exceptionTable := #[], attributes := #[] }
def k7m4 : Method := { name := "charAt", desc := "(I)C", sig := { parameters := [.int], returnType := some .char }, accessFlags := 1, code := some k7c4 }
def k7c5 : Code := { maxStack := 4, maxLocals := 6, code := jdk_42_method_149_code, exceptionTable := #[], attributes := #[] }
def k7m5 : Method := { name := "<init>", desc := "([CIILjava/lang/Void;)V", sig := { parameters := [(.array .char), .int, .int, (.object "java/lang/Void")], returnType := none }, accessFlags := 2, code := some k7c5 }
def k7c6 : Code := { maxStack := 1, maxLocals := 1, code := jdk_42_method_152_code, exceptionTable := #[], attributes := #[] }
def k7m6 : Method := { name := "coder", desc := "()B", sig := { parameters := [], returnType := some .byte }, accessFlags := 0, code := some k7c6 }
def k7c7 : Code := { maxStack := 1, maxLocals := 1, code := jdk_42_method_154_code, exceptionTable := #[], attributes := #[] }
def k7m7 : Method := { name := "isLatin1", desc := "()Z", sig := { parameters := [], returnType := some .boolean }, accessFlags := 0, code := some k7c7 }
def k7c8 : Code := { maxStack := 3, maxLocals := 2, code := jdk_42_method_155_code, exceptionTable := #[], attributes := #[] }
def k7m8 : Method := { name := "checkIndex", desc := "(II)V", sig := { parameters := [.int, .int], returnType := none }, accessFlags := 8, code := some k7c8 }
/-- java/lang/String -/
def k7 : Class := { plain "java/lang/String" (some 0) with
  accessFlags := 49
  interfaces := #[2, 3, 4, 5, 6]
  cf := some (fileOf pool7 10 #[.nestMembers #[1103]] #[{ accessFlags := 1, nameIndex := 5, descriptorIndex := 6, attributes := #[] }, { accessFlags := 1, nameIndex := 5, descriptorIndex := 1010, attributes := #[] }, { accessFlags := 1, nameIndex := 507, descriptorIndex := 334, attributes := #[] }, { accessFlags := 1, nameIndex := 692, descriptorIndex := 142, attributes := #[] }, { accessFlags := 1, nameIndex := 497, descriptorIndex := 427, attributes := #[] }, { accessFlags := 2, nameIndex := 5, descriptorIndex := 29, attributes := #[] }, { accessFlags := 0, nameIndex := 17, descriptorIndex := 337, attributes := #[] }, { accessFlags := 0, nameIndex := 494, descriptorIndex := 142, attributes := #[] }, { accessFlags := 8, nameIndex := 501, descriptorIndex := 391, attributes := #[] }] 49 2 #[1106, 1108, 575, 1110, 1112] #[{ accessFlags := 18, nameIndex := 13, descriptorIndex := 14, attributes := #[] }, { accessFlags := 18, nameIndex := 17, descriptorIndex := 18, attributes := #[] }, { accessFlags := 2, nameIndex := 21, descriptorIndex := 22, attributes := #[] }, { accessFlags := 2, nameIndex := 25, descriptorIndex := 26, attributes := #[] }, { accessFlags := 26, nameIndex := 1116, descriptorIndex := 1117, attributes := #[] }, { accessFlags := 24, nameIndex := 40, descriptorIndex := 26, attributes := #[] }, { accessFlags := 26, nameIndex := 1101, descriptorIndex := 1102, attributes := #[] }, { accessFlags := 26, nameIndex := 1121, descriptorIndex := 1122, attributes := #[] }, { accessFlags := 25, nameIndex := 599, descriptorIndex := 600, attributes := #[] }, { accessFlags := 24, nameIndex := 1125, descriptorIndex := 18, attributes := #[] }, { accessFlags := 24, nameIndex := 1127, descriptorIndex := 18, attributes := #[] }])
  fields := #[{ name := "value", type := (.array .byte), accessFlags := 18, slot := 0, constantValue := 0 }, { name := "coder", type := .byte, accessFlags := 18, slot := 1, constantValue := 0 }, { name := "hash", type := .int, accessFlags := 2, slot := 2, constantValue := 0 }, { name := "hashIsZero", type := .boolean, accessFlags := 2, slot := 3, constantValue := 0 }, { name := "serialVersionUID", type := .long, accessFlags := 26, slot := 0, constantValue := 0 }, { name := "COMPACT_STRINGS", type := .boolean, accessFlags := 24, slot := 1, constantValue := 0 }, { name := "serialPersistentFields", type := (.array (.object "java/io/ObjectStreamField")), accessFlags := 26, slot := 2, constantValue := 0 }, { name := "REPL", type := .char, accessFlags := 26, slot := 3, constantValue := 0 }, { name := "CASE_INSENSITIVE_ORDER", type := (.object "java/util/Comparator"), accessFlags := 25, slot := 4, constantValue := 0 }, { name := "LATIN1", type := .byte, accessFlags := 24, slot := 5, constantValue := 0 }, { name := "UTF16", type := .byte, accessFlags := 24, slot := 6, constantValue := 0 }]
  methods := #[k7m0, k7m1, k7m2, k7m3, k7m4, k7m5, k7m6, k7m7, k7m8]
  instanceTypes := #[(.array .byte), .byte, .int, .boolean]
  staticTypes := #[.long, .boolean, (.array (.object "java/io/ObjectStreamField")), .char, (.object "java/util/Comparator"), .byte, .byte]
  resolved := Array.replicate 1451 none
  statics := some 0 }

def pool8 : Array CpInfo := pool [(3, .class_ 4), (0, u "java/lang/String"), (1, .class_ 8), (1, u "java/lang/Object"), (0, u "<init>"), (0, u "()V"), (0, .methodref 12 13), (0, .class_ 14), (0, .nameAndType 15 16), (0, u "java/lang/StringUTF16"), (0, u "newBytesLength"), (0, u "(I)I"), (3, .integer 1073741823), (23, .fieldref 12 45), (0, .nameAndType 46 47), (0, u "$assertionsDisabled"), (0, u "Z"), (0, .methodref 12 49), (0, .nameAndType 50 51), (0, u "length"), (0, u "([B)I"), (7, .fieldref 12 60), (0, .nameAndType 61 62), (0, u "HI_BYTE_SHIFT"), (0, u "I"), (0, .fieldref 12 64), (0, .nameAndType 65 62), (0, u "LO_BYTE_SHIFT"), (1, .methodref 12 68), (0, .nameAndType 69 70), (0, u "checkIndex"), (0, u "(I[B)V"), (0, .methodref 12 72), (0, .nameAndType 73 74), (0, u "getChar"), (0, u "([BI)C"), (32, .methodref 12 108), (0, .nameAndType 109 110), (0, u "newBytesFor"), (0, u "(I)[B"), (0, .methodref 12 112), (0, .nameAndType 113 114), (0, u "putChar"), (0, u "([BII)V"), (0, .methodref 12 116), (0, .nameAndType 117 118), (0, u "compress"), (0, u "([CI[BII)I"), (0, .methodref 12 120), (0, .nameAndType 121 122), (0, u "toBytes"), (0, u "([CII)[B"), (138, u "coderFromArrayLen"), (0, u "([BI)B"), (106, .class_ 371), (1, u "java/lang/StringUTF16$LinesSpliterator"), (20, u "charAt"), (21, .methodref 3 415), (0, .nameAndType 69 416), (0, u "(II)V"), (13, u "MAX_LENGTH"), (196, .class_ 628), (0, u "java/lang/StringUTF16$CodePointsSpliterator"), (0, .class_ 630), (0, u "java/lang/StringUTF16$CharsSpliterator")] 4

def k8m0 : Method := { name := "<init>", desc := "()V", sig := { parameters := [], returnType := none }, accessFlags := 0, code := none }
def k8c1 : Code := { maxStack := 1, maxLocals := 1, code := jdk_52_method_2_code, exceptionTable := #[], attributes := #[] }
def k8m1 : Method := { name := "newBytesFor", desc := "(I)[B", sig := { parameters := [.int], returnType := some (.array .byte) }, accessFlags := 9, code := some k8c1 }
def k8c2 : Code := { maxStack := 4, maxLocals := 1, code := jdk_52_method_3_code, exceptionTable := #[], attributes := #[] }
def k8m2 : Method := { name := "newBytesLength", desc := "(I)I", sig := { parameters := [.int], returnType := some .int }, accessFlags := 9, code := some k8c2 }
def k8c3 : Code := { maxStack := 4, maxLocals := 3, code := jdk_52_method_4_code, exceptionTable := #[], attributes := #[] }
def k8m3 : Method := { name := "putChar", desc := "([BII)V", sig := { parameters := [(.array .byte), .int, .int], returnType := none }, accessFlags := 8, code := some k8c3 }
def k8c4 : Code := { maxStack := 3, maxLocals := 2, code := jdk_52_method_5_code, exceptionTable := #[], attributes := #[] }
def k8m4 : Method := { name := "getChar", desc := "([BI)C", sig := { parameters := [(.array .byte), .int], returnType := some .char }, accessFlags := 8, code := some k8c4 }
def k8c5 : Code := { maxStack := 2, maxLocals := 1, code := jdk_52_method_6_code, exceptionTable := #[], attributes := #[] }
def k8m5 : Method := { name := "length", desc := "([B)I", sig := { parameters := [(.array .byte)], returnType := some .int }, accessFlags := 9, code := some k8c5 }
def k8c6 : Code := { maxStack := 4, maxLocals := 5, code := jdk_52_method_14_code, exceptionTable := #[], attributes := #[] }
def k8m6 : Method := { name := "toBytes", desc := "([CII)[B", sig := { parameters := [(.array .char), .int, .int], returnType := some (.array .byte) }, accessFlags := 9, code := some k8c6 }
def k8c7 : Code := { maxStack := 2, maxLocals := 2, code := jdk_52_method_15_code, exceptionTable := #[], attributes := #[] }
def k8m7 : Method := { name := "coderFromArrayLen", desc := "([BI)B", sig := { parameters := [(.array .byte), .int], returnType := some .byte }, accessFlags := 8, code := some k8c7 }
def k8c8 : Code := { maxStack := 5, maxLocals := 6, code := jdk_52_method_16_code, exceptionTable := #[], attributes := #[] }
def k8m8 : Method := { name := "compress", desc := "([CII)[B", sig := { parameters := [(.array .char), .int, .int], returnType := some (.array .byte) }, accessFlags := 9, code := some k8c8 }
def k8c9 : Code := { maxStack := 3, maxLocals := 7, code := jdk_52_method_21_code, exceptionTable := #[], attributes := #[] }
def k8m9 : Method := { name := "compress", desc := "([CI[BII)I", sig := { parameters := [(.array .char), .int, (.array .byte), .int, .int], returnType := some .int }, accessFlags := 9, code := some k8c9 }
def k8c10 : Code := { maxStack := 2, maxLocals := 2, code := jdk_52_method_83_code, exceptionTable := #[], attributes := #[] }
def k8m10 : Method := { name := "charAt", desc := "([BI)C", sig := { parameters := [(.array .byte), .int], returnType := some .char }, accessFlags := 9, code := some k8c10 }
def k8c11 : Code := { maxStack := 2, maxLocals := 2, code := jdk_52_method_91_code, exceptionTable := #[], attributes := #[] }
def k8m11 : Method := { name := "checkIndex", desc := "(I[B)V", sig := { parameters := [.int, (.array .byte)], returnType := none }, accessFlags := 9, code := some k8c11 }
/-- java/lang/StringUTF16 -/
def k8 : Class := { plain "java/lang/StringUTF16" (some 0) with
  accessFlags := 48
  interfaces := #[]
  cf := some (fileOf pool8 12 #[.nestMembers #[627, 629, 369]] #[{ accessFlags := 0, nameIndex := 9, descriptorIndex := 10, attributes := #[] }, { accessFlags := 9, nameIndex := 109, descriptorIndex := 110, attributes := #[] }, { accessFlags := 9, nameIndex := 15, descriptorIndex := 16, attributes := #[] }, { accessFlags := 8, nameIndex := 113, descriptorIndex := 114, attributes := #[] }, { accessFlags := 8, nameIndex := 73, descriptorIndex := 74, attributes := #[] }, { accessFlags := 9, nameIndex := 50, descriptorIndex := 51, attributes := #[] }, { accessFlags := 9, nameIndex := 121, descriptorIndex := 122, attributes := #[] }, { accessFlags := 8, nameIndex := 261, descriptorIndex := 262, attributes := #[] }, { accessFlags := 9, nameIndex := 117, descriptorIndex := 122, attributes := #[] }, { accessFlags := 9, nameIndex := 117, descriptorIndex := 118, attributes := #[] }, { accessFlags := 9, nameIndex := 392, descriptorIndex := 74, attributes := #[] }, { accessFlags := 9, nameIndex := 69, descriptorIndex := 70, attributes := #[] }] 48 6 #[] #[{ accessFlags := 26, nameIndex := 61, descriptorIndex := 62, attributes := #[] }, { accessFlags := 26, nameIndex := 65, descriptorIndex := 62, attributes := #[] }, { accessFlags := 24, nameIndex := 430, descriptorIndex := 62, attributes := #[] }, { accessFlags := 4120, nameIndex := 46, descriptorIndex := 47, attributes := #[] }])
  fields := #[{ name := "HI_BYTE_SHIFT", type := .int, accessFlags := 26, slot := 0, constantValue := 0 }, { name := "LO_BYTE_SHIFT", type := .int, accessFlags := 26, slot := 1, constantValue := 0 }, { name := "MAX_LENGTH", type := .int, accessFlags := 24, slot := 2, constantValue := 0 }, { name := "$assertionsDisabled", type := .boolean, accessFlags := 4120, slot := 3, constantValue := 0 }]
  methods := #[k8m0, k8m1, k8m2, k8m3, k8m4, k8m5, k8m6, k8m7, k8m8, k8m9, k8m10, k8m11]
  instanceTypes := #[]
  staticTypes := #[.int, .int, .int, .boolean]
  resolved := Array.replicate 635 none
  statics := some 1 }

def pool9 : Array CpInfo := pool [(2, .class_ 4), (1, u "java/lang/Object"), (0, u "<init>"), (0, u "()V"), (0, .methodref 8 9), (0, .class_ 10), (0, .nameAndType 11 12), (0, u "java/lang/String"), (0, u "isEmpty"), (0, u "()Z"), (6, u "(Ljava/lang/String;)V"), (0, .methodref 8 21), (0, .nameAndType 22 23), (0, u "length"), (0, u "()I"), (0, .methodref 8 25), (0, .nameAndType 26 27), (0, u "charAt"), (0, u "(I)C"), (1, .class_ 31), (1, u "com/example/lexiflow/lexiflow/model/Ids"), (5, .methodref 29 38), (0, .nameAndType 39 40), (0, u "isLineBreak"), (0, u "(C)Z"), (1, .methodref 43 44), (0, .class_ 45), (0, .nameAndType 46 40), (0, u "java/lang/Character"), (0, u "isHighSurrogate"), (0, .methodref 43 48), (0, .nameAndType 49 40), (0, u "isLowSurrogate"), (0, .methodref 43 51), (0, .nameAndType 52 40), (0, u "isSurrogate"), (4, u "check")] 24

def k9m0 : Method := { name := "<init>", desc := "()V", sig := { parameters := [], returnType := none }, accessFlags := 2, code := none }
def k9c1 : Code := { maxStack := 3, maxLocals := 3, code := prog_23_method_2_code, exceptionTable := #[], attributes := #[] }
def k9m1 : Method := { name := "check", desc := "(Ljava/lang/String;)V", sig := { parameters := [(.object "java/lang/String")], returnType := none }, accessFlags := 9, code := some k9c1 }
def k9c2 : Code := { maxStack := 2, maxLocals := 1, code := prog_23_method_4_code, exceptionTable := #[], attributes := #[] }
def k9m2 : Method := { name := "isLineBreak", desc := "(C)Z", sig := { parameters := [.char], returnType := some .boolean }, accessFlags := 10, code := some k9c2 }
/-- com/example/lexiflow/lexiflow/model/Ids -/
def k9 : Class := { plain "com/example/lexiflow/lexiflow/model/Ids" (some 0) with
  accessFlags := 49
  interfaces := #[]
  cf := some (fileOf pool9 29 #[] #[{ accessFlags := 2, nameIndex := 5, descriptorIndex := 6, attributes := #[] }, { accessFlags := 9, nameIndex := 57, descriptorIndex := 19, attributes := #[] }, { accessFlags := 10, nameIndex := 39, descriptorIndex := 40, attributes := #[] }] 49 2 #[] #[])
  fields := #[]
  methods := #[k9m0, k9m1, k9m2]
  instanceTypes := #[]
  staticTypes := #[]
  resolved := Array.replicate 82 none
  statics := none }

def pool10 : Array CpInfo := pool [(1, .class_ 2), (0, u "java/lang/String"), (1, .class_ 6), (1, u "java/lang/Object"), (0, u "<init>"), (0, u "()V"), (0, .methodref 1 10), (0, .nameAndType 11 12), (0, u "checkIndex"), (0, u "(II)V"), (1, .class_ 16), (1, u "java/lang/StringLatin1"), (36, u "([BI)C"), (67, u "$assertionsDisabled"), (0, u "Z"), (98, .class_ 223), (1, u "java/lang/StringLatin1$LinesSpliterator"), (28, u "charAt"), (137, .class_ 391), (0, u "java/lang/StringLatin1$CharsSpliterator")] 3

def k10m0 : Method := { name := "<init>", desc := "()V", sig := { parameters := [], returnType := none }, accessFlags := 0, code := none }
def k10c1 : Code := { maxStack := 2, maxLocals := 2, code := jdk_43_method_2_code, exceptionTable := #[], attributes := #[] }
def k10m1 : Method := { name := "charAt", desc := "([BI)C", sig := { parameters := [(.array .byte), .int], returnType := some .char }, accessFlags := 9, code := some k10c1 }
/-- java/lang/StringLatin1 -/
def k10 : Class := { plain "java/lang/StringLatin1" (some 0) with
  accessFlags := 48
  interfaces := #[]
  cf := some (fileOf pool10 14 #[.nestMembers #[390, 221]] #[{ accessFlags := 0, nameIndex := 7, descriptorIndex := 8, attributes := #[] }, { accessFlags := 9, nameIndex := 252, descriptorIndex := 53, attributes := #[] }] 48 4 #[] #[{ accessFlags := 4120, nameIndex := 121, descriptorIndex := 122, attributes := #[] }])
  fields := #[{ name := "$assertionsDisabled", type := .boolean, accessFlags := 4120, slot := 0, constantValue := 0 }]
  methods := #[k10m0, k10m1]
  instanceTypes := #[]
  staticTypes := #[.boolean]
  resolved := Array.replicate 395 none
  statics := none }

def pool11 : Array CpInfo := pool [(2, .class_ 4), (1, u "java/lang/Object"), (0, u "<init>"), (0, u "()V"), (17, .class_ 26), (1, u "jdk/internal/util/Preconditions"), (6, u "checkIndex"), (21, .class_ 56), (0, u "jdk/internal/util/Preconditions$4"), (57, .class_ 115), (0, u "jdk/internal/util/Preconditions$1"), (7, u "SIOOBE_FORMATTER"), (0, u "Ljava/util/function/BiFunction;"), (0, .class_ 126), (0, u "jdk/internal/util/Preconditions$2"), (3, u "AIOOBE_FORMATTER"), (0, .class_ 132), (0, u "jdk/internal/util/Preconditions$3"), (3, u "IOOBE_FORMATTER"), (41, u "(IILjava/util/function/BiFunction;)I")] 15

def k11m0 : Method := { name := "<init>", desc := "()V", sig := { parameters := [], returnType := none }, accessFlags := 1, code := none }
def k11c1 : Code := { maxStack := 3, maxLocals := 3, code := jdk_41_method_11_code, exceptionTable := #[], attributes := #[] }
def k11m1 : Method := { name := "checkIndex", desc := "(IILjava/util/function/BiFunction;)I", sig := { parameters := [.int, .int, (.object "java/util/function/BiFunction")], returnType := some .int }, accessFlags := 9, code := some k11c1 }
/-- jdk/internal/util/Preconditions -/
def k11 : Class := { plain "jdk/internal/util/Preconditions" (some 0) with
  accessFlags := 33
  interfaces := #[]
  cf := some (fileOf pool11 24 #[.nestMembers #[55, 131, 125, 114]] #[{ accessFlags := 1, nameIndex := 5, descriptorIndex := 6, attributes := #[] }, { accessFlags := 9, nameIndex := 33, descriptorIndex := 178, attributes := #[] }] 33 2 #[] #[{ accessFlags := 25, nameIndex := 123, descriptorIndex := 124, attributes := #[] }, { accessFlags := 25, nameIndex := 130, descriptorIndex := 124, attributes := #[] }, { accessFlags := 25, nameIndex := 136, descriptorIndex := 124, attributes := #[] }])
  fields := #[{ name := "SIOOBE_FORMATTER", type := (.object "java/util/function/BiFunction"), accessFlags := 25, slot := 0, constantValue := 0 }, { name := "AIOOBE_FORMATTER", type := (.object "java/util/function/BiFunction"), accessFlags := 25, slot := 1, constantValue := 0 }, { name := "IOOBE_FORMATTER", type := (.object "java/util/function/BiFunction"), accessFlags := 25, slot := 2, constantValue := 0 }]
  methods := #[k11m0, k11m1]
  instanceTypes := #[]
  staticTypes := #[(.object "java/util/function/BiFunction"), (.object "java/util/function/BiFunction"), (.object "java/util/function/BiFunction")]
  resolved := Array.replicate 194 none
  statics := some 2 }

def pool12 : Array CpInfo := pool [(1, .class_ 2), (0, u "java/lang/Character"), (18, u "value"), (0, u "C"), (19, .class_ 44), (1, u "java/lang/Object"), (3, .class_ 50), (1, u "java/lang/Character$CharacterCache"), (24, .integer 55296), (0, .integer 56320), (0, .integer 57344), (2, u "isHighSurrogate"), (0, u "(C)Z"), (2, u "isLowSurrogate"), (199, u "$assertionsDisabled"), (0, u "Z"), (21, .class_ 309), (1, u "java/lang/Character$UnicodeBlock"), (73, u "TYPE"), (0, u "Ljava/lang/Class;"), (0, .class_ 386), (0, u "java/io/Serializable"), (0, .class_ 388), (0, u "java/lang/Comparable"), (0, .class_ 390), (0, u "java/lang/constant/Constable"), (0, u "MIN_RADIX"), (0, u "I"), (2, u "MAX_RADIX"), (1, u "MIN_VALUE"), (1, u "MAX_VALUE"), (3, u "UNASSIGNED"), (0, u "B"), (0, u "UPPERCASE_LETTER"), (1, u "LOWERCASE_LETTER"), (0, u "TITLECASE_LETTER"), (1, u "MODIFIER_LETTER"), (1, u "OTHER_LETTER"), (1, u "NON_SPACING_MARK"), (1, u "ENCLOSING_MARK"), (1, u "COMBINING_SPACING_MARK"), (1, u "DECIMAL_DIGIT_NUMBER"), (1, u "LETTER_NUMBER"), (1, u "OTHER_NUMBER"), (1, u "SPACE_SEPARATOR"), (1, u "LINE_SEPARATOR"), (1, u "PARAGRAPH_SEPARATOR"), (1, u "CONTROL"), (1, u "FORMAT"), (1, u "PRIVATE_USE"), (1, u "SURROGATE"), (1, u "DASH_PUNCTUATION"), (1, u "START_PUNCTUATION"), (1, u "END_PUNCTUATION"), (1, u "CONNECTOR_PUNCTUATION"), (1, u "OTHER_PUNCTUATION"), (1, u "MATH_SYMBOL"), (1, u "CURRENCY_SYMBOL"), (1, u "MODIFIER_SYMBOL"), (1, u "OTHER_SYMBOL"), (1, u "INITIAL_QUOTE_PUNCTUATION"), (1, u "FINAL_QUOTE_PUNCTUATION"), (1, u "ERROR"), (1, u "DIRECTIONALITY_UNDEFINED"), (0, u "DIRECTIONALITY_LEFT_TO_RIGHT"), (0, u "DIRECTIONALITY_RIGHT_TO_LEFT"), (0, u "DIRECTIONALITY_RIGHT_TO_LEFT_ARABIC"), (0, u "DIRECTIONALITY_EUROPEAN_NUMBER"), (0, u "DIRECTIONALITY_EUROPEAN_NUMBER_SEPARATOR"), (0, u "DIRECTIONALITY_EUROPEAN_NUMBER_TERMINATOR"), (0, u "DIRECTIONALITY_ARABIC_NUMBER"), (0, u "DIRECTIONALITY_COMMON_NUMBER_SEPARATOR"), (0, u "DIRECTIONALITY_NONSPACING_MARK"), (0, u "DIRECTIONALITY_BOUNDARY_NEUTRAL"), (0, u "DIRECTIONALITY_PARAGRAPH_SEPARATOR"), (0, u "DIRECTIONALITY_SEGMENT_SEPARATOR"), (0, u "DIRECTIONALITY_WHITESPACE"), (0, u "DIRECTIONALITY_OTHER_NEUTRALS"), (0, u "DIRECTIONALITY_LEFT_TO_RIGHT_EMBEDDING"), (0, u "DIRECTIONALITY_LEFT_TO_RIGHT_OVERRIDE"), (0, u "DIRECTIONALITY_RIGHT_TO_LEFT_EMBEDDING"), (0, u "DIRECTIONALITY_RIGHT_TO_LEFT_OVERRIDE"), (1, u "DIRECTIONALITY_POP_DIRECTIONAL_FORMAT"), (0, u "DIRECTIONALITY_LEFT_TO_RIGHT_ISOLATE"), (0, u "DIRECTIONALITY_RIGHT_TO_LEFT_ISOLATE"), (0, u "DIRECTIONALITY_FIRST_STRONG_ISOLATE"), (0, u "DIRECTIONALITY_POP_DIRECTIONAL_ISOLATE"), (0, u "MIN_HIGH_SURROGATE"), (0, u "MAX_HIGH_SURROGATE"), (1, u "MIN_LOW_SURROGATE"), (0, u "MAX_LOW_SURROGATE"), (1, u "MIN_SURROGATE"), (0, u "MAX_SURROGATE"), (0, u "MIN_SUPPLEMENTARY_CODE_POINT"), (0, u "MIN_CODE_POINT"), (0, u "MAX_CODE_POINT"), (1, u "serialVersionUID"), (0, u "J"), (2, u "SIZE"), (0, u "BYTES"), (24, u "isSurrogate"), (63, .class_ 596), (0, u "java/lang/Character$UnicodeScript"), (0, .class_ 598), (0, u "java/lang/Character$Subset")] 5

def k12c0 : Code := { maxStack := 2, maxLocals := 1, code := jdk_89_method_14_code, exceptionTable := #[], attributes := #[] }
def k12m0 : Method := { name := "isHighSurrogate", desc := "(C)Z", sig := { parameters := [.char], returnType := some .boolean }, accessFlags := 9, code := some k12c0 }
def k12c1 : Code := { maxStack := 2, maxLocals := 1, code := jdk_89_method_15_code, exceptionTable := #[], attributes := #[] }
def k12m1 : Method := { name := "isLowSurrogate", desc := "(C)Z", sig := { parameters := [.char], returnType := some .boolean }, accessFlags := 9, code := some k12c1 }
def k12c2 : Code := { maxStack := 2, maxLocals := 1, code := jdk_89_method_16_code, exceptionTable := #[], attributes := #[] }
def k12m2 : Method := { name := "isSurrogate", desc := "(C)Z", sig := { parameters := [.char], returnType := some .boolean }, accessFlags := 9, code := some k12c2 }
/-- java/lang/Character -/
def k12 : Class := { plain "java/lang/Character" (some 0) with
  accessFlags := 49
  interfaces := #[2, 3, 5]
  cf := some (fileOf pool12 1 #[.nestMembers #[48, 595, 307, 597]] #[{ accessFlags := 9, nameIndex := 80, descriptorIndex := 81, attributes := #[] }, { accessFlags := 9, nameIndex := 84, descriptorIndex := 81, attributes := #[] }, { accessFlags := 9, nameIndex := 531, descriptorIndex := 81, attributes := #[] }] 49 42 #[385, 387, 389] #[{ accessFlags := 25, nameIndex := 391, descriptorIndex := 392, attributes := #[] }, { accessFlags := 25, nameIndex := 395, descriptorIndex := 392, attributes := #[] }, { accessFlags := 25, nameIndex := 397, descriptorIndex := 22, attributes := #[] }, { accessFlags := 25, nameIndex := 399, descriptorIndex := 22, attributes := #[] }, { accessFlags := 25, nameIndex := 383, descriptorIndex := 384, attributes := #[] }, { accessFlags := 25, nameIndex := 403, descriptorIndex := 404, attributes := #[] }, { accessFlags := 25, nameIndex := 405, descriptorIndex := 404, attributes := #[] }, { accessFlags := 25, nameIndex := 407, descriptorIndex := 404, attributes := #[] }, { accessFlags := 25, nameIndex := 408, descriptorIndex := 404, attributes := #[] }, { accessFlags := 25, nameIndex := 410, descriptorIndex := 404, attributes := #[] }, { accessFlags := 25, nameIndex := 412, descriptorIndex := 404, attributes := #[] }, { accessFlags := 25, nameIndex := 414, descriptorIndex := 404, attributes := #[] }, { accessFlags := 25, nameIndex := 416, descriptorIndex := 404, attributes := #[] }, { accessFlags := 25, nameIndex := 418, descriptorIndex := 404, attributes := #[] }, { accessFlags := 25, nameIndex := 420, descriptorIndex := 404, attributes := #[] }, { accessFlags := 25, nameIndex := 422, descriptorIndex := 404, attributes := #[] }, { accessFlags := 25, nameIndex := 424, descriptorIndex := 404, attributes := #[] }, { accessFlags := 25, nameIndex := 426, descriptorIndex := 404, attributes := #[] }, { accessFlags := 25, nameIndex := 428, descriptorIndex := 404, attributes := #[] }, { accessFlags := 25, nameIndex := 430, descriptorIndex := 404, attributes := #[] }, { accessFlags := 25, nameIndex := 432, descriptorIndex := 404, attributes := #[] }, { accessFlags := 25, nameIndex := 434, descriptorIndex := 404, attributes := #[] }, { accessFlags := 25, nameIndex := 436, descriptorIndex := 404, attributes := #[] }, { accessFlags := 25, nameIndex := 438, descriptorIndex := 404, attributes := #[] }, { accessFlags := 25, nameIndex := 440, descriptorIndex := 404, attributes := #[] }, { accessFlags := 25, nameIndex := 442, descriptorIndex := 404, attributes := #[] }, { accessFlags := 25, nameIndex := 444, descriptorIndex := 404, attributes := #[] }, { accessFlags := 25, nameIndex := 446, descriptorIndex := 404, attributes := #[] }, { accessFlags := 25, nameIndex := 448, descriptorIndex := 404, attributes := #[] }, { accessFlags := 25, nameIndex := 450, descriptorIndex := 404, attributes := #[] }, { accessFlags := 25, nameIndex := 452, descriptorIndex := 404, attributes := #[] }, { accessFlags := 25, nameIndex := 454, descriptorIndex := 404, attributes := #[] }, { accessFlags := 25, nameIndex := 456, descriptorIndex := 404, attributes := #[] }, { accessFlags := 25, nameIndex := 458, descriptorIndex := 404, attributes := #[] }, { accessFlags := 25, nameIndex := 460, descriptorIndex := 404, attributes := #[] }, { accessFlags := 24, nameIndex := 462, descriptorIndex := 392, attributes := #[] }, { accessFlags := 25, nameIndex := 464, descriptorIndex := 404, attributes := #[] }, { accessFlags := 25, nameIndex := 465, descriptorIndex := 404, attributes := #[] }, { accessFlags := 25, nameIndex := 466, descriptorIndex := 404, attributes := #[] }, { accessFlags := 25, nameIndex := 467, descriptorIndex := 404, attributes := #[] }, { accessFlags := 25, nameIndex := 468, descriptorIndex := 404, attributes := #[] }, { accessFlags := 25, nameIndex := 469, descriptorIndex := 404, attributes := #[] }, { accessFlags := 25, nameIndex := 470, descriptorIndex := 404, attributes := #[] }, { accessFlags := 25, nameIndex := 471, descriptorIndex := 404, attributes := #[] }, { accessFlags := 25, nameIndex := 472, descriptorIndex := 404, attributes := #[] }, { accessFlags := 25, nameIndex := 473, descriptorIndex := 404, attributes := #[] }, { accessFlags := 25, nameIndex := 474, descriptorIndex := 404, attributes := #[] }, { accessFlags := 25, nameIndex := 475, descriptorIndex := 404, attributes := #[] }, { accessFlags := 25, nameIndex := 476, descriptorIndex := 404, attributes := #[] }, { accessFlags := 25, nameIndex := 477, descriptorIndex := 404, attributes := #[] }, { accessFlags := 25, nameIndex := 478, descriptorIndex := 404, attributes := #[] }, { accessFlags := 25, nameIndex := 479, descriptorIndex := 404, attributes := #[] }, { accessFlags := 25, nameIndex := 480, descriptorIndex := 404, attributes := #[] }, { accessFlags := 25, nameIndex := 481, descriptorIndex := 404, attributes := #[] }, { accessFlags := 25, nameIndex := 482, descriptorIndex := 404, attributes := #[] }, { accessFlags := 25, nameIndex := 484, descriptorIndex := 404, attributes := #[] }, { accessFlags := 25, nameIndex := 485, descriptorIndex := 404, attributes := #[] }, { accessFlags := 25, nameIndex := 486, descriptorIndex := 404, attributes := #[] }, { accessFlags := 25, nameIndex := 487, descriptorIndex := 404, attributes := #[] }, { accessFlags := 25, nameIndex := 488, descriptorIndex := 404, attributes := #[] }, { accessFlags := 25, nameIndex := 489, descriptorIndex := 22, attributes := #[] }, { accessFlags := 25, nameIndex := 490, descriptorIndex := 22, attributes := #[] }, { accessFlags := 25, nameIndex := 492, descriptorIndex := 22, attributes := #[] }, { accessFlags := 25, nameIndex := 493, descriptorIndex := 22, attributes := #[] }, { accessFlags := 25, nameIndex := 495, descriptorIndex := 22, attributes := #[] }, { accessFlags := 25, nameIndex := 496, descriptorIndex := 22, attributes := #[] }, { accessFlags := 25, nameIndex := 497, descriptorIndex := 392, attributes := #[] }, { accessFlags := 25, nameIndex := 498, descriptorIndex := 392, attributes := #[] }, { accessFlags := 25, nameIndex := 499, descriptorIndex := 392, attributes := #[] }, { accessFlags := 18, nameIndex := 21, descriptorIndex := 22, attributes := #[] }, { accessFlags := 26, nameIndex := 501, descriptorIndex := 502, attributes := #[] }, { accessFlags := 25, nameIndex := 505, descriptorIndex := 392, attributes := #[] }, { accessFlags := 25, nameIndex := 506, descriptorIndex := 392, attributes := #[] }, { accessFlags := 4120, nameIndex := 284, descriptorIndex := 285, attributes := #[] }])
  fields := #[{ name := "MIN_RADIX", type := .int, accessFlags := 25, slot := 0, constantValue := 0 }, { name := "MAX_RADIX", type := .int, accessFlags := 25, slot := 1, constantValue := 0 }, { name := "MIN_VALUE", type := .char, accessFlags := 25, slot := 2, constantValue := 0 }, { name := "MAX_VALUE", type := .char, accessFlags := 25, slot := 3, constantValue := 0 }, { name := "TYPE", type := (.object "java/lang/Class"), accessFlags := 25, slot := 4, constantValue := 0 }, { name := "UNASSIGNED", type := .byte, accessFlags := 25, slot := 5, constantValue := 0 }, { name := "UPPERCASE_LETTER", type := .byte, accessFlags := 25, slot := 6, constantValue := 0 }, { name := "LOWERCASE_LETTER", type := .byte, accessFlags := 25, slot := 7, constantValue := 0 }, { name := "TITLECASE_LETTER", type := .byte, accessFlags := 25, slot := 8, constantValue := 0 }, { name := "MODIFIER_LETTER", type := .byte, accessFlags := 25, slot := 9, constantValue := 0 }, { name := "OTHER_LETTER", type := .byte, accessFlags := 25, slot := 10, constantValue := 0 }, { name := "NON_SPACING_MARK", type := .byte, accessFlags := 25, slot := 11, constantValue := 0 }, { name := "ENCLOSING_MARK", type := .byte, accessFlags := 25, slot := 12, constantValue := 0 }, { name := "COMBINING_SPACING_MARK", type := .byte, accessFlags := 25, slot := 13, constantValue := 0 }, { name := "DECIMAL_DIGIT_NUMBER", type := .byte, accessFlags := 25, slot := 14, constantValue := 0 }, { name := "LETTER_NUMBER", type := .byte, accessFlags := 25, slot := 15, constantValue := 0 }, { name := "OTHER_NUMBER", type := .byte, accessFlags := 25, slot := 16, constantValue := 0 }, { name := "SPACE_SEPARATOR", type := .byte, accessFlags := 25, slot := 17, constantValue := 0 }, { name := "LINE_SEPARATOR", type := .byte, accessFlags := 25, slot := 18, constantValue := 0 }, { name := "PARAGRAPH_SEPARATOR", type := .byte, accessFlags := 25, slot := 19, constantValue := 0 }, { name := "CONTROL", type := .byte, accessFlags := 25, slot := 20, constantValue := 0 }, { name := "FORMAT", type := .byte, accessFlags := 25, slot := 21, constantValue := 0 }, { name := "PRIVATE_USE", type := .byte, accessFlags := 25, slot := 22, constantValue := 0 }, { name := "SURROGATE", type := .byte, accessFlags := 25, slot := 23, constantValue := 0 }, { name := "DASH_PUNCTUATION", type := .byte, accessFlags := 25, slot := 24, constantValue := 0 }, { name := "START_PUNCTUATION", type := .byte, accessFlags := 25, slot := 25, constantValue := 0 }, { name := "END_PUNCTUATION", type := .byte, accessFlags := 25, slot := 26, constantValue := 0 }, { name := "CONNECTOR_PUNCTUATION", type := .byte, accessFlags := 25, slot := 27, constantValue := 0 }, { name := "OTHER_PUNCTUATION", type := .byte, accessFlags := 25, slot := 28, constantValue := 0 }, { name := "MATH_SYMBOL", type := .byte, accessFlags := 25, slot := 29, constantValue := 0 }, { name := "CURRENCY_SYMBOL", type := .byte, accessFlags := 25, slot := 30, constantValue := 0 }, { name := "MODIFIER_SYMBOL", type := .byte, accessFlags := 25, slot := 31, constantValue := 0 }, { name := "OTHER_SYMBOL", type := .byte, accessFlags := 25, slot := 32, constantValue := 0 }, { name := "INITIAL_QUOTE_PUNCTUATION", type := .byte, accessFlags := 25, slot := 33, constantValue := 0 }, { name := "FINAL_QUOTE_PUNCTUATION", type := .byte, accessFlags := 25, slot := 34, constantValue := 0 }, { name := "ERROR", type := .int, accessFlags := 24, slot := 35, constantValue := 0 }, { name := "DIRECTIONALITY_UNDEFINED", type := .byte, accessFlags := 25, slot := 36, constantValue := 0 }, { name := "DIRECTIONALITY_LEFT_TO_RIGHT", type := .byte, accessFlags := 25, slot := 37, constantValue := 0 }, { name := "DIRECTIONALITY_RIGHT_TO_LEFT", type := .byte, accessFlags := 25, slot := 38, constantValue := 0 }, { name := "DIRECTIONALITY_RIGHT_TO_LEFT_ARABIC", type := .byte, accessFlags := 25, slot := 39, constantValue := 0 }, { name := "DIRECTIONALITY_EUROPEAN_NUMBER", type := .byte, accessFlags := 25, slot := 40, constantValue := 0 }, { name := "DIRECTIONALITY_EUROPEAN_NUMBER_SEPARATOR", type := .byte, accessFlags := 25, slot := 41, constantValue := 0 }, { name := "DIRECTIONALITY_EUROPEAN_NUMBER_TERMINATOR", type := .byte, accessFlags := 25, slot := 42, constantValue := 0 }, { name := "DIRECTIONALITY_ARABIC_NUMBER", type := .byte, accessFlags := 25, slot := 43, constantValue := 0 }, { name := "DIRECTIONALITY_COMMON_NUMBER_SEPARATOR", type := .byte, accessFlags := 25, slot := 44, constantValue := 0 }, { name := "DIRECTIONALITY_NONSPACING_MARK", type := .byte, accessFlags := 25, slot := 45, constantValue := 0 }, { name := "DIRECTIONALITY_BOUNDARY_NEUTRAL", type := .byte, accessFlags := 25, slot := 46, constantValue := 0 }, { name := "DIRECTIONALITY_PARAGRAPH_SEPARATOR", type := .byte, accessFlags := 25, slot := 47, constantValue := 0 }, { name := "DIRECTIONALITY_SEGMENT_SEPARATOR", type := .byte, accessFlags := 25, slot := 48, constantValue := 0 }, { name := "DIRECTIONALITY_WHITESPACE", type := .byte, accessFlags := 25, slot := 49, constantValue := 0 }, { name := "DIRECTIONALITY_OTHER_NEUTRALS", type := .byte, accessFlags := 25, slot := 50, constantValue := 0 }, { name := "DIRECTIONALITY_LEFT_TO_RIGHT_EMBEDDING", type := .byte, accessFlags := 25, slot := 51, constantValue := 0 }, { name := "DIRECTIONALITY_LEFT_TO_RIGHT_OVERRIDE", type := .byte, accessFlags := 25, slot := 52, constantValue := 0 }, { name := "DIRECTIONALITY_RIGHT_TO_LEFT_EMBEDDING", type := .byte, accessFlags := 25, slot := 53, constantValue := 0 }, { name := "DIRECTIONALITY_RIGHT_TO_LEFT_OVERRIDE", type := .byte, accessFlags := 25, slot := 54, constantValue := 0 }, { name := "DIRECTIONALITY_POP_DIRECTIONAL_FORMAT", type := .byte, accessFlags := 25, slot := 55, constantValue := 0 }, { name := "DIRECTIONALITY_LEFT_TO_RIGHT_ISOLATE", type := .byte, accessFlags := 25, slot := 56, constantValue := 0 }, { name := "DIRECTIONALITY_RIGHT_TO_LEFT_ISOLATE", type := .byte, accessFlags := 25, slot := 57, constantValue := 0 }, { name := "DIRECTIONALITY_FIRST_STRONG_ISOLATE", type := .byte, accessFlags := 25, slot := 58, constantValue := 0 }, { name := "DIRECTIONALITY_POP_DIRECTIONAL_ISOLATE", type := .byte, accessFlags := 25, slot := 59, constantValue := 0 }, { name := "MIN_HIGH_SURROGATE", type := .char, accessFlags := 25, slot := 60, constantValue := 0 }, { name := "MAX_HIGH_SURROGATE", type := .char, accessFlags := 25, slot := 61, constantValue := 0 }, { name := "MIN_LOW_SURROGATE", type := .char, accessFlags := 25, slot := 62, constantValue := 0 }, { name := "MAX_LOW_SURROGATE", type := .char, accessFlags := 25, slot := 63, constantValue := 0 }, { name := "MIN_SURROGATE", type := .char, accessFlags := 25, slot := 64, constantValue := 0 }, { name := "MAX_SURROGATE", type := .char, accessFlags := 25, slot := 65, constantValue := 0 }, { name := "MIN_SUPPLEMENTARY_CODE_POINT", type := .int, accessFlags := 25, slot := 66, constantValue := 0 }, { name := "MIN_CODE_POINT", type := .int, accessFlags := 25, slot := 67, constantValue := 0 }, { name := "MAX_CODE_POINT", type := .int, accessFlags := 25, slot := 68, constantValue := 0 }, { name := "value", type := .char, accessFlags := 18, slot := 0, constantValue := 0 }, { name := "serialVersionUID", type := .long, accessFlags := 26, slot := 69, constantValue := 0 }, { name := "SIZE", type := .int, accessFlags := 25, slot := 70, constantValue := 0 }, { name := "BYTES", type := .int, accessFlags := 25, slot := 71, constantValue := 0 }, { name := "$assertionsDisabled", type := .boolean, accessFlags := 4120, slot := 72, constantValue := 0 }]
  methods := #[k12m0, k12m1, k12m2]
  instanceTypes := #[.char]
  staticTypes := #[.int, .int, .char, .char, (.object "java/lang/Class"), .byte, .byte, .byte, .byte, .byte, .byte, .byte, .byte, .byte, .byte, .byte, .byte, .byte, .byte, .byte, .byte, .byte, .byte, .byte, .byte, .byte, .byte, .byte, .byte, .byte, .byte, .byte, .byte, .byte, .byte, .int, .byte, .byte, .byte, .byte, .byte, .byte, .byte, .byte, .byte, .byte, .byte, .byte, .byte, .byte, .byte, .byte, .byte, .byte, .byte, .byte, .byte, .byte, .byte, .byte, .char, .char, .char, .char, .char, .char, .int, .int, .int, .long, .int, .int, .boolean]
  resolved := Array.replicate 604 none
  statics := none }

def pool13 : Array CpInfo := pool [(9, u "<init>"), (6, .class_ 18), (1, u "java/lang/Object"), (0, u "()V"), (1, .class_ 23), (1, u "jdk/internal/util/ArraysSupport"), (0, u "LOG2_ARRAY_LONG_INDEX_SCALE"), (0, u "I"), (2, u "U"), (0, u "Ljdk/internal/misc/Unsafe;"), (8, u "BIG_ENDIAN"), (0, u "Z"), (8, u "LOG2_BYTE_BIT_SIZE"), (4, u "LOG2_ARRAY_INT_INDEX_SCALE"), (54, u "JLA"), (0, u "Ljdk/internal/access/JavaLangAccess;"), (11, u "LOG2_ARRAY_BOOLEAN_INDEX_SCALE"), (9, u "LOG2_ARRAY_BYTE_INDEX_SCALE"), (5, u "LOG2_ARRAY_CHAR_INDEX_SCALE"), (5, u "LOG2_ARRAY_SHORT_INDEX_SCALE"), (18, u "LOG2_ARRAY_FLOAT_INDEX_SCALE"), (24, u "LOG2_ARRAY_DOUBLE_INDEX_SCALE"), (89, u "T_BOOLEAN"), (2, u "T_CHAR"), (1, u "T_FLOAT"), (1, u "T_DOUBLE"), (1, u "T_BYTE"), (1, u "T_SHORT"), (1, u "T_INT"), (1, u "T_LONG"), (1, u "SOFT_MAX_ARRAY_LENGTH")] 83

def k13m0 : Method := { name := "<init>", desc := "()V", sig := { parameters := [], returnType := none }, accessFlags := 2, code := none }
/-- jdk/internal/util/ArraysSupport -/
def k13 : Class := { plain "jdk/internal/util/ArraysSupport" (some 0) with
  accessFlags := 33
  interfaces := #[]
  cf := some (fileOf pool13 21 #[] #[{ accessFlags := 2, nameIndex := 9, descriptorIndex := 19, attributes := #[] }] 33 16 #[] #[{ accessFlags := 24, nameIndex := 28, descriptorIndex := 29, attributes := #[] }, { accessFlags := 26, nameIndex := 38, descriptorIndex := 39, attributes := #[] }, { accessFlags := 25, nameIndex := 121, descriptorIndex := 25, attributes := #[] }, { accessFlags := 25, nameIndex := 131, descriptorIndex := 25, attributes := #[] }, { accessFlags := 25, nameIndex := 137, descriptorIndex := 25, attributes := #[] }, { accessFlags := 25, nameIndex := 143, descriptorIndex := 25, attributes := #[] }, { accessFlags := 25, nameIndex := 53, descriptorIndex := 25, attributes := #[] }, { accessFlags := 25, nameIndex := 24, descriptorIndex := 25, attributes := #[] }, { accessFlags := 25, nameIndex := 162, descriptorIndex := 25, attributes := #[] }, { accessFlags := 25, nameIndex := 187, descriptorIndex := 25, attributes := #[] }, { accessFlags := 26, nameIndex := 48, descriptorIndex := 25, attributes := #[] }, { accessFlags := 25, nameIndex := 277, descriptorIndex := 25, attributes := #[] }, { accessFlags := 25, nameIndex := 280, descriptorIndex := 25, attributes := #[] }, { accessFlags := 25, nameIndex := 282, descriptorIndex := 25, attributes := #[] }, { accessFlags := 25, nameIndex := 284, descriptorIndex := 25, attributes := #[] }, { accessFlags := 25, nameIndex := 286, descriptorIndex := 25, attributes := #[] }, { accessFlags := 25, nameIndex := 288, descriptorIndex := 25, attributes := #[] }, { accessFlags := 25, nameIndex := 290, descriptorIndex := 25, attributes := #[] }, { accessFlags := 25, nameIndex := 292, descriptorIndex := 25, attributes := #[] }, { accessFlags := 26, nameIndex := 108, descriptorIndex := 109, attributes := #[] }, { accessFlags := 25, nameIndex := 294, descriptorIndex := 25, attributes := #[] }])
  fields := #[{ name := "U", type := (.object "jdk/internal/misc/Unsafe"), accessFlags := 24, slot := 0, constantValue := 0 }, { name := "BIG_ENDIAN", type := .boolean, accessFlags := 26, slot := 1, constantValue := 0 }, { name := "LOG2_ARRAY_BOOLEAN_INDEX_SCALE", type := .int, accessFlags := 25, slot := 2, constantValue := 0 }, { name := "LOG2_ARRAY_BYTE_INDEX_SCALE", type := .int, accessFlags := 25, slot := 3, constantValue := 0 }, { name := "LOG2_ARRAY_CHAR_INDEX_SCALE", type := .int, accessFlags := 25, slot := 4, constantValue := 0 }, { name := "LOG2_ARRAY_SHORT_INDEX_SCALE", type := .int, accessFlags := 25, slot := 5, constantValue := 0 }, { name := "LOG2_ARRAY_INT_INDEX_SCALE", type := .int, accessFlags := 25, slot := 6, constantValue := 0 }, { name := "LOG2_ARRAY_LONG_INDEX_SCALE", type := .int, accessFlags := 25, slot := 7, constantValue := 0 }, { name := "LOG2_ARRAY_FLOAT_INDEX_SCALE", type := .int, accessFlags := 25, slot := 8, constantValue := 0 }, { name := "LOG2_ARRAY_DOUBLE_INDEX_SCALE", type := .int, accessFlags := 25, slot := 9, constantValue := 0 }, { name := "LOG2_BYTE_BIT_SIZE", type := .int, accessFlags := 26, slot := 10, constantValue := 0 }, { name := "T_BOOLEAN", type := .int, accessFlags := 25, slot := 11, constantValue := 0 }, { name := "T_CHAR", type := .int, accessFlags := 25, slot := 12, constantValue := 0 }, { name := "T_FLOAT", type := .int, accessFlags := 25, slot := 13, constantValue := 0 }, { name := "T_DOUBLE", type := .int, accessFlags := 25, slot := 14, constantValue := 0 }, { name := "T_BYTE", type := .int, accessFlags := 25, slot := 15, constantValue := 0 }, { name := "T_SHORT", type := .int, accessFlags := 25, slot := 16, constantValue := 0 }, { name := "T_INT", type := .int, accessFlags := 25, slot := 17, constantValue := 0 }, { name := "T_LONG", type := .int, accessFlags := 25, slot := 18, constantValue := 0 }, { name := "JLA", type := (.object "jdk/internal/access/JavaLangAccess"), accessFlags := 26, slot := 19, constantValue := 0 }, { name := "SOFT_MAX_ARRAY_LENGTH", type := .int, accessFlags := 25, slot := 20, constantValue := 0 }]
  methods := #[k13m0]
  instanceTypes := #[]
  staticTypes := #[(.object "jdk/internal/misc/Unsafe"), .boolean, .int, .int, .int, .int, .int, .int, .int, .int, .int, .int, .int, .int, .int, .int, .int, .int, .int, (.object "jdk/internal/access/JavaLangAccess"), .int]
  resolved := Array.replicate 378 none
  statics := none }

def pool14 : Array CpInfo := pool [(1, u "java/lang/Cloneable"), (0, .class_ 1), (0, u "java/lang/Object"), (0, .class_ 3)] 3

/-- java/lang/Cloneable -/
def k14 : Class := { plain "java/lang/Cloneable" (some 0) with
  accessFlags := 1537
  interfaces := #[]
  cf := some (fileOf pool14 2 #[] #[] 1537 4 #[] #[])
  fields := #[]
  methods := #[]
  instanceTypes := #[]
  staticTypes := #[]
  resolved := Array.replicate 8 none
  statics := none }

/-- the primitive byte -/
def k15 : Class := { plain "byte" none with kind := .primitive 'B', accessFlags := 0x411 }
/-- [B -/
def k16 : Class := { plain "[B" (some 0) with kind := .array 15 .byte, interfaces := #[14, 2], accessFlags := 1041 }

/-- the primitive char -/
def k17 : Class := { plain "char" none with kind := .primitive 'C', accessFlags := 0x411 }
/-- [C -/
def k18 : Class := { plain "[C" (some 0) with kind := .array 17 .char, interfaces := #[14, 2], accessFlags := 1041 }

/-- the primitive int -/
def k19 : Class := { plain "int" none with kind := .primitive 'I', accessFlags := 0x411 }
/-- [I -/
def k20 : Class := { plain "[I" (some 0) with kind := .array 19 .int, interfaces := #[14, 2], accessFlags := 1041 }

def heap : Heap := #[{ cls := 7, slots := #[.long 0, .int 1, .null, .int 0, .null, .int 0, .int 0], vm := .statics 7 },
  { cls := 8, slots := #[.int 0, .int 8, .int 0, .int 1], vm := .statics 8 },
  { cls := 11, slots := #[.null, .null, .null], vm := .statics 11 }]
def classes : Array Class := #[k0, k1, k2, k3, k4, k5, k6, k7, k8, k9, k10, k11, k12, k13, k14, k15, k16, k17, k18, k19, k20]
def interned : List (Array UInt16 × Addr) := []
def slotsUsed : Nat := 14
def theMethod : MethodId := ⟨1, 1⟩
def args0 : Array Value := #[.int 3, .int 7, .int 9, .int 11, .int 13]
def aboutOver (below : List Frame) : State where
  vm := { classes := classes, interned := interned.toArray }
  heap := heap
  slotsUsed := slotsUsed
  threads := #[{ frames := .invoking theMethod args0 :: below }]
def below0 : List Frame := [.native { method := ⟨0, 0⟩, args := #[] }]
def about1 : State := aboutOver below0
def p0 : Program := .bare "" "" ""
def e0 : Env := launch0.env 0 0 0
theorem w_frames : about1.frames = Frame.invoking theMethod args0 :: below0 := rfl
set_option maxRecDepth 65536 in
theorem w_args : argsFit about1.vm theMethod args0 = true := by decide +kernel
set_option maxRecDepth 65536 in
theorem w_heap : heapFits about1 = true := by decide +kernel
set_option maxRecDepth 65536 in
theorem w_runnable : about1.curStatus? = some .runnable := by decide +kernel
set_option maxRecDepth 65536 in
theorem w_alone : about1.alone = true := by decide +kernel
set_option maxRecDepth 65536 in
theorem w_named : about1.methodNamed? x = some theMethod := by decide +kernel
set_option maxRecDepth 65536 in
theorem w_hears : about1.hears theMethod below0 = true := by decide +kernel
set_option maxRecDepth 65536 in
theorem w_ripe : about1.ripe theMethod args0 below0 = true := by decide +kernel
theorem w_running : about1.status = .running := rfl
set_option maxRecDepth 65536 in
theorem w_room : about1.hasRoom e0.platform room_1 = true :=
  launch0.hasRoom_least _ room_1 (by decide +kernel) (by decide +kernel) (by decide +kernel) (by decide +kernel) (by decide +kernel) (by decide +kernel)
theorem allAtoms_all (ts : List Jvm.Cond) (a : Array Jvm.Value) (st : Jvm.State) : (allAtoms ts).before a st = ts.all (fun c => c.before a st) := by
  induction ts with
  | nil => rfl
  | cons c t ih =>
    show (Jvm.Cond.and c (allAtoms t)).before a st = _
    rw [Jvm.Cond.before_and, ih, List.all_cons]
def words1 : List Jvm.Cond := Jvm.Cond.code x code maxLocals ret :: tables_1
/-- a 'code' word, met by the world's own term for the bytes: nothing is compared byte by byte -/
theorem code_word {y : MethodName} {bytes : ByteArray} {mx : Nat} {rt : Option FieldType} {a : Array Value} {s : State} {m : MethodId} {meth : Method} {c : Code} (h1 : s.methodNamed? y = some m) (h2 : s.vm.method? m = some meth) (h3 : meth.code = some c) (h4 : c.code = bytes)
    (h5 : (c.maxLocals == mx && c.exceptionTable.isEmpty && decide (c.maxStack ≤ mostOperands) && decide (meth.sig.returnType = rt) && !meth.locks && decide (parseMethodDescriptor y.desc = some meth.sig)) = true) : (Jvm.Cond.code y bytes mx rt).before a s = true := by
  simp only [Bool.and_eq_true, beq_iff_eq, Bool.not_eq_true', decide_eq_true_eq] at h5
  obtain ⟨⟨⟨⟨⟨g1, g2⟩, g3⟩, g4⟩, g5⟩, g6⟩ := h5
  simp [Cond.before, Cond.holds, Cond.value, h1, h2, h3, h4, g1, g2, g3, g4, g5, g6]
def isCode : Jvm.Cond → Bool
  | .code _ _ _ _ => true
  | _ => false
theorem all_split {L : List Jvm.Cond} {P : Jvm.Cond → Bool} (h1 : L.all (fun c => isCode c || P c) = true) (h2 : ∀ c ∈ L.filter isCode, P c = true) : L.all P = true := by
  refine List.all_eq_true.mpr fun c hc => ?_
  have h := List.all_eq_true.mp h1 c hc
  rcases Bool.eq_false_or_eq_true (isCode c) with hi | hi
  · exact h2 c (List.mem_filter.mpr ⟨hc, hi⟩)
  · simpa [hi] using h
set_option maxRecDepth 65536 in
theorem w_c0 : (Jvm.Cond.code x code maxLocals ret).before args0 about1 = true := code_word (m := ⟨1, 1⟩) (meth := k1m1) (c := k1c1) (by decide +kernel) rfl rfl rfl (by decide +kernel)
set_option maxRecDepth 65536 in
theorem w_c1 : (Jvm.Cond.code ({ cls := "com/example/lexiflow/lexiflow/model/IdsCheckPinLaw", name := "draw", desc := "(I)C" } : Jvm.MethodName) method_3_code (4 : Nat) (Option.some Jvm.ClassFile.FieldType.char)).before args0 about1 = true := code_word (m := ⟨1, 2⟩) (meth := k1m2) (c := k1c2) (by decide +kernel) rfl rfl rfl (by decide +kernel)
set_option maxRecDepth 65536 in
theorem w_c2 : (Jvm.Cond.code ({ cls := "com/example/lexiflow/lexiflow/model/IdsCheckPinLaw", name := "ok", desc := "([CII)Z" } : Jvm.MethodName) method_7_code (4 : Nat) (Option.some Jvm.ClassFile.FieldType.boolean)).before args0 about1 = true := code_word (m := ⟨1, 6⟩) (meth := k1m6) (c := k1c6) (by decide +kernel) rfl rfl rfl (by decide +kernel)
set_option maxRecDepth 65536 in
theorem w_c3 : (Jvm.Cond.code ({ cls := "com/example/lexiflow/lexiflow/model/IdsCheckPinLaw", name := "forbidden", desc := "(C)Z" } : Jvm.MethodName) method_6_code (1 : Nat) (Option.some Jvm.ClassFile.FieldType.boolean)).before args0 about1 = true := code_word (m := ⟨1, 5⟩) (meth := k1m5) (c := k1c5) (by decide +kernel) rfl rfl rfl (by decide +kernel)
set_option maxRecDepth 65536 in
theorem w_c4 : (Jvm.Cond.code ({ cls := "com/example/lexiflow/lexiflow/model/IdsCheckPinLaw", name := "isHigh", desc := "(C)Z" } : Jvm.MethodName) method_4_code (1 : Nat) (Option.some Jvm.ClassFile.FieldType.boolean)).before args0 about1 = true := code_word (m := ⟨1, 3⟩) (meth := k1m3) (c := k1c3) (by decide +kernel) rfl rfl rfl (by decide +kernel)
set_option maxRecDepth 65536 in
theorem w_c5 : (Jvm.Cond.code ({ cls := "com/example/lexiflow/lexiflow/model/IdsCheckPinLaw", name := "isLow", desc := "(C)Z" } : Jvm.MethodName) method_5_code (1 : Nat) (Option.some Jvm.ClassFile.FieldType.boolean)).before args0 about1 = true := code_word (m := ⟨1, 4⟩) (meth := k1m4) (c := k1c4) (by decide +kernel) rfl rfl rfl (by decide +kernel)
set_option maxRecDepth 65536 in
theorem w_c6 : (Jvm.Cond.code ({ cls := "java/lang/String", name := "<init>", desc := "([C)V" } : Jvm.MethodName) jdk_42_method_3_code (2 : Nat) (Option.none : Option Jvm.ClassFile.FieldType)).before args0 about1 = true := code_word (m := ⟨7, 1⟩) (meth := k7m1) (c := k7c1) (by decide +kernel) rfl rfl rfl (by decide +kernel)
set_option maxRecDepth 65536 in
theorem w_c7 : (Jvm.Cond.code ({ cls := "java/lang/String", name := "<init>", desc := "([CIILjava/lang/Void;)V" } : Jvm.MethodName) jdk_42_method_149_code (6 : Nat) (Option.none : Option Jvm.ClassFile.FieldType)).before args0 about1 = true := code_word (m := ⟨7, 5⟩) (meth := k7m5) (c := k7c5) (by decide +kernel) rfl rfl rfl (by decide +kernel)
set_option maxRecDepth 65536 in
theorem w_c8 : (Jvm.Cond.code ({ cls := "java/lang/Object", name := "<init>", desc := "()V" } : Jvm.MethodName) object_method_1_code (1 : Nat) (Option.none : Option Jvm.ClassFile.FieldType)).before args0 about1 = true := code_word (m := ⟨0, 0⟩) (meth := k0m0) (c := k0c0) (by decide +kernel) rfl rfl rfl (by decide +kernel)
set_option maxRecDepth 65536 in
theorem w_c9 : (Jvm.Cond.code ({ cls := "java/lang/StringUTF16", name := "compress", desc := "([CII)[B" } : Jvm.MethodName) jdk_52_method_16_code (6 : Nat) (Option.some (Jvm.ClassFile.FieldType.array Jvm.ClassFile.FieldType.byte))).before args0 about1 = true := code_word (m := ⟨8, 8⟩) (meth := k8m8) (c := k8c8) (by decide +kernel) rfl rfl rfl (by decide +kernel)
set_option maxRecDepth 65536 in
theorem w_c10 : (Jvm.Cond.code ({ cls := "java/lang/StringUTF16", name := "compress", desc := "([CI[BII)I" } : Jvm.MethodName) jdk_52_method_21_code (7 : Nat) (Option.some Jvm.ClassFile.FieldType.int)).before args0 about1 = true := code_word (m := ⟨8, 9⟩) (meth := k8m9) (c := k8c9) (by decide +kernel) rfl rfl rfl (by decide +kernel)
set_option maxRecDepth 65536 in
theorem w_c11 : (Jvm.Cond.code ({ cls := "java/lang/StringUTF16", name := "coderFromArrayLen", desc := "([BI)B" } : Jvm.MethodName) jdk_52_method_15_code (2 : Nat) (Option.some Jvm.ClassFile.FieldType.byte)).before args0 about1 = true := code_word (m := ⟨8, 7⟩) (meth := k8m7) (c := k8c7) (by decide +kernel) rfl rfl rfl (by decide +kernel)
set_option maxRecDepth 65536 in
theorem w_c12 : (Jvm.Cond.code ({ cls := "com/example/lexiflow/lexiflow/model/Ids", name := "check", desc := "(Ljava/lang/String;)V" } : Jvm.MethodName) prog_23_method_2_code (3 : Nat) (Option.none : Option Jvm.ClassFile.FieldType)).before args0 about1 = true := code_word (m := ⟨9, 1⟩) (meth := k9m1) (c := k9c1) (by decide +kernel) rfl rfl rfl (by decide +kernel)
set_option maxRecDepth 65536 in
theorem w_c13 : (Jvm.Cond.code ({ cls := "java/lang/String", name := "isEmpty", desc := "()Z" } : Jvm.MethodName) jdk_42_method_55_code (1 : Nat) (Option.some Jvm.ClassFile.FieldType.boolean)).before args0 about1 = true := code_word (m := ⟨7, 3⟩) (meth := k7m3) (c := k7c3) (by decide +kernel) rfl rfl rfl (by decide +kernel)
set_option maxRecDepth 65536 in
theorem w_c14 : (Jvm.Cond.code ({ cls := "java/lang/String", name := "length", desc := "()I" } : Jvm.MethodName) jdk_42_method_54_code (1 : Nat) (Option.some Jvm.ClassFile.FieldType.int)).before args0 about1 = true := code_word (m := ⟨7, 2⟩) (meth := k7m2) (c := k7c2) (by decide +kernel) rfl rfl rfl (by decide +kernel)
set_option maxRecDepth 65536 in
theorem w_c15 : (Jvm.Cond.code ({ cls := "java/lang/String", name := "coder", desc := "()B" } : Jvm.MethodName) jdk_42_method_152_code (1 : Nat) (Option.some Jvm.ClassFile.FieldType.byte)).before args0 about1 = true := code_word (m := ⟨7, 6⟩) (meth := k7m6) (c := k7c6) (by decide +kernel) rfl rfl rfl (by decide +kernel)
set_option maxRecDepth 65536 in
theorem w_c16 : (Jvm.Cond.code ({ cls := "java/lang/String", name := "charAt", desc := "(I)C" } : Jvm.MethodName) jdk_42_method_56_code (2 : Nat) (Option.some Jvm.ClassFile.FieldType.char)).before args0 about1 = true := code_word (m := ⟨7, 4⟩) (meth := k7m4) (c := k7c4) (by decide +kernel) rfl rfl rfl (by decide +kernel)
set_option maxRecDepth 65536 in
theorem w_c17 : (Jvm.Cond.code ({ cls := "java/lang/String", name := "isLatin1", desc := "()Z" } : Jvm.MethodName) jdk_42_method_154_code (1 : Nat) (Option.some Jvm.ClassFile.FieldType.boolean)).before args0 about1 = true := code_word (m := ⟨7, 7⟩) (meth := k7m7) (c := k7c7) (by decide +kernel) rfl rfl rfl (by decide +kernel)
set_option maxRecDepth 65536 in
theorem w_c18 : (Jvm.Cond.code ({ cls := "java/lang/StringLatin1", name := "charAt", desc := "([BI)C" } : Jvm.MethodName) jdk_43_method_2_code (2 : Nat) (Option.some Jvm.ClassFile.FieldType.char)).before args0 about1 = true := code_word (m := ⟨10, 1⟩) (meth := k10m1) (c := k10c1) (by decide +kernel) rfl rfl rfl (by decide +kernel)
set_option maxRecDepth 65536 in
theorem w_c19 : (Jvm.Cond.code ({ cls := "java/lang/String", name := "checkIndex", desc := "(II)V" } : Jvm.MethodName) jdk_42_method_155_code (2 : Nat) (Option.none : Option Jvm.ClassFile.FieldType)).before args0 about1 = true := code_word (m := ⟨7, 8⟩) (meth := k7m8) (c := k7c8) (by decide +kernel) rfl rfl rfl (by decide +kernel)
set_option maxRecDepth 65536 in
theorem w_c20 : (Jvm.Cond.code ({ cls := "jdk/internal/util/Preconditions", name := "checkIndex", desc := "(IILjava/util/function/BiFunction;)I" } : Jvm.MethodName) jdk_41_method_11_code (3 : Nat) (Option.some Jvm.ClassFile.FieldType.int)).before args0 about1 = true := code_word (m := ⟨11, 1⟩) (meth := k11m1) (c := k11c1) (by decide +kernel) rfl rfl rfl (by decide +kernel)
set_option maxRecDepth 65536 in
theorem w_c21 : (Jvm.Cond.code ({ cls := "com/example/lexiflow/lexiflow/model/Ids", name := "isLineBreak", desc := "(C)Z" } : Jvm.MethodName) prog_23_method_4_code (1 : Nat) (Option.some Jvm.ClassFile.FieldType.boolean)).before args0 about1 = true := code_word (m := ⟨9, 2⟩) (meth := k9m2) (c := k9c2) (by decide +kernel) rfl rfl rfl (by decide +kernel)
set_option maxRecDepth 65536 in
theorem w_c22 : (Jvm.Cond.code ({ cls := "java/lang/Character", name := "isHighSurrogate", desc := "(C)Z" } : Jvm.MethodName) jdk_89_method_14_code (1 : Nat) (Option.some Jvm.ClassFile.FieldType.boolean)).before args0 about1 = true := code_word (m := ⟨12, 0⟩) (meth := k12m0) (c := k12c0) (by decide +kernel) rfl rfl rfl (by decide +kernel)
set_option maxRecDepth 65536 in
theorem w_c23 : (Jvm.Cond.code ({ cls := "java/lang/Character", name := "isSurrogate", desc := "(C)Z" } : Jvm.MethodName) jdk_89_method_16_code (1 : Nat) (Option.some Jvm.ClassFile.FieldType.boolean)).before args0 about1 = true := code_word (m := ⟨12, 2⟩) (meth := k12m2) (c := k12c2) (by decide +kernel) rfl rfl rfl (by decide +kernel)
set_option maxRecDepth 65536 in
theorem w_c24 : (Jvm.Cond.code ({ cls := "java/lang/StringUTF16", name := "toBytes", desc := "([CII)[B" } : Jvm.MethodName) jdk_52_method_14_code (5 : Nat) (Option.some (Jvm.ClassFile.FieldType.array Jvm.ClassFile.FieldType.byte))).before args0 about1 = true := code_word (m := ⟨8, 6⟩) (meth := k8m6) (c := k8c6) (by decide +kernel) rfl rfl rfl (by decide +kernel)
set_option maxRecDepth 65536 in
theorem w_c25 : (Jvm.Cond.code ({ cls := "java/lang/StringUTF16", name := "newBytesFor", desc := "(I)[B" } : Jvm.MethodName) jdk_52_method_2_code (1 : Nat) (Option.some (Jvm.ClassFile.FieldType.array Jvm.ClassFile.FieldType.byte))).before args0 about1 = true := code_word (m := ⟨8, 1⟩) (meth := k8m1) (c := k8c1) (by decide +kernel) rfl rfl rfl (by decide +kernel)
set_option maxRecDepth 65536 in
theorem w_c26 : (Jvm.Cond.code ({ cls := "java/lang/StringUTF16", name := "newBytesLength", desc := "(I)I" } : Jvm.MethodName) jdk_52_method_3_code (1 : Nat) (Option.some Jvm.ClassFile.FieldType.int)).before args0 about1 = true := code_word (m := ⟨8, 2⟩) (meth := k8m2) (c := k8c2) (by decide +kernel) rfl rfl rfl (by decide +kernel)
set_option maxRecDepth 65536 in
theorem w_c27 : (Jvm.Cond.code ({ cls := "java/lang/StringUTF16", name := "putChar", desc := "([BII)V" } : Jvm.MethodName) jdk_52_method_4_code (3 : Nat) (Option.none : Option Jvm.ClassFile.FieldType)).before args0 about1 = true := code_word (m := ⟨8, 3⟩) (meth := k8m3) (c := k8c3) (by decide +kernel) rfl rfl rfl (by decide +kernel)
set_option maxRecDepth 65536 in
theorem w_c28 : (Jvm.Cond.code ({ cls := "java/lang/StringUTF16", name := "getChar", desc := "([BI)C" } : Jvm.MethodName) jdk_52_method_5_code (2 : Nat) (Option.some Jvm.ClassFile.FieldType.char)).before args0 about1 = true := code_word (m := ⟨8, 4⟩) (meth := k8m4) (c := k8c4) (by decide +kernel) rfl rfl rfl (by decide +kernel)
set_option maxRecDepth 65536 in
theorem w_c29 : (Jvm.Cond.code ({ cls := "java/lang/StringUTF16", name := "charAt", desc := "([BI)C" } : Jvm.MethodName) jdk_52_method_83_code (2 : Nat) (Option.some Jvm.ClassFile.FieldType.char)).before args0 about1 = true := code_word (m := ⟨8, 10⟩) (meth := k8m10) (c := k8c10) (by decide +kernel) rfl rfl rfl (by decide +kernel)
set_option maxRecDepth 65536 in
theorem w_c30 : (Jvm.Cond.code ({ cls := "java/lang/StringUTF16", name := "checkIndex", desc := "(I[B)V" } : Jvm.MethodName) jdk_52_method_91_code (2 : Nat) (Option.none : Option Jvm.ClassFile.FieldType)).before args0 about1 = true := code_word (m := ⟨8, 11⟩) (meth := k8m11) (c := k8c11) (by decide +kernel) rfl rfl rfl (by decide +kernel)
set_option maxRecDepth 65536 in
theorem w_c31 : (Jvm.Cond.code ({ cls := "java/lang/StringUTF16", name := "length", desc := "([B)I" } : Jvm.MethodName) jdk_52_method_6_code (1 : Nat) (Option.some Jvm.ClassFile.FieldType.int)).before args0 about1 = true := code_word (m := ⟨8, 5⟩) (meth := k8m5) (c := k8c5) (by decide +kernel) rfl rfl rfl (by decide +kernel)
set_option maxRecDepth 65536 in
theorem w_c32 : (Jvm.Cond.code ({ cls := "java/lang/Character", name := "isLowSurrogate", desc := "(C)Z" } : Jvm.MethodName) jdk_89_method_15_code (1 : Nat) (Option.some Jvm.ClassFile.FieldType.boolean)).before args0 about1 = true := code_word (m := ⟨12, 1⟩) (meth := k12m1) (c := k12c1) (by decide +kernel) rfl rfl rfl (by decide +kernel)
def codes1 : List Jvm.Cond := [Jvm.Cond.code x code maxLocals ret, Jvm.Cond.code ({ cls := "com/example/lexiflow/lexiflow/model/IdsCheckPinLaw", name := "draw", desc := "(I)C" } : Jvm.MethodName) method_3_code (4 : Nat) (Option.some Jvm.ClassFile.FieldType.char), Jvm.Cond.code ({ cls := "com/example/lexiflow/lexiflow/model/IdsCheckPinLaw", name := "ok", desc := "([CII)Z" } : Jvm.MethodName) method_7_code (4 : Nat) (Option.some Jvm.ClassFile.FieldType.boolean), Jvm.Cond.code ({ cls := "com/example/lexiflow/lexiflow/model/IdsCheckPinLaw", name := "forbidden", desc := "(C)Z" } : Jvm.MethodName) method_6_code (1 : Nat) (Option.some Jvm.ClassFile.FieldType.boolean), Jvm.Cond.code ({ cls := "com/example/lexiflow/lexiflow/model/IdsCheckPinLaw", name := "isHigh", desc := "(C)Z" } : Jvm.MethodName) method_4_code (1 : Nat) (Option.some Jvm.ClassFile.FieldType.boolean), Jvm.Cond.code ({ cls := "com/example/lexiflow/lexiflow/model/IdsCheckPinLaw", name := "isLow", desc := "(C)Z" } : Jvm.MethodName) method_5_code (1 : Nat) (Option.some Jvm.ClassFile.FieldType.boolean), Jvm.Cond.code ({ cls := "java/lang/String", name := "<init>", desc := "([C)V" } : Jvm.MethodName) jdk_42_method_3_code (2 : Nat) (Option.none : Option Jvm.ClassFile.FieldType), Jvm.Cond.code ({ cls := "java/lang/String", name := "<init>", desc := "([CIILjava/lang/Void;)V" } : Jvm.MethodName) jdk_42_method_149_code (6 : Nat) (Option.none : Option Jvm.ClassFile.FieldType), Jvm.Cond.code ({ cls := "java/lang/Object", name := "<init>", desc := "()V" } : Jvm.MethodName) object_method_1_code (1 : Nat) (Option.none : Option Jvm.ClassFile.FieldType), Jvm.Cond.code ({ cls := "java/lang/StringUTF16", name := "compress", desc := "([CII)[B" } : Jvm.MethodName) jdk_52_method_16_code (6 : Nat) (Option.some (Jvm.ClassFile.FieldType.array Jvm.ClassFile.FieldType.byte)), Jvm.Cond.code ({ cls := "java/lang/StringUTF16", name := "compress", desc := "([CI[BII)I" } : Jvm.MethodName) jdk_52_method_21_code (7 : Nat) (Option.some Jvm.ClassFile.FieldType.int), Jvm.Cond.code ({ cls := "java/lang/StringUTF16", name := "coderFromArrayLen", desc := "([BI)B" } : Jvm.MethodName) jdk_52_method_15_code (2 : Nat) (Option.some Jvm.ClassFile.FieldType.byte), Jvm.Cond.code ({ cls := "com/example/lexiflow/lexiflow/model/Ids", name := "check", desc := "(Ljava/lang/String;)V" } : Jvm.MethodName) prog_23_method_2_code (3 : Nat) (Option.none : Option Jvm.ClassFile.FieldType), Jvm.Cond.code ({ cls := "java/lang/String", name := "isEmpty", desc := "()Z" } : Jvm.MethodName) jdk_42_method_55_code (1 : Nat) (Option.some Jvm.ClassFile.FieldType.boolean), Jvm.Cond.code ({ cls := "java/lang/String", name := "length", desc := "()I" } : Jvm.MethodName) jdk_42_method_54_code (1 : Nat) (Option.some Jvm.ClassFile.FieldType.int), Jvm.Cond.code ({ cls := "java/lang/String", name := "coder", desc := "()B" } : Jvm.MethodName) jdk_42_method_152_code (1 : Nat) (Option.some Jvm.ClassFile.FieldType.byte), Jvm.Cond.code ({ cls := "java/lang/String", name := "charAt", desc := "(I)C" } : Jvm.MethodName) jdk_42_method_56_code (2 : Nat) (Option.some Jvm.ClassFile.FieldType.char), Jvm.Cond.code ({ cls := "java/lang/String", name := "isLatin1", desc := "()Z" } : Jvm.MethodName) jdk_42_method_154_code (1 : Nat) (Option.some Jvm.ClassFile.FieldType.boolean), Jvm.Cond.code ({ cls := "java/lang/StringLatin1", name := "charAt", desc := "([BI)C" } : Jvm.MethodName) jdk_43_method_2_code (2 : Nat) (Option.some Jvm.ClassFile.FieldType.char), Jvm.Cond.code ({ cls := "java/lang/String", name := "checkIndex", desc := "(II)V" } : Jvm.MethodName) jdk_42_method_155_code (2 : Nat) (Option.none : Option Jvm.ClassFile.FieldType), Jvm.Cond.code ({ cls := "jdk/internal/util/Preconditions", name := "checkIndex", desc := "(IILjava/util/function/BiFunction;)I" } : Jvm.MethodName) jdk_41_method_11_code (3 : Nat) (Option.some Jvm.ClassFile.FieldType.int), Jvm.Cond.code ({ cls := "com/example/lexiflow/lexiflow/model/Ids", name := "isLineBreak", desc := "(C)Z" } : Jvm.MethodName) prog_23_method_4_code (1 : Nat) (Option.some Jvm.ClassFile.FieldType.boolean), Jvm.Cond.code ({ cls := "java/lang/Character", name := "isHighSurrogate", desc := "(C)Z" } : Jvm.MethodName) jdk_89_method_14_code (1 : Nat) (Option.some Jvm.ClassFile.FieldType.boolean), Jvm.Cond.code ({ cls := "java/lang/Character", name := "isSurrogate", desc := "(C)Z" } : Jvm.MethodName) jdk_89_method_16_code (1 : Nat) (Option.some Jvm.ClassFile.FieldType.boolean), Jvm.Cond.code ({ cls := "java/lang/StringUTF16", name := "toBytes", desc := "([CII)[B" } : Jvm.MethodName) jdk_52_method_14_code (5 : Nat) (Option.some (Jvm.ClassFile.FieldType.array Jvm.ClassFile.FieldType.byte)), Jvm.Cond.code ({ cls := "java/lang/StringUTF16", name := "newBytesFor", desc := "(I)[B" } : Jvm.MethodName) jdk_52_method_2_code (1 : Nat) (Option.some (Jvm.ClassFile.FieldType.array Jvm.ClassFile.FieldType.byte)), Jvm.Cond.code ({ cls := "java/lang/StringUTF16", name := "newBytesLength", desc := "(I)I" } : Jvm.MethodName) jdk_52_method_3_code (1 : Nat) (Option.some Jvm.ClassFile.FieldType.int), Jvm.Cond.code ({ cls := "java/lang/StringUTF16", name := "putChar", desc := "([BII)V" } : Jvm.MethodName) jdk_52_method_4_code (3 : Nat) (Option.none : Option Jvm.ClassFile.FieldType), Jvm.Cond.code ({ cls := "java/lang/StringUTF16", name := "getChar", desc := "([BI)C" } : Jvm.MethodName) jdk_52_method_5_code (2 : Nat) (Option.some Jvm.ClassFile.FieldType.char), Jvm.Cond.code ({ cls := "java/lang/StringUTF16", name := "charAt", desc := "([BI)C" } : Jvm.MethodName) jdk_52_method_83_code (2 : Nat) (Option.some Jvm.ClassFile.FieldType.char), Jvm.Cond.code ({ cls := "java/lang/StringUTF16", name := "checkIndex", desc := "(I[B)V" } : Jvm.MethodName) jdk_52_method_91_code (2 : Nat) (Option.none : Option Jvm.ClassFile.FieldType), Jvm.Cond.code ({ cls := "java/lang/StringUTF16", name := "length", desc := "([B)I" } : Jvm.MethodName) jdk_52_method_6_code (1 : Nat) (Option.some Jvm.ClassFile.FieldType.int), Jvm.Cond.code ({ cls := "java/lang/Character", name := "isLowSurrogate", desc := "(C)Z" } : Jvm.MethodName) jdk_89_method_15_code (1 : Nat) (Option.some Jvm.ClassFile.FieldType.boolean)]
set_option maxRecDepth 65536 in
theorem codes_eq : words1.filter isCode = codes1 := rfl
theorem w_codes : ∀ c ∈ words1.filter isCode, c.before args0 about1 = true := by
  rw [codes_eq]
  intro c hc
  simp only [codes1, List.mem_cons, List.not_mem_nil, or_false] at hc
  rcases hc with rfl | rfl | rfl | rfl | rfl | rfl | rfl | rfl | rfl | rfl | rfl | rfl | rfl | rfl | rfl | rfl | rfl | rfl | rfl | rfl | rfl | rfl | rfl | rfl | rfl | rfl | rfl | rfl | rfl | rfl | rfl | rfl | rfl
  · exact w_c0
  · exact w_c1
  · exact w_c2
  · exact w_c3
  · exact w_c4
  · exact w_c5
  · exact w_c6
  · exact w_c7
  · exact w_c8
  · exact w_c9
  · exact w_c10
  · exact w_c11
  · exact w_c12
  · exact w_c13
  · exact w_c14
  · exact w_c15
  · exact w_c16
  · exact w_c17
  · exact w_c18
  · exact w_c19
  · exact w_c20
  · exact w_c21
  · exact w_c22
  · exact w_c23
  · exact w_c24
  · exact w_c25
  · exact w_c26
  · exact w_c27
  · exact w_c28
  · exact w_c29
  · exact w_c30
  · exact w_c31
  · exact w_c32
set_option maxRecDepth 65536 in
theorem w_t1 : (words1.take 24).all (fun c => isCode c || c.before args0 about1) = true := by decide +kernel
set_option maxRecDepth 65536 in
theorem w_t2 : ((words1.drop 24).take 24).all (fun c => isCode c || c.before args0 about1) = true := by decide +kernel
set_option maxRecDepth 65536 in
theorem w_t3 : (((words1.drop 24).drop 24).take 24).all (fun c => isCode c || c.before args0 about1) = true := by decide +kernel
set_option maxRecDepth 65536 in
theorem w_t4 : ((((words1.drop 24).drop 24).drop 24).take 24).all (fun c => isCode c || c.before args0 about1) = true := by decide +kernel
set_option maxRecDepth 65536 in
theorem w_t5 : (((((words1.drop 24).drop 24).drop 24).drop 24).take 24).all (fun c => isCode c || c.before args0 about1) = true := by decide +kernel
set_option maxRecDepth 65536 in
theorem w_t6 : (((((words1.drop 24).drop 24).drop 24).drop 24).drop 24).all (fun c => isCode c || c.before args0 about1) = true := by decide +kernel
theorem w_tables : (allAtoms (Jvm.Cond.code x code maxLocals ret :: tables_1)).before args0 about1 = true := by
  rw [allAtoms_all]
  show words1.all (fun c => c.before args0 about1) = true
  refine all_split ?_ w_codes
  rw [← List.take_append_drop 24 words1, List.all_append, w_t1, ← List.take_append_drop 24 (words1.drop 24), List.all_append, w_t2, ← List.take_append_drop 24 ((words1.drop 24).drop 24), List.all_append, w_t3, ← List.take_append_drop 24 (((words1.drop 24).drop 24).drop 24), List.all_append, w_t4, ← List.take_append_drop 24 ((((words1.drop 24).drop 24).drop 24).drop 24), List.all_append, w_t5, w_t6]
  rfl
set_option maxRecDepth 65536 in
theorem w_rest : rest_1_c.before args0 about1 = true := by decide +kernel
set_option maxRecDepth 65536 in
theorem w_case : (Jvm.Cond.and given_1 narrow_1).before args0 about1 = true := by decide +kernel
theorem w_applies : (headSpec (Jvm.Cond.code x code maxLocals ret :: tables_1) room_1).applies x e0.platform about1 = true :=
  (Spec.applies_iff w_frames).mpr ⟨w_running, w_runnable, w_alone, w_named, w_hears, w_ripe, w_room, w_tables⟩
theorem atStart : AtStart classFile x code maxLocals ret World_1 tables_1 room_1 Calls_1 rest_1 Pre_1 launch0 p0 e0 about1 theMethod args0 below0 :=
  ⟨lists_1, trivial, launch0.admits_env _ _ _, launch0.least_env, fairChoices_fair.cas, fairChoices_fair.clock, w_frames, w_args, w_heap, w_applies, trivial, w_rest, w_case⟩
end start1
theorem witness_1 : WitnessClaimed_1 := ⟨start1.p0, start1.e0, start1.about1, start1.theMethod, start1.args0, start1.below0, start1.atStart⟩
end Jvm.Pilot.@@N@@
