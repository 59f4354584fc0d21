import JvmDerived
import JvmDerived.Pilot.@@N@@Statement
import JvmDerived.Pilot.@@N@@Code
set_option linter.unusedVariables false
set_option linter.unusedSimpArgs false
@@BLOCK:Masks.lean.txt@@
@@BLOCK:NumsL.lean.txt@@
namespace Jvm.Pilot.@@N@@
open Jvm Jvm.ClassFile Sem Op Lib Jvm.Free Jvm.Stand Jvm.LawKit Jvm.RoadKit Bundle Jvm.Pilot.@@N@@.Jvm.D
/-! own layer: a walk as "from here the body comes to a good end" (own_Wp), so that a walk may fork in its middle -/
section OwnLayer
variable {p : Program} {l : Launch} {e : Env} {R : Room} {s : State} {m : MethodId} {args : Array Value} {below : List Frame} {meth : Method} {c : Code} {T T' : State} {locs : List Loc} {cells slots cs sl pc : Nat} {g g' : JFrame} {F : State → Outcome → Prop} {Q : Option Value → Heap → List Loc → Prop} {Ls : Array Slot} {rest : List Value} {Z : State} {a0 : Array Value} {h : Heap}
def own_Wp (p : Program) (e : Env) (below : List Frame) (F : State → Outcome → Prop) (T : State) (g : JFrame) : Prop := ∃ s₂ o, Steps p.tables e below (T.setTop g) s₂ ∧ F s₂ o
def own_Fin (below : List Frame) (s : State) (Q : Option Value → Heap → List Loc → Prop) (cs sl : Nat) (s₂ : State) (o : Outcome) : Prop := s₂.status = .running ∧ Ended s₂ below o ∧ ∃ v L, o = .returned v ∧ Q v s₂.heap L ∧ FrameEnd s o s₂ L cs sl
theorem own_step (st : ∀ target, Steps p.tables e below (T'.setTop g') target → Steps p.tables e below (T.setTop g) target) (k : own_Wp p e below F T' g') : own_Wp p e below F T g := by
  obtain ⟨a, b, h1, h2⟩ := k
  exact ⟨a, b, st _ h1, h2⟩
theorem own_cast (q : g = g') (k : own_Wp p e below F T g') : own_Wp p e below F T g := q ▸ k
theorem own_leave {v : Option Value} {fs : List Frame} (st : Steps p.tables e below (T.setTop g) (T.setFrames fs)) (hrun : (T.setFrames fs).status = .running) (hended : Ended (T.setFrames fs) below (.returned v)) (hW : s.WarmedH (T.setFrames fs).vm) (hsame : s.sameButNew ({ T.setFrames fs with vm := s.vm } : State) locs cells slots) (hc : cells ≤ cs) (hs : slots ≤ sl) (hQ : Q v T.heap locs) : own_Wp p e below (own_Fin below s Q cs sl) T g :=
  ⟨_, _, st, hrun, hended, v, locs, rfl, hQ, ⟨_, rfl⟩, hW, hsame.mono hc hs⟩
theorem own_retN (X : Stand p l e R s m args below meth c T locs cells slots) (hx : p.tables.exec = Jvm.exec) {t : FieldType} {z : Int32} (hret : meth.sig.returnType = some t) (ht : t = .boolean ∨ t = .byte ∨ t = .char ∨ t = .short) (hlocks : meth.locks = false) (hd : decode c.code pc = .ok (.ireturn, 1)) (hc : cells ≤ cs) (hs : slots ≤ sl) (hQ : Q (some (.int (nar t z))) T.heap locs) : own_Wp p e below (own_Fin below s Q cs sl) T (mkF m pc Ls (.int z :: rest)) := by
  obtain ⟨fs, hr, hrun, hended, hW, hsame⟩ := X.leave (v := some (.int (nar t z))) (fun h => by rw [hret] at h; cases h) hlocks
  exact own_leave (retN X hx hret ht hd hr) hrun hended hW hsame hc hs hQ
theorem own_retI (X : Stand p l e R s m args below meth c T locs cells slots) (hx : p.tables.exec = Jvm.exec) {z : Int32} (hret : meth.sig.returnType = some .int) (hlocks : meth.locks = false) (hd : decode c.code pc = .ok (.ireturn, 1)) (hc : cells ≤ cs) (hs : slots ≤ sl) (hQ : Q (some (.int z)) T.heap locs) : own_Wp p e below (own_Fin below s Q cs sl) T (mkF m pc Ls (.int z :: rest)) := by
  obtain ⟨fs, hr, hrun, hended, hW, hsame⟩ := X.leave (v := some (.int z)) (fun h => by rw [hret] at h; cases h) hlocks
  refine own_leave ?_ hrun hended hW hsame hc hs hQ
  have hm' : T.vm.method? m = some meth := X.method'
  have hn : narrow .int (.int z) = .int z := rfl
  show Steps p.tables e below (T.setTop { method := m, pc := pc, locals := Ls, stack := _ :: rest, locked := none }) _
  jvm_step X.here [X.here.top, hx, hd, hm', hret, hn]
  first | (intro acts; rw [hr _ acts rfl rfl rfl]) | rw [hr _ _ rfl rfl rfl]
  exact Steps.refl _
theorem own_retJ (X : Stand p l e R s m args below meth c T locs cells slots) (hx : p.tables.exec = Jvm.exec) {z : Int64} (hret : meth.sig.returnType = some .long) (hlocks : meth.locks = false) (hd : decode c.code pc = .ok (.lreturn, 1)) (hc : cells ≤ cs) (hs : slots ≤ sl) (hQ : Q (some (.long z)) T.heap locs) : own_Wp p e below (own_Fin below s Q cs sl) T (mkF m pc Ls (.long z :: rest)) := by
  obtain ⟨fs, hr, hrun, hended, hW, hsame⟩ := X.leave (v := some (.long z)) (fun h => by rw [hret] at h; cases h) hlocks
  refine own_leave ?_ hrun hended hW hsame hc hs hQ
  have hm' : T.vm.method? m = some meth := X.method'
  have hn : narrow .long (.long z) = .long z := rfl
  show Steps p.tables e below (T.setTop { method := m, pc := pc, locals := Ls, stack := _ :: rest, locked := none }) _
  jvm_step X.here [X.here.top, hx, hd, hm', hret, hn]
  first | (intro acts; rw [hr _ acts rfl rfl rfl]) | rw [hr _ _ rfl rfl rfl]
  exact Steps.refl _
theorem own_retA (X : Stand p l e R s m args below meth c T locs cells slots) (hx : p.tables.exec = Jvm.exec) {t : FieldType} {v : Value} (hret : meth.sig.returnType = some t) (ht : t.isReference = true) (hv : v.isRef = true) (hlocks : meth.locks = false) (hd : decode c.code pc = .ok (.areturn, 1)) (hc : cells ≤ cs) (hs : slots ≤ sl) (hQ : Q (some v) T.heap locs) : own_Wp p e below (own_Fin below s Q cs sl) T (mkF m pc Ls (v :: rest)) := by
  obtain ⟨fs, hr, hrun, hended, hW, hsame⟩ := X.leave (v := some v) (fun h => by rw [hret] at h; cases h) hlocks
  refine own_leave ?_ hrun hended hW hsame hc hs hQ
  have hm' : T.vm.method? m = some meth := X.method'
  rcases ref_cases hv with rfl | ⟨a, rfl⟩
  · show Steps p.tables e below (T.setTop { method := m, pc := pc, locals := Ls, stack := _ :: rest, locked := none }) _
    jvm_step X.here [X.here.top, hx, hd, hm', hret, Value.isRef, ht]
    first | (intro acts; rw [hr _ acts rfl rfl rfl]) | rw [hr _ _ rfl rfl rfl]
    exact Steps.refl _
  · show Steps p.tables e below (T.setTop { method := m, pc := pc, locals := Ls, stack := _ :: rest, locked := none }) _
    jvm_step X.here [X.here.top, hx, hd, hm', hret, Value.isRef, ht]
    first | (intro acts; rw [hr _ acts rfl rfl rfl]) | rw [hr _ _ rfl rfl rfl]
    exact Steps.refl _
theorem own_retV (X : Stand p l e R s m args below meth c T locs cells slots) (hx : p.tables.exec = Jvm.exec) (hret : meth.sig.returnType = none) (hlocks : meth.locks = false) (hd : decode c.code pc = .ok (.return_, 1)) (hc : cells ≤ cs) (hs : slots ≤ sl) (hQ : Q none T.heap locs) : own_Wp p e below (own_Fin below s Q cs sl) T (mkF m pc Ls []) := by
  obtain ⟨fs, hr, hrun, hended, hW, hsame⟩ := X.leave (v := none) (fun _ => rfl) hlocks
  exact own_leave (X.returnOut hx hret hd hr) hrun hended hW hsame hc hs hQ
/-- a contract, as every body of this text has one -/
def own_Met (l : Launch) (Z : State) (y : MethodName) (cd : Cond) (ws : List Cond) (rm : Room) (as' : Array Value) (h : Heap) (Q : Option Value → Heap → List Loc → Prop) : Prop :=
  MetFree l y (head1 (cd :: ws) rm) (fun a U => a = as' ∧ Z.Warmed39 U.vm ∧ U.heap = h) (fun _ _ _ _ _ => True) (fun _ U o U' => ∃ v L, o = .returned v ∧ Q v U'.heap L ∧ FrameEnd U o U' L rm.cells rm.slots)
theorem own_met {y : MethodName} {bytes : ByteArray} {maxL : Nat} {ret : Option FieldType} {ws : List Cond} {rm : Room} {as' : Array Value} {own : String} (hpl : plainFor y = true) (ho : y.cls = own)
    (body : ∀ p e s m below meth c s₁, p.tables.exec = Jvm.exec → c.code = bytes → c.maxLocals = maxL → s.vm.findClass own = some m.cls → meth.name = y.name → meth.sig.returnType = ret → meth.locks = false → Z.Warmed39 s.vm → s₁.heap = h →
      Stand p l e rm s m as' below meth c s₁ [] 0 0 → own_Wp p e below (own_Fin below s Q rm.cells rm.slots) s₁ (entryFrame m as' maxL)) : own_Met l Z y (Cond.code y bytes maxL ret) ws rm as' h Q := by
  refine MetFree.of_bodySF hpl hisR ?_
  intro p e s m args below meth c s₁ Bd hml0 hP hK
  obtain ⟨rfl, hZ, hh⟩ := hP
  exact body p e s m below meth c s₁ Bd.exec Bd.bytes hml0 (ho ▸ findClass_of_methodNamed Bd.named) (name_of_methodNamed Bd.named Bd.method).1 Bd.returns Bd.notSynchronized hZ (by rw [← hh, Bd.state]; rfl) (Stand.of_body Bd)
theorem own_callS (X : Stand p l e R s m args below meth c T locs cells slots) (hx : p.tables.exec = Jvm.exec) (hZ : Z.Warmed39 s.vm) {own : String} {index : Nat} {y : MethodName} {bytes : ByteArray} {maxL W : Nat} {ret : Option FieldType} {rm : Room} {as' : Array Value}
    (hown : s.vm.findClass own = some m.cls) (w1 : (Cond.methodLink own index y).before a0 Z = true) (w2 : (Cond.static y).before a0 Z = true) (w3 : (Cond.initialized y.cls).before a0 Z = true) (w4 : (Cond.code y bytes maxL ret).before a0 Z = true) (hy : y.cls ≠ "java/lang/invoke/MethodHandle" ∧ y.cls ≠ "java/lang/invoke/VarHandle")
    (hM : own_Met l Z y (Cond.code y bytes maxL ret) [] rm as' h Q) (hf : rm.frames + 1 ≤ R.frames) (hl : W + (maxL + 11) + rm.locals ≤ R.locals) (argsL : List Value) (ha : argsL.toArray = as') (hlen : ∀ sig, parseMethodDescriptor y.desc = some sig → argsL.length = sig.parameters.length)
    (hsz : Ls.size = c.maxLocals) (hW : (rest.map fun v => v.category).sum ≤ W) (hd : decode c.code pc = .ok (.invokestatic index, 3)) (eT : T.heap = h) (hc : cells + rm.cells ≤ R.cells) (hs : slots + rm.slots ≤ R.slots) :
    ∃ (v : Option Value) (T' : State) (L : List Loc), Stand p l e R s m args below meth c T' (locs ++ L) (cells + rm.cells) (slots + rm.slots) ∧ Q v T'.heap L ∧ ∀ F, own_Wp p e below F T' (mkF m (pc + 3) Ls (v.toList ++ rest)) → own_Wp p e below F T (mkF m pc Ls (argsL.reverse ++ rest)) := by
  obtain ⟨v, _, ⟨T1, L1, k1, n1⟩, -, X1, ⟨Lc, hQ, l1, y1, z1⟩, st⟩ := Jvm.LawKit.callS X hx (y := y) hown (mvT hZ w1) (mvT hZ w2) (mvT hZ w3) (mvT hZ w4) hy (backOf (W := W) hM hZ w4 w3 hf hl) (g := mkF m pc Ls (argsL.reverse ++ rest)) rfl hsz (argsL := argsL) (rest := rest) hlen rfl (by show 2 * 0 + _ ≤ _; omega) hd (fun _ _ => ⟨ha, eT, hc, hs⟩)
  dsimp only [Pt.U, Pt.locs, Pt.cells, Pt.slots] at X1 l1 y1 z1 st hQ
  subst l1 y1 z1
  exact ⟨v, T1, Lc, X1, hQ, fun F k => own_step st k⟩
theorem own_callV (X : Stand p l e R s m args below meth c T locs cells slots) (hx : p.tables.exec = Jvm.exec) (hZ : Z.Warmed39 s.vm) {own C : String} {index : Nat} {y z : MethodName} {bytes : ByteArray} {maxL W : Nat} {ret : Option FieldType} {rm : Room} {as' : Array Value} {b : Addr}
    (hown : s.vm.findClass own = some m.cls) (w1 : (Cond.methodLink own index y).before a0 Z = true) (w2 : (Cond.declares y).before a0 Z = true) (hnf : NotFace s y) (w3 : (Cond.selects C y z).before a0 Z = true) (w5 : (Cond.instanceMethod z).before a0 Z = true) (w6 : (Cond.initialized z.cls).before a0 Z = true) (w4 : (Cond.code z bytes maxL ret).before a0 Z = true) (hy : y.cls ≠ "java/lang/invoke/MethodHandle" ∧ y.cls ≠ "java/lang/invoke/VarHandle") (E : Exa Z h b C)
    (hM : own_Met l Z z (Cond.code z bytes maxL ret) [] rm as' h Q) (hf : rm.frames + 1 ≤ R.frames) (hl : W + (maxL + 11) + rm.locals ≤ R.locals) (argsL : List Value) (ha : (.ref b :: argsL).toArray = as') (hlen : ∀ sig, parseMethodDescriptor y.desc = some sig → argsL.length = sig.parameters.length)
    (hsz : Ls.size = c.maxLocals) (hW : (rest.map fun v => v.category).sum ≤ W) (hd : decode c.code pc = .ok (.invokevirtual index, 3)) (eT : T.heap = h) (hc : cells + rm.cells ≤ R.cells) (hs : slots + rm.slots ≤ R.slots) :
    ∃ (v : Option Value) (T' : State) (L : List Loc), Stand p l e R s m args below meth c T' (locs ++ L) (cells + rm.cells) (slots + rm.slots) ∧ Q v T'.heap L ∧ ∀ F, own_Wp p e below F T' (mkF m (pc + 3) Ls (v.toList ++ rest)) → own_Wp p e below F T (mkF m pc Ls (argsL.reverse ++ .ref b :: rest)) := by
  obtain ⟨cq, kq, qa, qb, qc⟩ := isOf hZ eT E
  obtain ⟨v, _, ⟨T1, L1, k1, n1⟩, -, X1, ⟨Lc, hQ, l1, y1, z1⟩, st⟩ := X.virtualBack hx (y := y) (z := z) hown (mvT hZ w1) (mvT hZ w2) hnf (mvT hZ w3) (mvT hZ w5) hy (backOf (W := W) hM hZ w4 w6 hf hl) qa qc (g := mkF m pc Ls (argsL.reverse ++ .ref b :: rest)) rfl hsz (Steps.refl _) (argsL := argsL) (rest := rest) hlen rfl (by show 2 * 0 + _ ≤ _; omega) hd (fun _ _ => ⟨ha, eT, hc, hs⟩)
  dsimp only [Pt.U, Pt.locs, Pt.cells, Pt.slots] at X1 l1 y1 z1 st hQ
  subst l1 y1 z1
  exact ⟨v, T1, Lc, X1, hQ, fun F k => own_step (fun _ q => st.trans q) k⟩
theorem own_callN (X : Stand p l e R s m args below meth c T locs cells slots) (hx : p.tables.exec = Jvm.exec) (hZ : Z.Warmed39 s.vm) {own : String} {index : Nat} {y : MethodName} {bytes : ByteArray} {maxL W : Nat} {rm : Room} {as' : Array Value} {b : Addr}
    (hn : y.name = "<init>") (hown : s.vm.findClass own = some m.cls) (w1 : (Cond.methodLink own index y).before a0 Z = true) (w5 : (Cond.instanceMethod y).before a0 Z = true) (w6 : (Cond.initialized y.cls).before a0 Z = true) (w4 : (Cond.code y bytes maxL none).before a0 Z = true) (hy : y.cls ≠ "java/lang/invoke/MethodHandle" ∧ y.cls ≠ "java/lang/invoke/VarHandle")
    (hM : own_Met l Z y (Cond.code y bytes maxL none) [] rm as' h Q) (hf : rm.frames + 1 ≤ R.frames) (hl : W + (maxL + 11) + rm.locals ≤ R.locals) (argsL : List Value) (ha : (.ref b :: argsL).toArray = as') (hlen : ∀ sig, parseMethodDescriptor y.desc = some sig → argsL.length = sig.parameters.length)
    (hsz : Ls.size = c.maxLocals) (hW : (rest.map fun v => v.category).sum ≤ W) (hd : decode c.code pc = .ok (.invokespecial index, 3)) (eT : T.heap = h) (hc : cells + rm.cells ≤ R.cells) (hs : slots + rm.slots ≤ R.slots) :
    ∃ (v : Option Value) (T' : State) (L : List Loc), Stand p l e R s m args below meth c T' (locs ++ L) (cells + rm.cells) (slots + rm.slots) ∧ Q v T'.heap L ∧ ∀ F, own_Wp p e below F T' (mkF m (pc + 3) Ls (v.toList ++ rest)) → own_Wp p e below F T (mkF m pc Ls (argsL.reverse ++ .ref b :: rest)) := by
  obtain ⟨v, _, ⟨T1, L1, k1, n1⟩, -, X1, ⟨Lc, hQ, l1, y1, z1⟩, st⟩ := X.specialBack hx (y := y) hn hown (mvT hZ w1) (mvT hZ w5) (mvT hZ w4) hy (backOf (W := W) hM hZ w4 w6 hf hl) (g := mkF m pc Ls (argsL.reverse ++ .ref b :: rest)) rfl hsz (Steps.refl _) (a := b) (argsL := argsL) (rest := rest) hlen rfl (by show 2 * 0 + _ ≤ _; omega) hd (fun _ _ => ⟨ha, eT, hc, hs⟩)
  dsimp only [Pt.U, Pt.locs, Pt.cells, Pt.slots] at X1 l1 y1 z1 st hQ
  subst l1 y1 z1
  exact ⟨v, T1, Lc, X1, hQ, fun F k => own_step (fun _ q => st.trans q) k⟩
theorem own_callU (X : Stand p l e R s m args below meth c T locs cells slots) (hx : p.tables.exec = Jvm.exec) (hZ : Z.Warmed39 s.vm) {own C owner : String} {index : Nat} {y z : MethodName} {bytes : ByteArray} {maxL W : Nat} {ret : Option FieldType} {rm : Room} {as' : Array Value} {b : Addr}
    (hown : s.vm.findClass own = some m.cls) (w1 : (Cond.methodLink own index y).before a0 Z = true) (w2 : (Cond.sameMethod y.cls owner y.name y.desc).before a0 Z = true) (w7 : (Cond.declares ⟨owner, y.name, y.desc⟩).before a0 Z = true) (w3 : (Cond.selects C y z).before a0 Z = true) (w5 : (Cond.instanceMethod z).before a0 Z = true) (w6 : (Cond.initialized z.cls).before a0 Z = true) (w4 : (Cond.code z bytes maxL ret).before a0 Z = true) (hy : owner ≠ "java/lang/invoke/MethodHandle" ∧ owner ≠ "java/lang/invoke/VarHandle") (E : Exa Z h b C)
    (hM : own_Met l Z z (Cond.code z bytes maxL ret) [] rm as' h Q) (hf : rm.frames + 1 ≤ R.frames) (hl : W + (maxL + 11) + rm.locals ≤ R.locals) (argsL : List Value) (ha : (.ref b :: argsL).toArray = as') (hlen : ∀ sig, parseMethodDescriptor y.desc = some sig → argsL.length = sig.parameters.length)
    (hsz : Ls.size = c.maxLocals) (hW : (rest.map fun v => v.category).sum ≤ W) (hd : decode c.code pc = .ok (.invokevirtual index, 3)) (eT : T.heap = h) (hc : cells + rm.cells ≤ R.cells) (hs : slots + rm.slots ≤ R.slots) :
    ∃ (v : Option Value) (T' : State) (L : List Loc), Stand p l e R s m args below meth c T' (locs ++ L) (cells + rm.cells) (slots + rm.slots) ∧ Q v T'.heap L ∧ ∀ F, own_Wp p e below F T' (mkF m (pc + 3) Ls (v.toList ++ rest)) → own_Wp p e below F T (mkF m pc Ls (argsL.reverse ++ .ref b :: rest)) := by
  obtain ⟨cq, kq, qa, qb, qc⟩ := isOf hZ eT E
  obtain ⟨v, _, ⟨T1, L1, k1, n1⟩, -, X1, ⟨Lc, hQ, l1, y1, z1⟩, st⟩ := X.virtualBackUp hx (x := y) (y := z) hown (mvT hZ w1) (mvT hZ w2) (mvT hZ w7) hy (mvT hZ w3) (mvT hZ w5) (backOf (W := W) hM hZ w4 w6 hf hl) qa qc (g := mkF m pc Ls (argsL.reverse ++ .ref b :: rest)) rfl hsz (Steps.refl _) (argsL := argsL) (rest := rest) hlen rfl (by show 2 * 0 + _ ≤ _; omega) hd (fun _ _ => ⟨ha, eT, hc, hs⟩)
  dsimp only [Pt.U, Pt.locs, Pt.cells, Pt.slots] at X1 l1 y1 z1 st hQ
  subst l1 y1 z1
  exact ⟨v, T1, Lc, X1, hQ, fun F k => own_step (fun _ q => st.trans q) k⟩
theorem own_callF (X : Stand p l e R s m args below meth c T locs cells slots) (hx : p.tables.exec = Jvm.exec) (hZ : Z.Warmed39 s.vm) {own C : String} {index count : Nat} {y z : MethodName} {bytes : ByteArray} {maxL W : Nat} {ret : Option FieldType} {rm : Room} {as' : Array Value} {b : Addr}
    (hown : s.vm.findClass own = some m.cls) (w1 : (Cond.methodLink own index y).before a0 Z = true) (w2 : (Cond.declares y).before a0 Z = true) (w7 : (Cond.interfaceMethod y.cls y.cls y.name y.desc).before a0 Z = true) (hfa : ((Cond.interfaceMethod y.cls y.cls y.name y.desc).onTables && (Cond.interfaceMethod y.cls y.cls y.name y.desc).keepsFace) = true) (w3 : (Cond.selects C y z).before a0 Z = true) (w5 : (Cond.instanceMethod z).before a0 Z = true) (w8 : (Cond.publicMethod z).before a0 Z = true) (w9 : (Cond.unhidden C y.name y.desc).before a0 Z = true) (w10 : (Cond.castable C y.cls).before a0 Z = true) (w6 : (Cond.initialized z.cls).before a0 Z = true) (w4 : (Cond.code z bytes maxL ret).before a0 Z = true) (hy : y.cls ≠ "java/lang/invoke/MethodHandle" ∧ y.cls ≠ "java/lang/invoke/VarHandle") (E : Exa Z h b C)
    (hM : own_Met l Z z (Cond.code z bytes maxL ret) [] rm as' h Q) (hf : rm.frames + 1 ≤ R.frames) (hl : W + (maxL + 11) + rm.locals ≤ R.locals) (argsL : List Value) (ha : (.ref b :: argsL).toArray = as') (hlen : ∀ sig, parseMethodDescriptor y.desc = some sig → argsL.length = sig.parameters.length)
    (hsz : Ls.size = c.maxLocals) (hW : (rest.map fun v => v.category).sum ≤ W) (hd : decode c.code pc = .ok (.invokeinterface index count, 5)) (eT : T.heap = h) (hc : cells + rm.cells ≤ R.cells) (hs : slots + rm.slots ≤ R.slots) :
    ∃ (v : Option Value) (T' : State) (L : List Loc), Stand p l e R s m args below meth c T' (locs ++ L) (cells + rm.cells) (slots + rm.slots) ∧ Q v T'.heap L ∧ ∀ F, own_Wp p e below F T' (mkF m (pc + 5) Ls (v.toList ++ rest)) → own_Wp p e below F T (mkF m pc Ls (argsL.reverse ++ .ref b :: rest)) := by
  obtain ⟨cq, kq, qa, qb, qc⟩ := isOf hZ eT E
  obtain ⟨v, _, ⟨T1, L1, k1, n1⟩, -, X1, ⟨Lc, hQ, l1, y1, z1⟩, st⟩ := X.interfaceBack hx (xi := y) (y := z) hown (mvT hZ w1) (mvT hZ w2) (mvT hZ w7 hfa) (mvT hZ w3) (mvT hZ w5) (mvT hZ w8) (mvT hZ w9) (mvT hZ w10) hy (backOf (W := W) hM hZ w4 w6 hf hl) qa qb qc (g := mkF m pc Ls (argsL.reverse ++ .ref b :: rest)) rfl hsz (Steps.refl _) (argsL := argsL) (rest := rest) hlen rfl (by show 2 * 0 + _ ≤ _; omega) hd (fun _ _ => ⟨ha, eT, hc, hs⟩)
  dsimp only [Pt.U, Pt.locs, Pt.cells, Pt.slots] at X1 l1 y1 z1 st hQ
  subst l1 y1 z1
  exact ⟨v, T1, Lc, X1, hQ, fun F k => own_step (fun _ q => st.trans q) k⟩
theorem own_callP (X : Stand p l e R s m args below meth c T locs cells slots) (hx : p.tables.exec = Jvm.exec) (hZ : Z.Warmed39 s.vm) {own : String} {index : Nat} {y : MethodName} {bytes : ByteArray} {maxL W : Nat} {ret : Option FieldType} {rm : Room} {as' : Array Value} {b : Addr}
    (hown : s.vm.findClass own = some m.cls) (w1 : (Cond.methodLink own index y).before a0 Z = true) (w5 : (Cond.instanceMethod y).before a0 Z = true) (w7 : (Cond.selects y.cls y y).before a0 Z = true) (w8 : (Cond.privateMethod y).before a0 Z = true) (w6 : (Cond.initialized y.cls).before a0 Z = true) (w4 : (Cond.code y bytes maxL ret).before a0 Z = true) (hy : y.cls ≠ "java/lang/invoke/MethodHandle" ∧ y.cls ≠ "java/lang/invoke/VarHandle") {C : String} (E : Exa Z h b C)
    (hM : own_Met l Z y (Cond.code y bytes maxL ret) [] rm as' h Q) (hf : rm.frames + 1 ≤ R.frames) (hl : W + (maxL + 11) + rm.locals ≤ R.locals) (argsL : List Value) (ha : (.ref b :: argsL).toArray = as') (hlen : ∀ sig, parseMethodDescriptor y.desc = some sig → argsL.length = sig.parameters.length)
    (hsz : Ls.size = c.maxLocals) (hW : (rest.map fun v => v.category).sum ≤ W) (hd : decode c.code pc = .ok (.invokevirtual index, 3)) (eT : T.heap = h) (hc : cells + rm.cells ≤ R.cells) (hs : slots + rm.slots ≤ R.slots) :
    ∃ (v : Option Value) (T' : State) (L : List Loc), Stand p l e R s m args below meth c T' (locs ++ L) (cells + rm.cells) (slots + rm.slots) ∧ Q v T'.heap L ∧ ∀ F, own_Wp p e below F T' (mkF m (pc + 3) Ls (v.toList ++ rest)) → own_Wp p e below F T (mkF m pc Ls (argsL.reverse ++ .ref b :: rest)) := by
  obtain ⟨cq, q1, q2⟩ := E.cell
  obtain ⟨v, _, ⟨T1, L1, k1, n1⟩, -, X1, ⟨Lc, hQ, l1, y1, z1⟩, st⟩ := X.privateBack hx (y := y) hown (mvT hZ w1) (mvT hZ w5) (mvT hZ w7) (Cond.privateMethod_at (mvP hZ w8 (args := #[]))) (mvT hZ w4) hy (backOf (W := W) hM hZ w4 w6 hf hl) (g := mkF m pc Ls (argsL.reverse ++ .ref b :: rest)) rfl hsz (Steps.refl _) (a := b) (by rw [eT]; exact q1) q2 (argsL := argsL) (rest := rest) hlen rfl (by show 2 * 0 + _ ≤ _; omega) hd (fun _ _ => ⟨ha, eT, hc, hs⟩)
  dsimp only [Pt.U, Pt.locs, Pt.cells, Pt.slots] at X1 l1 y1 z1 st hQ
  subst l1 y1 z1
  exact ⟨v, T1, Lc, X1, hQ, fun F k => own_step (fun _ q => st.trans q) k⟩
/-- the words of a long conjunction, as a list -/
def own_flat : Cond → List Cond
  | .and a b => a :: own_flat b
  | c => [c]
theorem own_mem {args : Array Value} {Z : State} : ∀ c : Cond, c.value args Z none Z [] = some true → ∀ d ∈ own_flat c, d.value args Z none Z [] = some true
  | .and a b, h, d, hd => by
    obtain ⟨h1, h2⟩ := and_e h
    rcases List.mem_cons.mp hd with rfl | q
    · exact h1
    · exact own_mem b h2 d q
  | .tt, h, d, hd => by cases List.mem_singleton.mp hd; exact h
  | c, h, d, hd => by
    unfold own_flat at hd
    split at hd
    · rename_i a b
      obtain ⟨h1, h2⟩ := and_e h
      rcases List.mem_cons.mp hd with rfl | q
      · exact h1
      · exact own_mem b h2 d q
    · cases List.mem_singleton.mp hd; exact h
/-- the object that a term of the start names -/
def own_t (Z : State) (t : Term) : Addr := match t.eval #[] Z none [] Z with
  | some (.ref a) => a
  | _ => 0
theorem own_t_eq {t : Term} {a : Addr} (h : t.eval a0 Z none [] Z = some (.ref a)) (hr : t.eval a0 Z none [] Z = t.eval #[] Z none [] Z) : own_t Z t = a := by
  rw [hr] at h
  simp only [own_t, h]
theorem own_ev {t : Term} {K : String} (h : (Cond.exactly t K).value a0 Z none Z [] = some true) (hr : t.eval a0 Z none [] Z = t.eval #[] Z none [] Z) : t.eval a0 Z none [] Z = some (.ref (own_t Z t)) := by
  obtain ⟨a, ev⟩ := exa_v h
  rw [own_t_eq ev hr]
  exact ev
theorem own_evA {t : Term} {ty : FieldType} (h : (Cond.arrayOf t ty).value a0 Z none Z [] = some true) (hr : t.eval a0 Z none [] Z = t.eval #[] Z none [] Z) : t.eval a0 Z none [] Z = some (.ref (own_t Z t)) := by
  obtain ⟨a, ev⟩ := arr_v h
  rw [own_t_eq ev hr]
  exact ev
theorem own_eqI {t : Term} {z : Int32} (q : (Cond.eq t (.int z)).value a0 Z none Z [] = some true) : t.eval a0 Z none [] Z = some (.int z) := by
  cases hf : t.eval a0 Z none [] Z with
  | none => simp [Cond.value, hf] at q
  | some v => cases v <;> simp [Cond.value, Term.eval, hf] at q <;> first | (rw [q]; done) | exact congrArg (fun z => some (Value.int z)) q | skip
theorem own_eqR {t u : Term} {b : Addr} (q : (Cond.eq t u).value a0 Z none Z [] = some true) (ev : u.eval a0 Z none [] Z = some (.ref b)) : t.eval a0 Z none [] Z = some (.ref b) := by
  cases hf : t.eval a0 Z none [] Z with
  | none => simp [Cond.value, hf] at q
  | some v => cases v <;> simp [Cond.value, hf, ev] at q <;> first | (rw [q]; done) | exact congrArg (fun z => some (Value.ref z)) q | skip
theorem own_fld {t : Term} {O f d : String} {a : Addr} {v : Value} (ev : t.eval a0 Z none [] Z = some (.ref a)) (q : (Term.field t O f d).eval a0 Z none [] Z = some v) : Fld Z Z.heap a O f d v := by
  refine Fld.start ?_
  simp only [Term.eval, ev, Option.bind_eq_bind, Option.bind_some] at q
  exact q
theorem own_len {t : Term} {ty : FieldType} {a : Addr} {cl : Cell} {z : Int32} (A : Arr Z Z.heap a cl ty) (ev : t.eval a0 Z none [] Z = some (.ref a)) (q : (Cond.eq (.length t) (.int z)).value a0 Z none Z [] = some true) : cl.slots.size < 2 ^ 31 ∧ cl.slots.size.toInt32 = z := by
  have e0 : Z.arrayAt? a = some cl := Arr.fin (Vm.Alike.refl _) A
  have q2 := own_eqI q
  simp only [Term.eval, ev, e0, Option.bind_eq_bind, Option.bind_some] at q2
  split at q2
  · rename_i g
    exact ⟨g, by simpa using q2⟩
  · cases q2
theorem own_el {t : Term} {ty : FieldType} {a : Addr} {cl : Cell} {i : Int32} {v : Value} (A : Arr Z Z.heap a cl ty) (ev : t.eval a0 Z none [] Z = some (.ref a)) (q : (Term.elem t (.int i)).eval a0 Z none [] Z = some v) : cl.slots[i.toNatClampNeg]? = some v := by
  have e0 : Z.arrayAt? a = some cl := Arr.fin (Vm.Alike.refl _) A
  simp only [Term.eval, ev, e0, Option.bind_eq_bind, Option.bind_some] at q
  split at q
  · cases q
  · exact q
def own_i (Z : State) (t : Term) : Int32 := match t.eval #[] Z none [] Z with
  | some (.int a) => a
  | _ => 0
theorem own_evI {t : Term} (h : (Cond.isInt t).value a0 Z none Z [] = some true) (hr : t.eval a0 Z none [] Z = t.eval #[] Z none [] Z) : t.eval a0 Z none [] Z = some (.int (own_i Z t)) := by
  obtain ⟨a, ev⟩ := is_v h
  have q := ev
  rw [hr] at q
  have e : own_i Z t = a := by simp only [own_i, q]
  rw [e]
  exact ev
theorem own_neI {t : Term} {z a : Int32} (h : (Cond.not (.eq t (.int z))).value a0 Z none Z [] = some true) (ev : t.eval a0 Z none [] Z = some (.int a)) : ¬ (a = z) := by
  have q := not_v h
  simp only [Cond.value, ev, Term.eval] at q
  intro e
  subst e
  simp at q
theorem own_fitc {c : Int32} (h : nar .char c = c) : fits .char (.int c) = true := by
  have q := fits_nar_char c
  rw [h] at q
  exact q
theorem own_narb {c : Int32} (h : c = (0 : Int32) ∨ c = (1 : Int32)) : nar .boolean c = c := by rcases h with rfl | rfl <;> rfl
theorem own_nb {c : Int32} (h : c = (0 : Int32) ∨ c = (1 : Int32)) : narrow .boolean (.int c) = .int c := by rcases h with rfl | rfl <;> rfl
theorem own_fb {c : Int32} (h : c = (0 : Int32) ∨ c = (1 : Int32)) : fits .boolean (.int c) = true := by rcases h with rfl | rfl <;> rfl
theorem own_lc3 (a b : Int64) : (a < b ∧ lcmpW a b = -1) ∨ (a = b ∧ lcmpW a b = 0) ∨ (b < a ∧ lcmpW a b = 1) := by
  by_cases h : b < a
  · exact Or.inr (Or.inr ⟨h, if_pos h⟩)
  · by_cases h2 : a = b
    · exact Or.inr (Or.inl ⟨h2, (if_neg h).trans (if_pos h2)⟩)
    · refine Or.inl ⟨?_, (if_neg h).trans (if_neg h2)⟩
      simp only [Int64.lt_iff_toInt_lt, ← Int64.toInt_inj] at h h2 ⊢
      omega
theorem own_lcltY {a b : Int64} (h : a < b) : ifCond.holds .lt (lcmpW a b) = true := by
  rcases own_lc3 a b with ⟨h1, e⟩ | ⟨h1, e⟩ | ⟨h1, e⟩ <;> first | (rw [e]; decide) | (exfalso; simp only [Int64.lt_iff_toInt_lt, ← Int64.toInt_inj] at h h1; omega)
theorem own_lcltN {a b : Int64} (h : ¬ (a < b)) : ifCond.holds .lt (lcmpW a b) = false := by
  rcases own_lc3 a b with ⟨h1, e⟩ | ⟨h1, e⟩ | ⟨h1, e⟩ <;> first | (rw [e]; decide) | (exfalso; simp only [Int64.lt_iff_toInt_lt, ← Int64.toInt_inj] at h h1; omega)
theorem own_lcgeY {a b : Int64} (h : ¬ (a < b)) : ifCond.holds .ge (lcmpW a b) = true := by
  rcases own_lc3 a b with ⟨h1, e⟩ | ⟨h1, e⟩ | ⟨h1, e⟩ <;> first | (rw [e]; decide) | (exfalso; simp only [Int64.lt_iff_toInt_lt, ← Int64.toInt_inj] at h h1; omega)
theorem own_lcgeN {a b : Int64} (h : a < b) : ifCond.holds .ge (lcmpW a b) = false := by
  rcases own_lc3 a b with ⟨h1, e⟩ | ⟨h1, e⟩ | ⟨h1, e⟩ <;> first | (rw [e]; decide) | (exfalso; simp only [Int64.lt_iff_toInt_lt, ← Int64.toInt_inj] at h h1; omega)
theorem own_lcgtY {a b : Int64} (h : b < a) : ifCond.holds .gt (lcmpW a b) = true := by
  rcases own_lc3 a b with ⟨h1, e⟩ | ⟨h1, e⟩ | ⟨h1, e⟩ <;> first | (rw [e]; decide) | (exfalso; simp only [Int64.lt_iff_toInt_lt, ← Int64.toInt_inj] at h h1; omega)
theorem own_lcgtN {a b : Int64} (h : ¬ (b < a)) : ifCond.holds .gt (lcmpW a b) = false := by
  rcases own_lc3 a b with ⟨h1, e⟩ | ⟨h1, e⟩ | ⟨h1, e⟩ <;> first | (rw [e]; decide) | (exfalso; simp only [Int64.lt_iff_toInt_lt, ← Int64.toInt_inj] at h h1; omega)
theorem own_lcleY {a b : Int64} (h : ¬ (b < a)) : ifCond.holds .le (lcmpW a b) = true := by
  rcases own_lc3 a b with ⟨h1, e⟩ | ⟨h1, e⟩ | ⟨h1, e⟩ <;> first | (rw [e]; decide) | (exfalso; simp only [Int64.lt_iff_toInt_lt, ← Int64.toInt_inj] at h h1; omega)
theorem own_lcleN {a b : Int64} (h : b < a) : ifCond.holds .le (lcmpW a b) = false := by
  rcases own_lc3 a b with ⟨h1, e⟩ | ⟨h1, e⟩ | ⟨h1, e⟩ <;> first | (rw [e]; decide) | (exfalso; simp only [Int64.lt_iff_toInt_lt, ← Int64.toInt_inj] at h h1; omega)
theorem own_lceqY {a b : Int64} (h : a = b) : ifCond.holds .eq (lcmpW a b) = true := by
  rcases own_lc3 a b with ⟨h1, e⟩ | ⟨h1, e⟩ | ⟨h1, e⟩ <;> first | (rw [e]; decide) | (exfalso; simp only [Int64.lt_iff_toInt_lt, ← Int64.toInt_inj] at h h1; omega)
theorem own_lceqN {a b : Int64} (h : ¬ (a = b)) : ifCond.holds .eq (lcmpW a b) = false := by
  rcases own_lc3 a b with ⟨h1, e⟩ | ⟨h1, e⟩ | ⟨h1, e⟩ <;> first | (rw [e]; decide) | (exfalso; simp only [Int64.lt_iff_toInt_lt, ← Int64.toInt_inj] at h h1; omega)
theorem own_lcneY {a b : Int64} (h : ¬ (a = b)) : ifCond.holds .ne (lcmpW a b) = true := by
  rcases own_lc3 a b with ⟨h1, e⟩ | ⟨h1, e⟩ | ⟨h1, e⟩ <;> first | (rw [e]; decide) | (exfalso; simp only [Int64.lt_iff_toInt_lt, ← Int64.toInt_inj] at h h1; omega)
theorem own_lcneN {a b : Int64} (h : a = b) : ifCond.holds .ne (lcmpW a b) = false := by
  rcases own_lc3 a b with ⟨h1, e⟩ | ⟨h1, e⟩ | ⟨h1, e⟩ <;> first | (rw [e]; decide) | (exfalso; simp only [Int64.lt_iff_toInt_lt, ← Int64.toInt_inj] at h h1; omega)
end OwnLayer
theorem own_get {c : Cell} {vs : List Value} {d : Value} {z j : Int32} (S : c.slots.size = z.toNatClampNeg) (H : Has c vs d) (q : ¬ (j < 0 ∨ c.slots.size ≤ j.toNatClampNeg)) (i : Nat) (hj : j.toNatClampNeg = i) : c.slots[j.toNatClampNeg]? = some (vs.getD i d) := by
  subst hj
  exact H _ (Nat.lt_of_not_le fun r => q (Or.inr r))
theorem own_mod (x : Int32) {n : Int32} (hn : 0 < n.toInt) : 0 ≤ ((x &&& (2147483647 : Int32)) % n).toInt ∧ ((x &&& (2147483647 : Int32)) % n).toInt < n.toInt := by
  have h := (Jvm.Kit.i32_and_bounds x (m := (2147483647 : Int32)) (by decide)).1
  have h0 : 0 ≤ (x &&& (2147483647 : Int32)).toInt := Jvm.Kit.i32_nonneg.mp h
  rw [Int32.toInt_mod]
  exact ⟨Int.tmod_nonneg _ h0, Int.tmod_lt_of_pos _ hn⟩
theorem own_mod17 (x : Int32) : (x &&& (2147483647 : Int32)) % (17 : Int32) = (0 : Int32) ∨ (x &&& (2147483647 : Int32)) % (17 : Int32) = (1 : Int32) ∨ (x &&& (2147483647 : Int32)) % (17 : Int32) = (2 : Int32) ∨ (x &&& (2147483647 : Int32)) % (17 : Int32) = (3 : Int32) ∨ (x &&& (2147483647 : Int32)) % (17 : Int32) = (4 : Int32) ∨ (x &&& (2147483647 : Int32)) % (17 : Int32) = (5 : Int32) ∨ (x &&& (2147483647 : Int32)) % (17 : Int32) = (6 : Int32) ∨ (x &&& (2147483647 : Int32)) % (17 : Int32) = (7 : Int32) ∨ (x &&& (2147483647 : Int32)) % (17 : Int32) = (8 : Int32) ∨ (x &&& (2147483647 : Int32)) % (17 : Int32) = (9 : Int32) ∨ (x &&& (2147483647 : Int32)) % (17 : Int32) = (10 : Int32) ∨ (x &&& (2147483647 : Int32)) % (17 : Int32) = (11 : Int32) ∨ (x &&& (2147483647 : Int32)) % (17 : Int32) = (12 : Int32) ∨ (x &&& (2147483647 : Int32)) % (17 : Int32) = (13 : Int32) ∨ (x &&& (2147483647 : Int32)) % (17 : Int32) = (14 : Int32) ∨ (x &&& (2147483647 : Int32)) % (17 : Int32) = (15 : Int32) ∨ (x &&& (2147483647 : Int32)) % (17 : Int32) = (16 : Int32) := by
  have h := own_mod x (n := (17 : Int32)) (by decide)
  generalize (x &&& (2147483647 : Int32)) % (17 : Int32) = y at h ⊢
  have e : (17 : Int32).toInt = 17 := rfl
  rw [e] at h
  simp only [← Int32.toInt_inj]
  show y.toInt = 0 ∨ y.toInt = 1 ∨ y.toInt = 2 ∨ y.toInt = 3 ∨ y.toInt = 4 ∨ y.toInt = 5 ∨ y.toInt = 6 ∨ y.toInt = 7 ∨ y.toInt = 8 ∨ y.toInt = 9 ∨ y.toInt = 10 ∨ y.toInt = 11 ∨ y.toInt = 12 ∨ y.toInt = 13 ∨ y.toInt = 14 ∨ y.toInt = 15 ∨ y.toInt = 16
  omega
def w0_DOUBLE (Z : State) : Addr := own_t Z (Jvm.Term.static "com/example/fieldnote/fieldnote/schema/FieldType" "DOUBLE" "Lcom/example/fieldnote/fieldnote/schema/FieldType;")
theorem ev_w0_DOUBLE {Z : State} {a0 : Array Value} (hw : ∀ d ∈ tables_1, d.before a0 Z = true) (hA : ∀ d ∈ own_flat narrow_1, d.value a0 Z none Z [] = some true) : (Jvm.Term.static "com/example/fieldnote/fieldnote/schema/FieldType" "DOUBLE" "Lcom/example/fieldnote/fieldnote/schema/FieldType;").eval a0 Z none [] Z = some (.ref (w0_DOUBLE Z)) := own_ev (hA _ (List.mem_of_getElem? (i := 0) rfl)) rfl
def w1_FLOAT (Z : State) : Addr := own_t Z (Jvm.Term.static "com/example/fieldnote/fieldnote/schema/FieldType" "FLOAT" "Lcom/example/fieldnote/fieldnote/schema/FieldType;")
theorem ev_w1_FLOAT {Z : State} {a0 : Array Value} (hw : ∀ d ∈ tables_1, d.before a0 Z = true) (hA : ∀ d ∈ own_flat narrow_1, d.value a0 Z none Z [] = some true) : (Jvm.Term.static "com/example/fieldnote/fieldnote/schema/FieldType" "FLOAT" "Lcom/example/fieldnote/fieldnote/schema/FieldType;").eval a0 Z none [] Z = some (.ref (w1_FLOAT Z)) := own_ev (hA _ (List.mem_of_getElem? (i := 1) rfl)) rfl
def w2_INT32 (Z : State) : Addr := own_t Z (Jvm.Term.static "com/example/fieldnote/fieldnote/schema/FieldType" "INT32" "Lcom/example/fieldnote/fieldnote/schema/FieldType;")
theorem ev_w2_INT32 {Z : State} {a0 : Array Value} (hw : ∀ d ∈ tables_1, d.before a0 Z = true) (hA : ∀ d ∈ own_flat narrow_1, d.value a0 Z none Z [] = some true) : (Jvm.Term.static "com/example/fieldnote/fieldnote/schema/FieldType" "INT32" "Lcom/example/fieldnote/fieldnote/schema/FieldType;").eval a0 Z none [] Z = some (.ref (w2_INT32 Z)) := own_ev (hA _ (List.mem_of_getElem? (i := 2) rfl)) rfl
def w3_INT64 (Z : State) : Addr := own_t Z (Jvm.Term.static "com/example/fieldnote/fieldnote/schema/FieldType" "INT64" "Lcom/example/fieldnote/fieldnote/schema/FieldType;")
theorem ev_w3_INT64 {Z : State} {a0 : Array Value} (hw : ∀ d ∈ tables_1, d.before a0 Z = true) (hA : ∀ d ∈ own_flat narrow_1, d.value a0 Z none Z [] = some true) : (Jvm.Term.static "com/example/fieldnote/fieldnote/schema/FieldType" "INT64" "Lcom/example/fieldnote/fieldnote/schema/FieldType;").eval a0 Z none [] Z = some (.ref (w3_INT64 Z)) := own_ev (hA _ (List.mem_of_getElem? (i := 3) rfl)) rfl
def w4_UINT32 (Z : State) : Addr := own_t Z (Jvm.Term.static "com/example/fieldnote/fieldnote/schema/FieldType" "UINT32" "Lcom/example/fieldnote/fieldnote/schema/FieldType;")
theorem ev_w4_UINT32 {Z : State} {a0 : Array Value} (hw : ∀ d ∈ tables_1, d.before a0 Z = true) (hA : ∀ d ∈ own_flat narrow_1, d.value a0 Z none Z [] = some true) : (Jvm.Term.static "com/example/fieldnote/fieldnote/schema/FieldType" "UINT32" "Lcom/example/fieldnote/fieldnote/schema/FieldType;").eval a0 Z none [] Z = some (.ref (w4_UINT32 Z)) := own_ev (hA _ (List.mem_of_getElem? (i := 4) rfl)) rfl
def w5_UINT64 (Z : State) : Addr := own_t Z (Jvm.Term.static "com/example/fieldnote/fieldnote/schema/FieldType" "UINT64" "Lcom/example/fieldnote/fieldnote/schema/FieldType;")
theorem ev_w5_UINT64 {Z : State} {a0 : Array Value} (hw : ∀ d ∈ tables_1, d.before a0 Z = true) (hA : ∀ d ∈ own_flat narrow_1, d.value a0 Z none Z [] = some true) : (Jvm.Term.static "com/example/fieldnote/fieldnote/schema/FieldType" "UINT64" "Lcom/example/fieldnote/fieldnote/schema/FieldType;").eval a0 Z none [] Z = some (.ref (w5_UINT64 Z)) := own_ev (hA _ (List.mem_of_getElem? (i := 5) rfl)) rfl
def w6_SINT32 (Z : State) : Addr := own_t Z (Jvm.Term.static "com/example/fieldnote/fieldnote/schema/FieldType" "SINT32" "Lcom/example/fieldnote/fieldnote/schema/FieldType;")
theorem ev_w6_SINT32 {Z : State} {a0 : Array Value} (hw : ∀ d ∈ tables_1, d.before a0 Z = true) (hA : ∀ d ∈ own_flat narrow_1, d.value a0 Z none Z [] = some true) : (Jvm.Term.static "com/example/fieldnote/fieldnote/schema/FieldType" "SINT32" "Lcom/example/fieldnote/fieldnote/schema/FieldType;").eval a0 Z none [] Z = some (.ref (w6_SINT32 Z)) := own_ev (hA _ (List.mem_of_getElem? (i := 6) rfl)) rfl
def w7_SINT64 (Z : State) : Addr := own_t Z (Jvm.Term.static "com/example/fieldnote/fieldnote/schema/FieldType" "SINT64" "Lcom/example/fieldnote/fieldnote/schema/FieldType;")
theorem ev_w7_SINT64 {Z : State} {a0 : Array Value} (hw : ∀ d ∈ tables_1, d.before a0 Z = true) (hA : ∀ d ∈ own_flat narrow_1, d.value a0 Z none Z [] = some true) : (Jvm.Term.static "com/example/fieldnote/fieldnote/schema/FieldType" "SINT64" "Lcom/example/fieldnote/fieldnote/schema/FieldType;").eval a0 Z none [] Z = some (.ref (w7_SINT64 Z)) := own_ev (hA _ (List.mem_of_getElem? (i := 7) rfl)) rfl
def w8_FIXED32 (Z : State) : Addr := own_t Z (Jvm.Term.static "com/example/fieldnote/fieldnote/schema/FieldType" "FIXED32" "Lcom/example/fieldnote/fieldnote/schema/FieldType;")
theorem ev_w8_FIXED32 {Z : State} {a0 : Array Value} (hw : ∀ d ∈ tables_1, d.before a0 Z = true) (hA : ∀ d ∈ own_flat narrow_1, d.value a0 Z none Z [] = some true) : (Jvm.Term.static "com/example/fieldnote/fieldnote/schema/FieldType" "FIXED32" "Lcom/example/fieldnote/fieldnote/schema/FieldType;").eval a0 Z none [] Z = some (.ref (w8_FIXED32 Z)) := own_ev (hA _ (List.mem_of_getElem? (i := 8) rfl)) rfl
def w9_FIXED64 (Z : State) : Addr := own_t Z (Jvm.Term.static "com/example/fieldnote/fieldnote/schema/FieldType" "FIXED64" "Lcom/example/fieldnote/fieldnote/schema/FieldType;")
theorem ev_w9_FIXED64 {Z : State} {a0 : Array Value} (hw : ∀ d ∈ tables_1, d.before a0 Z = true) (hA : ∀ d ∈ own_flat narrow_1, d.value a0 Z none Z [] = some true) : (Jvm.Term.static "com/example/fieldnote/fieldnote/schema/FieldType" "FIXED64" "Lcom/example/fieldnote/fieldnote/schema/FieldType;").eval a0 Z none [] Z = some (.ref (w9_FIXED64 Z)) := own_ev (hA _ (List.mem_of_getElem? (i := 9) rfl)) rfl
def w10_SFIXED32 (Z : State) : Addr := own_t Z (Jvm.Term.static "com/example/fieldnote/fieldnote/schema/FieldType" "SFIXED32" "Lcom/example/fieldnote/fieldnote/schema/FieldType;")
theorem ev_w10_SFIXED32 {Z : State} {a0 : Array Value} (hw : ∀ d ∈ tables_1, d.before a0 Z = true) (hA : ∀ d ∈ own_flat narrow_1, d.value a0 Z none Z [] = some true) : (Jvm.Term.static "com/example/fieldnote/fieldnote/schema/FieldType" "SFIXED32" "Lcom/example/fieldnote/fieldnote/schema/FieldType;").eval a0 Z none [] Z = some (.ref (w10_SFIXED32 Z)) := own_ev (hA _ (List.mem_of_getElem? (i := 10) rfl)) rfl
def w11_SFIXED64 (Z : State) : Addr := own_t Z (Jvm.Term.static "com/example/fieldnote/fieldnote/schema/FieldType" "SFIXED64" "Lcom/example/fieldnote/fieldnote/schema/FieldType;")
theorem ev_w11_SFIXED64 {Z : State} {a0 : Array Value} (hw : ∀ d ∈ tables_1, d.before a0 Z = true) (hA : ∀ d ∈ own_flat narrow_1, d.value a0 Z none Z [] = some true) : (Jvm.Term.static "com/example/fieldnote/fieldnote/schema/FieldType" "SFIXED64" "Lcom/example/fieldnote/fieldnote/schema/FieldType;").eval a0 Z none [] Z = some (.ref (w11_SFIXED64 Z)) := own_ev (hA _ (List.mem_of_getElem? (i := 11) rfl)) rfl
def w12_BOOL (Z : State) : Addr := own_t Z (Jvm.Term.static "com/example/fieldnote/fieldnote/schema/FieldType" "BOOL" "Lcom/example/fieldnote/fieldnote/schema/FieldType;")
theorem ev_w12_BOOL {Z : State} {a0 : Array Value} (hw : ∀ d ∈ tables_1, d.before a0 Z = true) (hA : ∀ d ∈ own_flat narrow_1, d.value a0 Z none Z [] = some true) : (Jvm.Term.static "com/example/fieldnote/fieldnote/schema/FieldType" "BOOL" "Lcom/example/fieldnote/fieldnote/schema/FieldType;").eval a0 Z none [] Z = some (.ref (w12_BOOL Z)) := own_ev (hA _ (List.mem_of_getElem? (i := 12) rfl)) rfl
def w13_STRING (Z : State) : Addr := own_t Z (Jvm.Term.static "com/example/fieldnote/fieldnote/schema/FieldType" "STRING" "Lcom/example/fieldnote/fieldnote/schema/FieldType;")
theorem ev_w13_STRING {Z : State} {a0 : Array Value} (hw : ∀ d ∈ tables_1, d.before a0 Z = true) (hA : ∀ d ∈ own_flat narrow_1, d.value a0 Z none Z [] = some true) : (Jvm.Term.static "com/example/fieldnote/fieldnote/schema/FieldType" "STRING" "Lcom/example/fieldnote/fieldnote/schema/FieldType;").eval a0 Z none [] Z = some (.ref (w13_STRING Z)) := own_ev (hA _ (List.mem_of_getElem? (i := 13) rfl)) rfl
def w14_BYTES (Z : State) : Addr := own_t Z (Jvm.Term.static "com/example/fieldnote/fieldnote/schema/FieldType" "BYTES" "Lcom/example/fieldnote/fieldnote/schema/FieldType;")
theorem ev_w14_BYTES {Z : State} {a0 : Array Value} (hw : ∀ d ∈ tables_1, d.before a0 Z = true) (hA : ∀ d ∈ own_flat narrow_1, d.value a0 Z none Z [] = some true) : (Jvm.Term.static "com/example/fieldnote/fieldnote/schema/FieldType" "BYTES" "Lcom/example/fieldnote/fieldnote/schema/FieldType;").eval a0 Z none [] Z = some (.ref (w14_BYTES Z)) := own_ev (hA _ (List.mem_of_getElem? (i := 14) rfl)) rfl
def w15_ENUM (Z : State) : Addr := own_t Z (Jvm.Term.static "com/example/fieldnote/fieldnote/schema/FieldType" "ENUM" "Lcom/example/fieldnote/fieldnote/schema/FieldType;")
theorem ev_w15_ENUM {Z : State} {a0 : Array Value} (hw : ∀ d ∈ tables_1, d.before a0 Z = true) (hA : ∀ d ∈ own_flat narrow_1, d.value a0 Z none Z [] = some true) : (Jvm.Term.static "com/example/fieldnote/fieldnote/schema/FieldType" "ENUM" "Lcom/example/fieldnote/fieldnote/schema/FieldType;").eval a0 Z none [] Z = some (.ref (w15_ENUM Z)) := own_ev (hA _ (List.mem_of_getElem? (i := 15) rfl)) rfl
def w16_MESSAGE (Z : State) : Addr := own_t Z (Jvm.Term.static "com/example/fieldnote/fieldnote/schema/FieldType" "MESSAGE" "Lcom/example/fieldnote/fieldnote/schema/FieldType;")
theorem ev_w16_MESSAGE {Z : State} {a0 : Array Value} (hw : ∀ d ∈ tables_1, d.before a0 Z = true) (hA : ∀ d ∈ own_flat narrow_1, d.value a0 Z none Z [] = some true) : (Jvm.Term.static "com/example/fieldnote/fieldnote/schema/FieldType" "MESSAGE" "Lcom/example/fieldnote/fieldnote/schema/FieldType;").eval a0 Z none [] Z = some (.ref (w16_MESSAGE Z)) := own_ev (hA _ (List.mem_of_getElem? (i := 16) rfl)) rfl
def w17_keyword (Z : State) : Addr := own_t Z (Jvm.Term.field (Jvm.Term.static "com/example/fieldnote/fieldnote/schema/FieldType" "DOUBLE" "Lcom/example/fieldnote/fieldnote/schema/FieldType;") "com/example/fieldnote/fieldnote/schema/FieldType" "keyword" "Ljava/lang/String;")
theorem ev_w17_keyword {Z : State} {a0 : Array Value} (hw : ∀ d ∈ tables_1, d.before a0 Z = true) (hA : ∀ d ∈ own_flat narrow_1, d.value a0 Z none Z [] = some true) : (Jvm.Term.field (Jvm.Term.static "com/example/fieldnote/fieldnote/schema/FieldType" "DOUBLE" "Lcom/example/fieldnote/fieldnote/schema/FieldType;") "com/example/fieldnote/fieldnote/schema/FieldType" "keyword" "Ljava/lang/String;").eval a0 Z none [] Z = some (.ref (w17_keyword Z)) := own_ev (hA _ (List.mem_of_getElem? (i := 17) rfl)) rfl
def w18_keyword (Z : State) : Addr := own_t Z (Jvm.Term.field (Jvm.Term.static "com/example/fieldnote/fieldnote/schema/FieldType" "INT64" "Lcom/example/fieldnote/fieldnote/schema/FieldType;") "com/example/fieldnote/fieldnote/schema/FieldType" "keyword" "Ljava/lang/String;")
theorem ev_w18_keyword {Z : State} {a0 : Array Value} (hw : ∀ d ∈ tables_1, d.before a0 Z = true) (hA : ∀ d ∈ own_flat narrow_1, d.value a0 Z none Z [] = some true) : (Jvm.Term.field (Jvm.Term.static "com/example/fieldnote/fieldnote/schema/FieldType" "INT64" "Lcom/example/fieldnote/fieldnote/schema/FieldType;") "com/example/fieldnote/fieldnote/schema/FieldType" "keyword" "Ljava/lang/String;").eval a0 Z none [] Z = some (.ref (w18_keyword Z)) := own_ev (hA _ (List.mem_of_getElem? (i := 18) rfl)) rfl
def w19_keyword (Z : State) : Addr := own_t Z (Jvm.Term.field (Jvm.Term.static "com/example/fieldnote/fieldnote/schema/FieldType" "FIXED32" "Lcom/example/fieldnote/fieldnote/schema/FieldType;") "com/example/fieldnote/fieldnote/schema/FieldType" "keyword" "Ljava/lang/String;")
theorem ev_w19_keyword {Z : State} {a0 : Array Value} (hw : ∀ d ∈ tables_1, d.before a0 Z = true) (hA : ∀ d ∈ own_flat narrow_1, d.value a0 Z none Z [] = some true) : (Jvm.Term.field (Jvm.Term.static "com/example/fieldnote/fieldnote/schema/FieldType" "FIXED32" "Lcom/example/fieldnote/fieldnote/schema/FieldType;") "com/example/fieldnote/fieldnote/schema/FieldType" "keyword" "Ljava/lang/String;").eval a0 Z none [] Z = some (.ref (w19_keyword Z)) := own_ev (hA _ (List.mem_of_getElem? (i := 23) rfl)) rfl
def w20_keyword (Z : State) : Addr := own_t Z (Jvm.Term.field (Jvm.Term.static "com/example/fieldnote/fieldnote/schema/FieldType" "FIXED64" "Lcom/example/fieldnote/fieldnote/schema/FieldType;") "com/example/fieldnote/fieldnote/schema/FieldType" "keyword" "Ljava/lang/String;")
theorem ev_w20_keyword {Z : State} {a0 : Array Value} (hw : ∀ d ∈ tables_1, d.before a0 Z = true) (hA : ∀ d ∈ own_flat narrow_1, d.value a0 Z none Z [] = some true) : (Jvm.Term.field (Jvm.Term.static "com/example/fieldnote/fieldnote/schema/FieldType" "FIXED64" "Lcom/example/fieldnote/fieldnote/schema/FieldType;") "com/example/fieldnote/fieldnote/schema/FieldType" "keyword" "Ljava/lang/String;").eval a0 Z none [] Z = some (.ref (w20_keyword Z)) := own_ev (hA _ (List.mem_of_getElem? (i := 25) rfl)) rfl
def w21_keyword (Z : State) : Addr := own_t Z (Jvm.Term.field (Jvm.Term.static "com/example/fieldnote/fieldnote/schema/FieldType" "SINT32" "Lcom/example/fieldnote/fieldnote/schema/FieldType;") "com/example/fieldnote/fieldnote/schema/FieldType" "keyword" "Ljava/lang/String;")
theorem ev_w21_keyword {Z : State} {a0 : Array Value} (hw : ∀ d ∈ tables_1, d.before a0 Z = true) (hA : ∀ d ∈ own_flat narrow_1, d.value a0 Z none Z [] = some true) : (Jvm.Term.field (Jvm.Term.static "com/example/fieldnote/fieldnote/schema/FieldType" "SINT32" "Lcom/example/fieldnote/fieldnote/schema/FieldType;") "com/example/fieldnote/fieldnote/schema/FieldType" "keyword" "Ljava/lang/String;").eval a0 Z none [] Z = some (.ref (w21_keyword Z)) := own_ev (hA _ (List.mem_of_getElem? (i := 27) rfl)) rfl
def w22_keyword (Z : State) : Addr := own_t Z (Jvm.Term.field (Jvm.Term.static "com/example/fieldnote/fieldnote/schema/FieldType" "SINT64" "Lcom/example/fieldnote/fieldnote/schema/FieldType;") "com/example/fieldnote/fieldnote/schema/FieldType" "keyword" "Ljava/lang/String;")
theorem ev_w22_keyword {Z : State} {a0 : Array Value} (hw : ∀ d ∈ tables_1, d.before a0 Z = true) (hA : ∀ d ∈ own_flat narrow_1, d.value a0 Z none Z [] = some true) : (Jvm.Term.field (Jvm.Term.static "com/example/fieldnote/fieldnote/schema/FieldType" "SINT64" "Lcom/example/fieldnote/fieldnote/schema/FieldType;") "com/example/fieldnote/fieldnote/schema/FieldType" "keyword" "Ljava/lang/String;").eval a0 Z none [] Z = some (.ref (w22_keyword Z)) := own_ev (hA _ (List.mem_of_getElem? (i := 29) rfl)) rfl
def w23_keyword (Z : State) : Addr := own_t Z (Jvm.Term.field (Jvm.Term.static "com/example/fieldnote/fieldnote/schema/FieldType" "INT32" "Lcom/example/fieldnote/fieldnote/schema/FieldType;") "com/example/fieldnote/fieldnote/schema/FieldType" "keyword" "Ljava/lang/String;")
theorem ev_w23_keyword {Z : State} {a0 : Array Value} (hw : ∀ d ∈ tables_1, d.before a0 Z = true) (hA : ∀ d ∈ own_flat narrow_1, d.value a0 Z none Z [] = some true) : (Jvm.Term.field (Jvm.Term.static "com/example/fieldnote/fieldnote/schema/FieldType" "INT32" "Lcom/example/fieldnote/fieldnote/schema/FieldType;") "com/example/fieldnote/fieldnote/schema/FieldType" "keyword" "Ljava/lang/String;").eval a0 Z none [] Z = some (.ref (w23_keyword Z)) := own_ev (hA _ (List.mem_of_getElem? (i := 31) rfl)) rfl
def w24_keyword (Z : State) : Addr := own_t Z (Jvm.Term.field (Jvm.Term.static "com/example/fieldnote/fieldnote/schema/FieldType" "SFIXED64" "Lcom/example/fieldnote/fieldnote/schema/FieldType;") "com/example/fieldnote/fieldnote/schema/FieldType" "keyword" "Ljava/lang/String;")
theorem ev_w24_keyword {Z : State} {a0 : Array Value} (hw : ∀ d ∈ tables_1, d.before a0 Z = true) (hA : ∀ d ∈ own_flat narrow_1, d.value a0 Z none Z [] = some true) : (Jvm.Term.field (Jvm.Term.static "com/example/fieldnote/fieldnote/schema/FieldType" "SFIXED64" "Lcom/example/fieldnote/fieldnote/schema/FieldType;") "com/example/fieldnote/fieldnote/schema/FieldType" "keyword" "Ljava/lang/String;").eval a0 Z none [] Z = some (.ref (w24_keyword Z)) := own_ev (hA _ (List.mem_of_getElem? (i := 33) rfl)) rfl
def w25_keyword (Z : State) : Addr := own_t Z (Jvm.Term.field (Jvm.Term.static "com/example/fieldnote/fieldnote/schema/FieldType" "FLOAT" "Lcom/example/fieldnote/fieldnote/schema/FieldType;") "com/example/fieldnote/fieldnote/schema/FieldType" "keyword" "Ljava/lang/String;")
theorem ev_w25_keyword {Z : State} {a0 : Array Value} (hw : ∀ d ∈ tables_1, d.before a0 Z = true) (hA : ∀ d ∈ own_flat narrow_1, d.value a0 Z none Z [] = some true) : (Jvm.Term.field (Jvm.Term.static "com/example/fieldnote/fieldnote/schema/FieldType" "FLOAT" "Lcom/example/fieldnote/fieldnote/schema/FieldType;") "com/example/fieldnote/fieldnote/schema/FieldType" "keyword" "Ljava/lang/String;").eval a0 Z none [] Z = some (.ref (w25_keyword Z)) := own_ev (hA _ (List.mem_of_getElem? (i := 35) rfl)) rfl
def w26_keyword (Z : State) : Addr := own_t Z (Jvm.Term.field (Jvm.Term.static "com/example/fieldnote/fieldnote/schema/FieldType" "STRING" "Lcom/example/fieldnote/fieldnote/schema/FieldType;") "com/example/fieldnote/fieldnote/schema/FieldType" "keyword" "Ljava/lang/String;")
theorem ev_w26_keyword {Z : State} {a0 : Array Value} (hw : ∀ d ∈ tables_1, d.before a0 Z = true) (hA : ∀ d ∈ own_flat narrow_1, d.value a0 Z none Z [] = some true) : (Jvm.Term.field (Jvm.Term.static "com/example/fieldnote/fieldnote/schema/FieldType" "STRING" "Lcom/example/fieldnote/fieldnote/schema/FieldType;") "com/example/fieldnote/fieldnote/schema/FieldType" "keyword" "Ljava/lang/String;").eval a0 Z none [] Z = some (.ref (w26_keyword Z)) := own_ev (hA _ (List.mem_of_getElem? (i := 36) rfl)) rfl
def w27_keyword (Z : State) : Addr := own_t Z (Jvm.Term.field (Jvm.Term.static "com/example/fieldnote/fieldnote/schema/FieldType" "UINT32" "Lcom/example/fieldnote/fieldnote/schema/FieldType;") "com/example/fieldnote/fieldnote/schema/FieldType" "keyword" "Ljava/lang/String;")
theorem ev_w27_keyword {Z : State} {a0 : Array Value} (hw : ∀ d ∈ tables_1, d.before a0 Z = true) (hA : ∀ d ∈ own_flat narrow_1, d.value a0 Z none Z [] = some true) : (Jvm.Term.field (Jvm.Term.static "com/example/fieldnote/fieldnote/schema/FieldType" "UINT32" "Lcom/example/fieldnote/fieldnote/schema/FieldType;") "com/example/fieldnote/fieldnote/schema/FieldType" "keyword" "Ljava/lang/String;").eval a0 Z none [] Z = some (.ref (w27_keyword Z)) := own_ev (hA _ (List.mem_of_getElem? (i := 38) rfl)) rfl
def w28_keyword (Z : State) : Addr := own_t Z (Jvm.Term.field (Jvm.Term.static "com/example/fieldnote/fieldnote/schema/FieldType" "SFIXED32" "Lcom/example/fieldnote/fieldnote/schema/FieldType;") "com/example/fieldnote/fieldnote/schema/FieldType" "keyword" "Ljava/lang/String;")
theorem ev_w28_keyword {Z : State} {a0 : Array Value} (hw : ∀ d ∈ tables_1, d.before a0 Z = true) (hA : ∀ d ∈ own_flat narrow_1, d.value a0 Z none Z [] = some true) : (Jvm.Term.field (Jvm.Term.static "com/example/fieldnote/fieldnote/schema/FieldType" "SFIXED32" "Lcom/example/fieldnote/fieldnote/schema/FieldType;") "com/example/fieldnote/fieldnote/schema/FieldType" "keyword" "Ljava/lang/String;").eval a0 Z none [] Z = some (.ref (w28_keyword Z)) := own_ev (hA _ (List.mem_of_getElem? (i := 40) rfl)) rfl
def w29_keyword (Z : State) : Addr := own_t Z (Jvm.Term.field (Jvm.Term.static "com/example/fieldnote/fieldnote/schema/FieldType" "UINT64" "Lcom/example/fieldnote/fieldnote/schema/FieldType;") "com/example/fieldnote/fieldnote/schema/FieldType" "keyword" "Ljava/lang/String;")
theorem ev_w29_keyword {Z : State} {a0 : Array Value} (hw : ∀ d ∈ tables_1, d.before a0 Z = true) (hA : ∀ d ∈ own_flat narrow_1, d.value a0 Z none Z [] = some true) : (Jvm.Term.field (Jvm.Term.static "com/example/fieldnote/fieldnote/schema/FieldType" "UINT64" "Lcom/example/fieldnote/fieldnote/schema/FieldType;") "com/example/fieldnote/fieldnote/schema/FieldType" "keyword" "Ljava/lang/String;").eval a0 Z none [] Z = some (.ref (w29_keyword Z)) := own_ev (hA _ (List.mem_of_getElem? (i := 44) rfl)) rfl
def w30_keyword (Z : State) : Addr := own_t Z (Jvm.Term.field (Jvm.Term.static "com/example/fieldnote/fieldnote/schema/FieldType" "BYTES" "Lcom/example/fieldnote/fieldnote/schema/FieldType;") "com/example/fieldnote/fieldnote/schema/FieldType" "keyword" "Ljava/lang/String;")
theorem ev_w30_keyword {Z : State} {a0 : Array Value} (hw : ∀ d ∈ tables_1, d.before a0 Z = true) (hA : ∀ d ∈ own_flat narrow_1, d.value a0 Z none Z [] = some true) : (Jvm.Term.field (Jvm.Term.static "com/example/fieldnote/fieldnote/schema/FieldType" "BYTES" "Lcom/example/fieldnote/fieldnote/schema/FieldType;") "com/example/fieldnote/fieldnote/schema/FieldType" "keyword" "Ljava/lang/String;").eval a0 Z none [] Z = some (.ref (w30_keyword Z)) := own_ev (hA _ (List.mem_of_getElem? (i := 46) rfl)) rfl
def w31_keyword (Z : State) : Addr := own_t Z (Jvm.Term.field (Jvm.Term.static "com/example/fieldnote/fieldnote/schema/FieldType" "BOOL" "Lcom/example/fieldnote/fieldnote/schema/FieldType;") "com/example/fieldnote/fieldnote/schema/FieldType" "keyword" "Ljava/lang/String;")
theorem ev_w31_keyword {Z : State} {a0 : Array Value} (hw : ∀ d ∈ tables_1, d.before a0 Z = true) (hA : ∀ d ∈ own_flat narrow_1, d.value a0 Z none Z [] = some true) : (Jvm.Term.field (Jvm.Term.static "com/example/fieldnote/fieldnote/schema/FieldType" "BOOL" "Lcom/example/fieldnote/fieldnote/schema/FieldType;") "com/example/fieldnote/fieldnote/schema/FieldType" "keyword" "Ljava/lang/String;").eval a0 Z none [] Z = some (.ref (w31_keyword Z)) := own_ev (hA _ (List.mem_of_getElem? (i := 47) rfl)) rfl
theorem ex_w0_DOUBLE {Z : State} {a0 : Array Value} (hw : ∀ d ∈ tables_1, d.before a0 Z = true) (hA : ∀ d ∈ own_flat narrow_1, d.value a0 Z none Z [] = some true) : Exa Z Z.heap (w0_DOUBLE Z) "com/example/fieldnote/fieldnote/schema/FieldType" := Exa.start (ev_w0_DOUBLE hw hA) (hA _ (List.mem_of_getElem? (i := 0) rfl))
theorem ex_w1_FLOAT {Z : State} {a0 : Array Value} (hw : ∀ d ∈ tables_1, d.before a0 Z = true) (hA : ∀ d ∈ own_flat narrow_1, d.value a0 Z none Z [] = some true) : Exa Z Z.heap (w1_FLOAT Z) "com/example/fieldnote/fieldnote/schema/FieldType" := Exa.start (ev_w1_FLOAT hw hA) (hA _ (List.mem_of_getElem? (i := 1) rfl))
theorem ex_w2_INT32 {Z : State} {a0 : Array Value} (hw : ∀ d ∈ tables_1, d.before a0 Z = true) (hA : ∀ d ∈ own_flat narrow_1, d.value a0 Z none Z [] = some true) : Exa Z Z.heap (w2_INT32 Z) "com/example/fieldnote/fieldnote/schema/FieldType" := Exa.start (ev_w2_INT32 hw hA) (hA _ (List.mem_of_getElem? (i := 2) rfl))
theorem ex_w3_INT64 {Z : State} {a0 : Array Value} (hw : ∀ d ∈ tables_1, d.before a0 Z = true) (hA : ∀ d ∈ own_flat narrow_1, d.value a0 Z none Z [] = some true) : Exa Z Z.heap (w3_INT64 Z) "com/example/fieldnote/fieldnote/schema/FieldType" := Exa.start (ev_w3_INT64 hw hA) (hA _ (List.mem_of_getElem? (i := 3) rfl))
theorem ex_w4_UINT32 {Z : State} {a0 : Array Value} (hw : ∀ d ∈ tables_1, d.before a0 Z = true) (hA : ∀ d ∈ own_flat narrow_1, d.value a0 Z none Z [] = some true) : Exa Z Z.heap (w4_UINT32 Z) "com/example/fieldnote/fieldnote/schema/FieldType" := Exa.start (ev_w4_UINT32 hw hA) (hA _ (List.mem_of_getElem? (i := 4) rfl))
theorem ex_w5_UINT64 {Z : State} {a0 : Array Value} (hw : ∀ d ∈ tables_1, d.before a0 Z = true) (hA : ∀ d ∈ own_flat narrow_1, d.value a0 Z none Z [] = some true) : Exa Z Z.heap (w5_UINT64 Z) "com/example/fieldnote/fieldnote/schema/FieldType" := Exa.start (ev_w5_UINT64 hw hA) (hA _ (List.mem_of_getElem? (i := 5) rfl))
theorem ex_w6_SINT32 {Z : State} {a0 : Array Value} (hw : ∀ d ∈ tables_1, d.before a0 Z = true) (hA : ∀ d ∈ own_flat narrow_1, d.value a0 Z none Z [] = some true) : Exa Z Z.heap (w6_SINT32 Z) "com/example/fieldnote/fieldnote/schema/FieldType" := Exa.start (ev_w6_SINT32 hw hA) (hA _ (List.mem_of_getElem? (i := 6) rfl))
theorem ex_w7_SINT64 {Z : State} {a0 : Array Value} (hw : ∀ d ∈ tables_1, d.before a0 Z = true) (hA : ∀ d ∈ own_flat narrow_1, d.value a0 Z none Z [] = some true) : Exa Z Z.heap (w7_SINT64 Z) "com/example/fieldnote/fieldnote/schema/FieldType" := Exa.start (ev_w7_SINT64 hw hA) (hA _ (List.mem_of_getElem? (i := 7) rfl))
theorem ex_w8_FIXED32 {Z : State} {a0 : Array Value} (hw : ∀ d ∈ tables_1, d.before a0 Z = true) (hA : ∀ d ∈ own_flat narrow_1, d.value a0 Z none Z [] = some true) : Exa Z Z.heap (w8_FIXED32 Z) "com/example/fieldnote/fieldnote/schema/FieldType" := Exa.start (ev_w8_FIXED32 hw hA) (hA _ (List.mem_of_getElem? (i := 8) rfl))
theorem ex_w9_FIXED64 {Z : State} {a0 : Array Value} (hw : ∀ d ∈ tables_1, d.before a0 Z = true) (hA : ∀ d ∈ own_flat narrow_1, d.value a0 Z none Z [] = some true) : Exa Z Z.heap (w9_FIXED64 Z) "com/example/fieldnote/fieldnote/schema/FieldType" := Exa.start (ev_w9_FIXED64 hw hA) (hA _ (List.mem_of_getElem? (i := 9) rfl))
theorem ex_w10_SFIXED32 {Z : State} {a0 : Array Value} (hw : ∀ d ∈ tables_1, d.before a0 Z = true) (hA : ∀ d ∈ own_flat narrow_1, d.value a0 Z none Z [] = some true) : Exa Z Z.heap (w10_SFIXED32 Z) "com/example/fieldnote/fieldnote/schema/FieldType" := Exa.start (ev_w10_SFIXED32 hw hA) (hA _ (List.mem_of_getElem? (i := 10) rfl))
theorem ex_w11_SFIXED64 {Z : State} {a0 : Array Value} (hw : ∀ d ∈ tables_1, d.before a0 Z = true) (hA : ∀ d ∈ own_flat narrow_1, d.value a0 Z none Z [] = some true) : Exa Z Z.heap (w11_SFIXED64 Z) "com/example/fieldnote/fieldnote/schema/FieldType" := Exa.start (ev_w11_SFIXED64 hw hA) (hA _ (List.mem_of_getElem? (i := 11) rfl))
theorem ex_w12_BOOL {Z : State} {a0 : Array Value} (hw : ∀ d ∈ tables_1, d.before a0 Z = true) (hA : ∀ d ∈ own_flat narrow_1, d.value a0 Z none Z [] = some true) : Exa Z Z.heap (w12_BOOL Z) "com/example/fieldnote/fieldnote/schema/FieldType" := Exa.start (ev_w12_BOOL hw hA) (hA _ (List.mem_of_getElem? (i := 12) rfl))
theorem ex_w13_STRING {Z : State} {a0 : Array Value} (hw : ∀ d ∈ tables_1, d.before a0 Z = true) (hA : ∀ d ∈ own_flat narrow_1, d.value a0 Z none Z [] = some true) : Exa Z Z.heap (w13_STRING Z) "com/example/fieldnote/fieldnote/schema/FieldType" := Exa.start (ev_w13_STRING hw hA) (hA _ (List.mem_of_getElem? (i := 13) rfl))
theorem ex_w14_BYTES {Z : State} {a0 : Array Value} (hw : ∀ d ∈ tables_1, d.before a0 Z = true) (hA : ∀ d ∈ own_flat narrow_1, d.value a0 Z none Z [] = some true) : Exa Z Z.heap (w14_BYTES Z) "com/example/fieldnote/fieldnote/schema/FieldType" := Exa.start (ev_w14_BYTES hw hA) (hA _ (List.mem_of_getElem? (i := 14) rfl))
theorem ex_w15_ENUM {Z : State} {a0 : Array Value} (hw : ∀ d ∈ tables_1, d.before a0 Z = true) (hA : ∀ d ∈ own_flat narrow_1, d.value a0 Z none Z [] = some true) : Exa Z Z.heap (w15_ENUM Z) "com/example/fieldnote/fieldnote/schema/FieldType" := Exa.start (ev_w15_ENUM hw hA) (hA _ (List.mem_of_getElem? (i := 15) rfl))
theorem ex_w16_MESSAGE {Z : State} {a0 : Array Value} (hw : ∀ d ∈ tables_1, d.before a0 Z = true) (hA : ∀ d ∈ own_flat narrow_1, d.value a0 Z none Z [] = some true) : Exa Z Z.heap (w16_MESSAGE Z) "com/example/fieldnote/fieldnote/schema/FieldType" := Exa.start (ev_w16_MESSAGE hw hA) (hA _ (List.mem_of_getElem? (i := 16) rfl))
theorem ex_w17_keyword {Z : State} {a0 : Array Value} (hw : ∀ d ∈ tables_1, d.before a0 Z = true) (hA : ∀ d ∈ own_flat narrow_1, d.value a0 Z none Z [] = some true) : Exa Z Z.heap (w17_keyword Z) "java/lang/String" := Exa.start (ev_w17_keyword hw hA) (hA _ (List.mem_of_getElem? (i := 17) rfl))
theorem ex_w18_keyword {Z : State} {a0 : Array Value} (hw : ∀ d ∈ tables_1, d.before a0 Z = true) (hA : ∀ d ∈ own_flat narrow_1, d.value a0 Z none Z [] = some true) : Exa Z Z.heap (w18_keyword Z) "java/lang/String" := Exa.start (ev_w18_keyword hw hA) (hA _ (List.mem_of_getElem? (i := 18) rfl))
theorem ex_w19_keyword {Z : State} {a0 : Array Value} (hw : ∀ d ∈ tables_1, d.before a0 Z = true) (hA : ∀ d ∈ own_flat narrow_1, d.value a0 Z none Z [] = some true) : Exa Z Z.heap (w19_keyword Z) "java/lang/String" := Exa.start (ev_w19_keyword hw hA) (hA _ (List.mem_of_getElem? (i := 23) rfl))
theorem ex_w20_keyword {Z : State} {a0 : Array Value} (hw : ∀ d ∈ tables_1, d.before a0 Z = true) (hA : ∀ d ∈ own_flat narrow_1, d.value a0 Z none Z [] = some true) : Exa Z Z.heap (w20_keyword Z) "java/lang/String" := Exa.start (ev_w20_keyword hw hA) (hA _ (List.mem_of_getElem? (i := 25) rfl))
theorem ex_w21_keyword {Z : State} {a0 : Array Value} (hw : ∀ d ∈ tables_1, d.before a0 Z = true) (hA : ∀ d ∈ own_flat narrow_1, d.value a0 Z none Z [] = some true) : Exa Z Z.heap (w21_keyword Z) "java/lang/String" := Exa.start (ev_w21_keyword hw hA) (hA _ (List.mem_of_getElem? (i := 27) rfl))
theorem ex_w22_keyword {Z : State} {a0 : Array Value} (hw : ∀ d ∈ tables_1, d.before a0 Z = true) (hA : ∀ d ∈ own_flat narrow_1, d.value a0 Z none Z [] = some true) : Exa Z Z.heap (w22_keyword Z) "java/lang/String" := Exa.start (ev_w22_keyword hw hA) (hA _ (List.mem_of_getElem? (i := 29) rfl))
theorem ex_w23_keyword {Z : State} {a0 : Array Value} (hw : ∀ d ∈ tables_1, d.before a0 Z = true) (hA : ∀ d ∈ own_flat narrow_1, d.value a0 Z none Z [] = some true) : Exa Z Z.heap (w23_keyword Z) "java/lang/String" := Exa.start (ev_w23_keyword hw hA) (hA _ (List.mem_of_getElem? (i := 31) rfl))
theorem ex_w24_keyword {Z : State} {a0 : Array Value} (hw : ∀ d ∈ tables_1, d.before a0 Z = true) (hA : ∀ d ∈ own_flat narrow_1, d.value a0 Z none Z [] = some true) : Exa Z Z.heap (w24_keyword Z) "java/lang/String" := Exa.start (ev_w24_keyword hw hA) (hA _ (List.mem_of_getElem? (i := 33) rfl))
theorem ex_w25_keyword {Z : State} {a0 : Array Value} (hw : ∀ d ∈ tables_1, d.before a0 Z = true) (hA : ∀ d ∈ own_flat narrow_1, d.value a0 Z none Z [] = some true) : Exa Z Z.heap (w25_keyword Z) "java/lang/String" := Exa.start (ev_w25_keyword hw hA) (hA _ (List.mem_of_getElem? (i := 35) rfl))
theorem ex_w26_keyword {Z : State} {a0 : Array Value} (hw : ∀ d ∈ tables_1, d.before a0 Z = true) (hA : ∀ d ∈ own_flat narrow_1, d.value a0 Z none Z [] = some true) : Exa Z Z.heap (w26_keyword Z) "java/lang/String" := Exa.start (ev_w26_keyword hw hA) (hA _ (List.mem_of_getElem? (i := 36) rfl))
theorem ex_w27_keyword {Z : State} {a0 : Array Value} (hw : ∀ d ∈ tables_1, d.before a0 Z = true) (hA : ∀ d ∈ own_flat narrow_1, d.value a0 Z none Z [] = some true) : Exa Z Z.heap (w27_keyword Z) "java/lang/String" := Exa.start (ev_w27_keyword hw hA) (hA _ (List.mem_of_getElem? (i := 38) rfl))
theorem ex_w28_keyword {Z : State} {a0 : Array Value} (hw : ∀ d ∈ tables_1, d.before a0 Z = true) (hA : ∀ d ∈ own_flat narrow_1, d.value a0 Z none Z [] = some true) : Exa Z Z.heap (w28_keyword Z) "java/lang/String" := Exa.start (ev_w28_keyword hw hA) (hA _ (List.mem_of_getElem? (i := 40) rfl))
theorem ex_w29_keyword {Z : State} {a0 : Array Value} (hw : ∀ d ∈ tables_1, d.before a0 Z = true) (hA : ∀ d ∈ own_flat narrow_1, d.value a0 Z none Z [] = some true) : Exa Z Z.heap (w29_keyword Z) "java/lang/String" := Exa.start (ev_w29_keyword hw hA) (hA _ (List.mem_of_getElem? (i := 44) rfl))
theorem ex_w30_keyword {Z : State} {a0 : Array Value} (hw : ∀ d ∈ tables_1, d.before a0 Z = true) (hA : ∀ d ∈ own_flat narrow_1, d.value a0 Z none Z [] = some true) : Exa Z Z.heap (w30_keyword Z) "java/lang/String" := Exa.start (ev_w30_keyword hw hA) (hA _ (List.mem_of_getElem? (i := 46) rfl))
theorem ex_w31_keyword {Z : State} {a0 : Array Value} (hw : ∀ d ∈ tables_1, d.before a0 Z = true) (hA : ∀ d ∈ own_flat narrow_1, d.value a0 Z none Z [] = some true) : Exa Z Z.heap (w31_keyword Z) "java/lang/String" := Exa.start (ev_w31_keyword hw hA) (hA _ (List.mem_of_getElem? (i := 47) rfl))
theorem st_w0_DOUBLE {Z : State} {a0 : Array Value} (hw : ∀ d ∈ tables_1, d.before a0 Z = true) (hA : ∀ d ∈ own_flat narrow_1, d.value a0 Z none Z [] = some true) : Sta Z Z.heap "com/example/fieldnote/fieldnote/schema/FieldType" "DOUBLE" "Lcom/example/fieldnote/fieldnote/schema/FieldType;" (.ref (w0_DOUBLE Z)) := Sta.start (ev_w0_DOUBLE hw hA) (Or.inr ⟨(hw _ (List.mem_of_getElem? (i := 3) rfl)), (hw _ (List.mem_of_getElem? (i := 4) rfl))⟩)
theorem st_w1_FLOAT {Z : State} {a0 : Array Value} (hw : ∀ d ∈ tables_1, d.before a0 Z = true) (hA : ∀ d ∈ own_flat narrow_1, d.value a0 Z none Z [] = some true) : Sta Z Z.heap "com/example/fieldnote/fieldnote/schema/FieldType" "FLOAT" "Lcom/example/fieldnote/fieldnote/schema/FieldType;" (.ref (w1_FLOAT Z)) := Sta.start (ev_w1_FLOAT hw hA) (Or.inr ⟨(hw _ (List.mem_of_getElem? (i := 3) rfl)), (hw _ (List.mem_of_getElem? (i := 7) rfl))⟩)
theorem st_w2_INT32 {Z : State} {a0 : Array Value} (hw : ∀ d ∈ tables_1, d.before a0 Z = true) (hA : ∀ d ∈ own_flat narrow_1, d.value a0 Z none Z [] = some true) : Sta Z Z.heap "com/example/fieldnote/fieldnote/schema/FieldType" "INT32" "Lcom/example/fieldnote/fieldnote/schema/FieldType;" (.ref (w2_INT32 Z)) := Sta.start (ev_w2_INT32 hw hA) (Or.inr ⟨(hw _ (List.mem_of_getElem? (i := 3) rfl)), (hw _ (List.mem_of_getElem? (i := 9) rfl))⟩)
theorem st_w3_INT64 {Z : State} {a0 : Array Value} (hw : ∀ d ∈ tables_1, d.before a0 Z = true) (hA : ∀ d ∈ own_flat narrow_1, d.value a0 Z none Z [] = some true) : Sta Z Z.heap "com/example/fieldnote/fieldnote/schema/FieldType" "INT64" "Lcom/example/fieldnote/fieldnote/schema/FieldType;" (.ref (w3_INT64 Z)) := Sta.start (ev_w3_INT64 hw hA) (Or.inr ⟨(hw _ (List.mem_of_getElem? (i := 3) rfl)), (hw _ (List.mem_of_getElem? (i := 11) rfl))⟩)
theorem st_w4_UINT32 {Z : State} {a0 : Array Value} (hw : ∀ d ∈ tables_1, d.before a0 Z = true) (hA : ∀ d ∈ own_flat narrow_1, d.value a0 Z none Z [] = some true) : Sta Z Z.heap "com/example/fieldnote/fieldnote/schema/FieldType" "UINT32" "Lcom/example/fieldnote/fieldnote/schema/FieldType;" (.ref (w4_UINT32 Z)) := Sta.start (ev_w4_UINT32 hw hA) (Or.inr ⟨(hw _ (List.mem_of_getElem? (i := 3) rfl)), (hw _ (List.mem_of_getElem? (i := 13) rfl))⟩)
theorem st_w5_UINT64 {Z : State} {a0 : Array Value} (hw : ∀ d ∈ tables_1, d.before a0 Z = true) (hA : ∀ d ∈ own_flat narrow_1, d.value a0 Z none Z [] = some true) : Sta Z Z.heap "com/example/fieldnote/fieldnote/schema/FieldType" "UINT64" "Lcom/example/fieldnote/fieldnote/schema/FieldType;" (.ref (w5_UINT64 Z)) := Sta.start (ev_w5_UINT64 hw hA) (Or.inr ⟨(hw _ (List.mem_of_getElem? (i := 3) rfl)), (hw _ (List.mem_of_getElem? (i := 15) rfl))⟩)
theorem st_w6_SINT32 {Z : State} {a0 : Array Value} (hw : ∀ d ∈ tables_1, d.before a0 Z = true) (hA : ∀ d ∈ own_flat narrow_1, d.value a0 Z none Z [] = some true) : Sta Z Z.heap "com/example/fieldnote/fieldnote/schema/FieldType" "SINT32" "Lcom/example/fieldnote/fieldnote/schema/FieldType;" (.ref (w6_SINT32 Z)) := Sta.start (ev_w6_SINT32 hw hA) (Or.inr ⟨(hw _ (List.mem_of_getElem? (i := 3) rfl)), (hw _ (List.mem_of_getElem? (i := 17) rfl))⟩)
theorem st_w7_SINT64 {Z : State} {a0 : Array Value} (hw : ∀ d ∈ tables_1, d.before a0 Z = true) (hA : ∀ d ∈ own_flat narrow_1, d.value a0 Z none Z [] = some true) : Sta Z Z.heap "com/example/fieldnote/fieldnote/schema/FieldType" "SINT64" "Lcom/example/fieldnote/fieldnote/schema/FieldType;" (.ref (w7_SINT64 Z)) := Sta.start (ev_w7_SINT64 hw hA) (Or.inr ⟨(hw _ (List.mem_of_getElem? (i := 3) rfl)), (hw _ (List.mem_of_getElem? (i := 19) rfl))⟩)
theorem st_w8_FIXED32 {Z : State} {a0 : Array Value} (hw : ∀ d ∈ tables_1, d.before a0 Z = true) (hA : ∀ d ∈ own_flat narrow_1, d.value a0 Z none Z [] = some true) : Sta Z Z.heap "com/example/fieldnote/fieldnote/schema/FieldType" "FIXED32" "Lcom/example/fieldnote/fieldnote/schema/FieldType;" (.ref (w8_FIXED32 Z)) := Sta.start (ev_w8_FIXED32 hw hA) (Or.inr ⟨(hw _ (List.mem_of_getElem? (i := 3) rfl)), (hw _ (List.mem_of_getElem? (i := 21) rfl))⟩)
theorem st_w9_FIXED64 {Z : State} {a0 : Array Value} (hw : ∀ d ∈ tables_1, d.before a0 Z = true) (hA : ∀ d ∈ own_flat narrow_1, d.value a0 Z none Z [] = some true) : Sta Z Z.heap "com/example/fieldnote/fieldnote/schema/FieldType" "FIXED64" "Lcom/example/fieldnote/fieldnote/schema/FieldType;" (.ref (w9_FIXED64 Z)) := Sta.start (ev_w9_FIXED64 hw hA) (Or.inr ⟨(hw _ (List.mem_of_getElem? (i := 3) rfl)), (hw _ (List.mem_of_getElem? (i := 23) rfl))⟩)
theorem st_w10_SFIXED32 {Z : State} {a0 : Array Value} (hw : ∀ d ∈ tables_1, d.before a0 Z = true) (hA : ∀ d ∈ own_flat narrow_1, d.value a0 Z none Z [] = some true) : Sta Z Z.heap "com/example/fieldnote/fieldnote/schema/FieldType" "SFIXED32" "Lcom/example/fieldnote/fieldnote/schema/FieldType;" (.ref (w10_SFIXED32 Z)) := Sta.start (ev_w10_SFIXED32 hw hA) (Or.inr ⟨(hw _ (List.mem_of_getElem? (i := 3) rfl)), (hw _ (List.mem_of_getElem? (i := 25) rfl))⟩)
theorem st_w11_SFIXED64 {Z : State} {a0 : Array Value} (hw : ∀ d ∈ tables_1, d.before a0 Z = true) (hA : ∀ d ∈ own_flat narrow_1, d.value a0 Z none Z [] = some true) : Sta Z Z.heap "com/example/fieldnote/fieldnote/schema/FieldType" "SFIXED64" "Lcom/example/fieldnote/fieldnote/schema/FieldType;" (.ref (w11_SFIXED64 Z)) := Sta.start (ev_w11_SFIXED64 hw hA) (Or.inr ⟨(hw _ (List.mem_of_getElem? (i := 3) rfl)), (hw _ (List.mem_of_getElem? (i := 27) rfl))⟩)
theorem st_w12_BOOL {Z : State} {a0 : Array Value} (hw : ∀ d ∈ tables_1, d.before a0 Z = true) (hA : ∀ d ∈ own_flat narrow_1, d.value a0 Z none Z [] = some true) : Sta Z Z.heap "com/example/fieldnote/fieldnote/schema/FieldType" "BOOL" "Lcom/example/fieldnote/fieldnote/schema/FieldType;" (.ref (w12_BOOL Z)) := Sta.start (ev_w12_BOOL hw hA) (Or.inr ⟨(hw _ (List.mem_of_getElem? (i := 3) rfl)), (hw _ (List.mem_of_getElem? (i := 29) rfl))⟩)
theorem st_w13_STRING {Z : State} {a0 : Array Value} (hw : ∀ d ∈ tables_1, d.before a0 Z = true) (hA : ∀ d ∈ own_flat narrow_1, d.value a0 Z none Z [] = some true) : Sta Z Z.heap "com/example/fieldnote/fieldnote/schema/FieldType" "STRING" "Lcom/example/fieldnote/fieldnote/schema/FieldType;" (.ref (w13_STRING Z)) := Sta.start (ev_w13_STRING hw hA) (Or.inr ⟨(hw _ (List.mem_of_getElem? (i := 3) rfl)), (hw _ (List.mem_of_getElem? (i := 31) rfl))⟩)
theorem st_w14_BYTES {Z : State} {a0 : Array Value} (hw : ∀ d ∈ tables_1, d.before a0 Z = true) (hA : ∀ d ∈ own_flat narrow_1, d.value a0 Z none Z [] = some true) : Sta Z Z.heap "com/example/fieldnote/fieldnote/schema/FieldType" "BYTES" "Lcom/example/fieldnote/fieldnote/schema/FieldType;" (.ref (w14_BYTES Z)) := Sta.start (ev_w14_BYTES hw hA) (Or.inr ⟨(hw _ (List.mem_of_getElem? (i := 3) rfl)), (hw _ (List.mem_of_getElem? (i := 33) rfl))⟩)
theorem st_w15_ENUM {Z : State} {a0 : Array Value} (hw : ∀ d ∈ tables_1, d.before a0 Z = true) (hA : ∀ d ∈ own_flat narrow_1, d.value a0 Z none Z [] = some true) : Sta Z Z.heap "com/example/fieldnote/fieldnote/schema/FieldType" "ENUM" "Lcom/example/fieldnote/fieldnote/schema/FieldType;" (.ref (w15_ENUM Z)) := Sta.start (ev_w15_ENUM hw hA) (Or.inr ⟨(hw _ (List.mem_of_getElem? (i := 3) rfl)), (hw _ (List.mem_of_getElem? (i := 35) rfl))⟩)
theorem st_w16_MESSAGE {Z : State} {a0 : Array Value} (hw : ∀ d ∈ tables_1, d.before a0 Z = true) (hA : ∀ d ∈ own_flat narrow_1, d.value a0 Z none Z [] = some true) : Sta Z Z.heap "com/example/fieldnote/fieldnote/schema/FieldType" "MESSAGE" "Lcom/example/fieldnote/fieldnote/schema/FieldType;" (.ref (w16_MESSAGE Z)) := Sta.start (ev_w16_MESSAGE hw hA) (Or.inr ⟨(hw _ (List.mem_of_getElem? (i := 3) rfl)), (hw _ (List.mem_of_getElem? (i := 37) rfl))⟩)
theorem fl0 {Z : State} {a0 : Array Value} (hw : ∀ d ∈ tables_1, d.before a0 Z = true) (hA : ∀ d ∈ own_flat narrow_1, d.value a0 Z none Z [] = some true) : Fld Z Z.heap (w0_DOUBLE Z) "com/example/fieldnote/fieldnote/schema/FieldType" "keyword" "Ljava/lang/String;" (.ref (w17_keyword Z)) := own_fld (ev_w0_DOUBLE hw hA) (ev_w17_keyword hw hA)
theorem fl1 {Z : State} {a0 : Array Value} (hw : ∀ d ∈ tables_1, d.before a0 Z = true) (hA : ∀ d ∈ own_flat narrow_1, d.value a0 Z none Z [] = some true) : Fld Z Z.heap (w3_INT64 Z) "com/example/fieldnote/fieldnote/schema/FieldType" "keyword" "Ljava/lang/String;" (.ref (w18_keyword Z)) := own_fld (ev_w3_INT64 hw hA) (ev_w18_keyword hw hA)
theorem fl2 {Z : State} {a0 : Array Value} (hw : ∀ d ∈ tables_1, d.before a0 Z = true) (hA : ∀ d ∈ own_flat narrow_1, d.value a0 Z none Z [] = some true) : Fld Z Z.heap (w3_INT64 Z) "java/lang/Enum" "ordinal" "I" (.int (3 : Int32)) := own_fld (ev_w3_INT64 hw hA) (own_eqI (hA _ (List.mem_of_getElem? (i := 19) rfl)))
theorem fl3 {Z : State} {a0 : Array Value} (hw : ∀ d ∈ tables_1, d.before a0 Z = true) (hA : ∀ d ∈ own_flat narrow_1, d.value a0 Z none Z [] = some true) : Fld Z Z.heap (w0_DOUBLE Z) "java/lang/Enum" "ordinal" "I" (.int (0 : Int32)) := own_fld (ev_w0_DOUBLE hw hA) (own_eqI (hA _ (List.mem_of_getElem? (i := 20) rfl)))
theorem fl4 {Z : State} {a0 : Array Value} (hw : ∀ d ∈ tables_1, d.before a0 Z = true) (hA : ∀ d ∈ own_flat narrow_1, d.value a0 Z none Z [] = some true) : Fld Z Z.heap (w1_FLOAT Z) "java/lang/Enum" "ordinal" "I" (.int (1 : Int32)) := own_fld (ev_w1_FLOAT hw hA) (own_eqI (hA _ (List.mem_of_getElem? (i := 21) rfl)))
theorem fl5 {Z : State} {a0 : Array Value} (hw : ∀ d ∈ tables_1, d.before a0 Z = true) (hA : ∀ d ∈ own_flat narrow_1, d.value a0 Z none Z [] = some true) : Fld Z Z.heap (w14_BYTES Z) "java/lang/Enum" "ordinal" "I" (.int (14 : Int32)) := own_fld (ev_w14_BYTES hw hA) (own_eqI (hA _ (List.mem_of_getElem? (i := 22) rfl)))
theorem fl6 {Z : State} {a0 : Array Value} (hw : ∀ d ∈ tables_1, d.before a0 Z = true) (hA : ∀ d ∈ own_flat narrow_1, d.value a0 Z none Z [] = some true) : Fld Z Z.heap (w8_FIXED32 Z) "com/example/fieldnote/fieldnote/schema/FieldType" "keyword" "Ljava/lang/String;" (.ref (w19_keyword Z)) := own_fld (ev_w8_FIXED32 hw hA) (ev_w19_keyword hw hA)
theorem fl7 {Z : State} {a0 : Array Value} (hw : ∀ d ∈ tables_1, d.before a0 Z = true) (hA : ∀ d ∈ own_flat narrow_1, d.value a0 Z none Z [] = some true) : Fld Z Z.heap (w8_FIXED32 Z) "java/lang/Enum" "ordinal" "I" (.int (8 : Int32)) := own_fld (ev_w8_FIXED32 hw hA) (own_eqI (hA _ (List.mem_of_getElem? (i := 24) rfl)))
theorem fl8 {Z : State} {a0 : Array Value} (hw : ∀ d ∈ tables_1, d.before a0 Z = true) (hA : ∀ d ∈ own_flat narrow_1, d.value a0 Z none Z [] = some true) : Fld Z Z.heap (w9_FIXED64 Z) "com/example/fieldnote/fieldnote/schema/FieldType" "keyword" "Ljava/lang/String;" (.ref (w20_keyword Z)) := own_fld (ev_w9_FIXED64 hw hA) (ev_w20_keyword hw hA)
theorem fl9 {Z : State} {a0 : Array Value} (hw : ∀ d ∈ tables_1, d.before a0 Z = true) (hA : ∀ d ∈ own_flat narrow_1, d.value a0 Z none Z [] = some true) : Fld Z Z.heap (w9_FIXED64 Z) "java/lang/Enum" "ordinal" "I" (.int (9 : Int32)) := own_fld (ev_w9_FIXED64 hw hA) (own_eqI (hA _ (List.mem_of_getElem? (i := 26) rfl)))
theorem fl10 {Z : State} {a0 : Array Value} (hw : ∀ d ∈ tables_1, d.before a0 Z = true) (hA : ∀ d ∈ own_flat narrow_1, d.value a0 Z none Z [] = some true) : Fld Z Z.heap (w6_SINT32 Z) "com/example/fieldnote/fieldnote/schema/FieldType" "keyword" "Ljava/lang/String;" (.ref (w21_keyword Z)) := own_fld (ev_w6_SINT32 hw hA) (ev_w21_keyword hw hA)
theorem fl11 {Z : State} {a0 : Array Value} (hw : ∀ d ∈ tables_1, d.before a0 Z = true) (hA : ∀ d ∈ own_flat narrow_1, d.value a0 Z none Z [] = some true) : Fld Z Z.heap (w6_SINT32 Z) "java/lang/Enum" "ordinal" "I" (.int (6 : Int32)) := own_fld (ev_w6_SINT32 hw hA) (own_eqI (hA _ (List.mem_of_getElem? (i := 28) rfl)))
theorem fl12 {Z : State} {a0 : Array Value} (hw : ∀ d ∈ tables_1, d.before a0 Z = true) (hA : ∀ d ∈ own_flat narrow_1, d.value a0 Z none Z [] = some true) : Fld Z Z.heap (w7_SINT64 Z) "com/example/fieldnote/fieldnote/schema/FieldType" "keyword" "Ljava/lang/String;" (.ref (w22_keyword Z)) := own_fld (ev_w7_SINT64 hw hA) (ev_w22_keyword hw hA)
theorem fl13 {Z : State} {a0 : Array Value} (hw : ∀ d ∈ tables_1, d.before a0 Z = true) (hA : ∀ d ∈ own_flat narrow_1, d.value a0 Z none Z [] = some true) : Fld Z Z.heap (w7_SINT64 Z) "java/lang/Enum" "ordinal" "I" (.int (7 : Int32)) := own_fld (ev_w7_SINT64 hw hA) (own_eqI (hA _ (List.mem_of_getElem? (i := 30) rfl)))
theorem fl14 {Z : State} {a0 : Array Value} (hw : ∀ d ∈ tables_1, d.before a0 Z = true) (hA : ∀ d ∈ own_flat narrow_1, d.value a0 Z none Z [] = some true) : Fld Z Z.heap (w2_INT32 Z) "com/example/fieldnote/fieldnote/schema/FieldType" "keyword" "Ljava/lang/String;" (.ref (w23_keyword Z)) := own_fld (ev_w2_INT32 hw hA) (ev_w23_keyword hw hA)
theorem fl15 {Z : State} {a0 : Array Value} (hw : ∀ d ∈ tables_1, d.before a0 Z = true) (hA : ∀ d ∈ own_flat narrow_1, d.value a0 Z none Z [] = some true) : Fld Z Z.heap (w2_INT32 Z) "java/lang/Enum" "ordinal" "I" (.int (2 : Int32)) := own_fld (ev_w2_INT32 hw hA) (own_eqI (hA _ (List.mem_of_getElem? (i := 32) rfl)))
theorem fl16 {Z : State} {a0 : Array Value} (hw : ∀ d ∈ tables_1, d.before a0 Z = true) (hA : ∀ d ∈ own_flat narrow_1, d.value a0 Z none Z [] = some true) : Fld Z Z.heap (w11_SFIXED64 Z) "com/example/fieldnote/fieldnote/schema/FieldType" "keyword" "Ljava/lang/String;" (.ref (w24_keyword Z)) := own_fld (ev_w11_SFIXED64 hw hA) (ev_w24_keyword hw hA)
theorem fl17 {Z : State} {a0 : Array Value} (hw : ∀ d ∈ tables_1, d.before a0 Z = true) (hA : ∀ d ∈ own_flat narrow_1, d.value a0 Z none Z [] = some true) : Fld Z Z.heap (w11_SFIXED64 Z) "java/lang/Enum" "ordinal" "I" (.int (11 : Int32)) := own_fld (ev_w11_SFIXED64 hw hA) (own_eqI (hA _ (List.mem_of_getElem? (i := 34) rfl)))
theorem fl18 {Z : State} {a0 : Array Value} (hw : ∀ d ∈ tables_1, d.before a0 Z = true) (hA : ∀ d ∈ own_flat narrow_1, d.value a0 Z none Z [] = some true) : Fld Z Z.heap (w1_FLOAT Z) "com/example/fieldnote/fieldnote/schema/FieldType" "keyword" "Ljava/lang/String;" (.ref (w25_keyword Z)) := own_fld (ev_w1_FLOAT hw hA) (ev_w25_keyword hw hA)
theorem fl19 {Z : State} {a0 : Array Value} (hw : ∀ d ∈ tables_1, d.before a0 Z = true) (hA : ∀ d ∈ own_flat narrow_1, d.value a0 Z none Z [] = some true) : Fld Z Z.heap (w13_STRING Z) "com/example/fieldnote/fieldnote/schema/FieldType" "keyword" "Ljava/lang/String;" (.ref (w26_keyword Z)) := own_fld (ev_w13_STRING hw hA) (ev_w26_keyword hw hA)
theorem fl20 {Z : State} {a0 : Array Value} (hw : ∀ d ∈ tables_1, d.before a0 Z = true) (hA : ∀ d ∈ own_flat narrow_1, d.value a0 Z none Z [] = some true) : Fld Z Z.heap (w13_STRING Z) "java/lang/Enum" "ordinal" "I" (.int (13 : Int32)) := own_fld (ev_w13_STRING hw hA) (own_eqI (hA _ (List.mem_of_getElem? (i := 37) rfl)))
theorem fl21 {Z : State} {a0 : Array Value} (hw : ∀ d ∈ tables_1, d.before a0 Z = true) (hA : ∀ d ∈ own_flat narrow_1, d.value a0 Z none Z [] = some true) : Fld Z Z.heap (w4_UINT32 Z) "com/example/fieldnote/fieldnote/schema/FieldType" "keyword" "Ljava/lang/String;" (.ref (w27_keyword Z)) := own_fld (ev_w4_UINT32 hw hA) (ev_w27_keyword hw hA)
theorem fl22 {Z : State} {a0 : Array Value} (hw : ∀ d ∈ tables_1, d.before a0 Z = true) (hA : ∀ d ∈ own_flat narrow_1, d.value a0 Z none Z [] = some true) : Fld Z Z.heap (w4_UINT32 Z) "java/lang/Enum" "ordinal" "I" (.int (4 : Int32)) := own_fld (ev_w4_UINT32 hw hA) (own_eqI (hA _ (List.mem_of_getElem? (i := 39) rfl)))
theorem fl23 {Z : State} {a0 : Array Value} (hw : ∀ d ∈ tables_1, d.before a0 Z = true) (hA : ∀ d ∈ own_flat narrow_1, d.value a0 Z none Z [] = some true) : Fld Z Z.heap (w10_SFIXED32 Z) "com/example/fieldnote/fieldnote/schema/FieldType" "keyword" "Ljava/lang/String;" (.ref (w28_keyword Z)) := own_fld (ev_w10_SFIXED32 hw hA) (ev_w28_keyword hw hA)
theorem fl24 {Z : State} {a0 : Array Value} (hw : ∀ d ∈ tables_1, d.before a0 Z = true) (hA : ∀ d ∈ own_flat narrow_1, d.value a0 Z none Z [] = some true) : Fld Z Z.heap (w10_SFIXED32 Z) "java/lang/Enum" "ordinal" "I" (.int (10 : Int32)) := own_fld (ev_w10_SFIXED32 hw hA) (own_eqI (hA _ (List.mem_of_getElem? (i := 41) rfl)))
theorem fl25 {Z : State} {a0 : Array Value} (hw : ∀ d ∈ tables_1, d.before a0 Z = true) (hA : ∀ d ∈ own_flat narrow_1, d.value a0 Z none Z [] = some true) : Fld Z Z.heap (w16_MESSAGE Z) "com/example/fieldnote/fieldnote/schema/FieldType" "keyword" "Ljava/lang/String;" .null := own_fld (ev_w16_MESSAGE hw hA) (null_v (hA _ (List.mem_of_getElem? (i := 42) rfl)))
theorem fl26 {Z : State} {a0 : Array Value} (hw : ∀ d ∈ tables_1, d.before a0 Z = true) (hA : ∀ d ∈ own_flat narrow_1, d.value a0 Z none Z [] = some true) : Fld Z Z.heap (w15_ENUM Z) "com/example/fieldnote/fieldnote/schema/FieldType" "keyword" "Ljava/lang/String;" .null := own_fld (ev_w15_ENUM hw hA) (null_v (hA _ (List.mem_of_getElem? (i := 43) rfl)))
theorem fl27 {Z : State} {a0 : Array Value} (hw : ∀ d ∈ tables_1, d.before a0 Z = true) (hA : ∀ d ∈ own_flat narrow_1, d.value a0 Z none Z [] = some true) : Fld Z Z.heap (w5_UINT64 Z) "com/example/fieldnote/fieldnote/schema/FieldType" "keyword" "Ljava/lang/String;" (.ref (w29_keyword Z)) := own_fld (ev_w5_UINT64 hw hA) (ev_w29_keyword hw hA)
theorem fl28 {Z : State} {a0 : Array Value} (hw : ∀ d ∈ tables_1, d.before a0 Z = true) (hA : ∀ d ∈ own_flat narrow_1, d.value a0 Z none Z [] = some true) : Fld Z Z.heap (w5_UINT64 Z) "java/lang/Enum" "ordinal" "I" (.int (5 : Int32)) := own_fld (ev_w5_UINT64 hw hA) (own_eqI (hA _ (List.mem_of_getElem? (i := 45) rfl)))
theorem fl29 {Z : State} {a0 : Array Value} (hw : ∀ d ∈ tables_1, d.before a0 Z = true) (hA : ∀ d ∈ own_flat narrow_1, d.value a0 Z none Z [] = some true) : Fld Z Z.heap (w14_BYTES Z) "com/example/fieldnote/fieldnote/schema/FieldType" "keyword" "Ljava/lang/String;" (.ref (w30_keyword Z)) := own_fld (ev_w14_BYTES hw hA) (ev_w30_keyword hw hA)
theorem fl30 {Z : State} {a0 : Array Value} (hw : ∀ d ∈ tables_1, d.before a0 Z = true) (hA : ∀ d ∈ own_flat narrow_1, d.value a0 Z none Z [] = some true) : Fld Z Z.heap (w12_BOOL Z) "com/example/fieldnote/fieldnote/schema/FieldType" "keyword" "Ljava/lang/String;" (.ref (w31_keyword Z)) := own_fld (ev_w12_BOOL hw hA) (ev_w31_keyword hw hA)
theorem fl31 {Z : State} {a0 : Array Value} (hw : ∀ d ∈ tables_1, d.before a0 Z = true) (hA : ∀ d ∈ own_flat narrow_1, d.value a0 Z none Z [] = some true) : Fld Z Z.heap (w12_BOOL Z) "java/lang/Enum" "ordinal" "I" (.int (12 : Int32)) := own_fld (ev_w12_BOOL hw hA) (own_eqI (hA _ (List.mem_of_getElem? (i := 48) rfl)))
theorem d1_0 : decode prog_7_method_6_code 0 = .ok (.aload_n 0, 1) := by decide +kernel
theorem d1_1 : decode prog_7_method_6_code 1 = .ok (.getfield 74, 3) := by decide +kernel
theorem d1_4 : decode prog_7_method_6_code 4 = .ok (.ifnull 28, 3) := by decide +kernel
theorem d1_7 : decode prog_7_method_6_code 7 = .ok (.aload_n 0, 1) := by decide +kernel
theorem d1_8 : decode prog_7_method_6_code 8 = .ok (.getstatic 3, 3) := by decide +kernel
theorem d1_11 : decode prog_7_method_6_code 11 = .ok (.if_acmp .eq 21, 3) := by decide +kernel
theorem d1_32 : decode prog_7_method_6_code 32 = .ok (.iconst 0, 1) := by decide +kernel
theorem d1_33 : decode prog_7_method_6_code 33 = .ok (.ireturn, 1) := by decide +kernel
theorem pn0 : plainName "com/example/fieldnote/fieldnote/schema/FieldType" = true := by first | (simp [plainName, overriddenIn]; done) | decide +kernel
theorem pd1 : parseMethodDescriptor "()Z" = some ⟨[], some .boolean⟩ := by decide +kernel
theorem d1_14 : decode prog_7_method_6_code 14 = .ok (.aload_n 0, 1) := by decide +kernel
theorem d1_15 : decode prog_7_method_6_code 15 = .ok (.getstatic 7, 3) := by decide +kernel
theorem d1_18 : decode prog_7_method_6_code 18 = .ok (.if_acmp .eq 14, 3) := by decide +kernel
theorem d1_21 : decode prog_7_method_6_code 21 = .ok (.aload_n 0, 1) := by decide +kernel
theorem d1_22 : decode prog_7_method_6_code 22 = .ok (.getstatic 46, 3) := by decide +kernel
theorem d1_25 : decode prog_7_method_6_code 25 = .ok (.if_acmp .eq 7, 3) := by decide +kernel
theorem d1_28 : decode prog_7_method_6_code 28 = .ok (.iconst 1, 1) := by decide +kernel
theorem d1_29 : decode prog_7_method_6_code 29 = .ok (.goto 4, 3) := by decide +kernel
theorem pn2 : plainName "com/example/fieldnote/fieldnote/schema/FieldTypeIsMapKeyPinLaw" = true := by first | (simp [plainName, overriddenIn]; done) | decide +kernel
set_option maxRecDepth 65536 in
set_option maxHeartbeats 40000000 in
theorem rm1_0 (l : Launch) (Z : State) (a0 : Array Value) (hw : ∀ d ∈ tables_1, d.before a0 Z = true) (hA : ∀ d ∈ own_flat narrow_1, d.value a0 Z none Z [] = some true) (ws : List Jvm.Cond) (h0 : Heap) (n0 : Nat) (O0 : Old Z n0 h0) :
    own_Met l Z (⟨"com/example/fieldnote/fieldnote/schema/FieldType", "isMapKey", "()Z"⟩ : MethodName) (Jvm.Cond.code (⟨"com/example/fieldnote/fieldnote/schema/FieldType", "isMapKey", "()Z"⟩ : MethodName) prog_7_method_6_code 1 (some .boolean)) ws ({ frames := 0, cells := 0, slots := 0, locals := 0 } : Room) #[(.ref (w0_DOUBLE Z))] h0 (fun v h L => (v = some (.int (0 : Int32)) ∧ Fr n0 L ∧ h = h0)) := by
  refine own_met (own := "com/example/fieldnote/fieldnote/schema/FieldType") (plainFor_of_name pn0) rfl ?_
  intro p e s m below meth c s₁ hx hby hml hown hnm hret hlk hZ e0 X0
  refine own_cast (g' := (mkF m 0 #[.val (.ref (w0_DOUBLE Z))] [])) (by first | (simp [entryFrame, mkF, argsToLocals, Value.category]; done) | rfl) ?_
  refine own_step (fun _ k => XS.aloadN X0.here hx rfl (hb hby d1_0) rfl rfl k) ?_
  show own_Wp p e below _ s₁ (mkF m 1 #[.val (.ref (w0_DOUBLE Z))] [(.ref (w0_DOUBLE Z))])
  obtain ⟨T1, X1, e1, st1⟩ := getF X0 hx hZ hown (host := "") (Or.inl (hw _ (List.mem_of_getElem? (i := 45) rfl))) Via.refl e0 ((fl0 hw hA).ext O0.2) (g := (mkF m 1 #[.val (.ref (w0_DOUBLE Z))] [(.ref (w0_DOUBLE Z))])) rfl rfl (hb hby d1_1)
  refine own_step st1 ?_
  show own_Wp p e below _ T1 (mkF m 4 #[.val (.ref (w0_DOUBLE Z))] [(.ref (w17_keyword Z))])
  refine own_step (fun _ k => XS.ifnullNo X1.here hx rfl (hb hby d1_4) rfl k) ?_
  show own_Wp p e below _ T1 (mkF m 7 #[.val (.ref (w0_DOUBLE Z))] [])
  refine own_step (fun _ k => XS.aloadN X1.here hx rfl (hb hby d1_7) rfl rfl k) ?_
  show own_Wp p e below _ T1 (mkF m 8 #[.val (.ref (w0_DOUBLE Z))] [(.ref (w0_DOUBLE Z))])
  obtain ⟨T2, X2, e2, st2⟩ := getS2 X1 hx hZ hown (host := "") (Or.inl (hw _ (List.mem_of_getElem? (i := 47) rfl))) Via.refl e1 ((st_w0_DOUBLE hw hA).ext O0.2) (g := (mkF m 8 #[.val (.ref (w0_DOUBLE Z))] [(.ref (w0_DOUBLE Z))])) rfl (hb hby d1_8)
  refine own_step st2 ?_
  show own_Wp p e below _ T2 (mkF m 11 #[.val (.ref (w0_DOUBLE Z))] [(.ref (w0_DOUBLE Z)), (.ref (w0_DOUBLE Z))])
  refine own_step (fun _ k => Jvm.RoadKit.acmp (g := (mkF m 11 #[.val (.ref (w0_DOUBLE Z))] [(.ref (w0_DOUBLE Z)), (.ref (w0_DOUBLE Z))])) X2 hx rfl rfl rfl (pc0 := 11) (pc' := 32) (same := true) rfl (hb hby d1_11) rfl (decide_eq_true rfl) (by decide) (by decide) k) ?_
  show own_Wp p e below _ T2 (mkF m 32 #[.val (.ref (w0_DOUBLE Z))] [])
  refine own_step (fun _ k => XS.iconst X2.here hx rfl (hb hby d1_32) k) ?_
  show own_Wp p e below _ T2 (mkF m 33 #[.val (.ref (w0_DOUBLE Z))] [(.int (0 : Int32))])
  exact own_retN X2 hx (t := .boolean) hret (by simp) hlk (hb hby d1_33) (by decide) (by decide) (by rw [e2]; exact ⟨rfl, (Fr.nil n0), rfl⟩)

set_option maxRecDepth 65536 in
set_option maxHeartbeats 40000000 in
theorem rm1_1 (l : Launch) (Z : State) (a0 : Array Value) (hw : ∀ d ∈ tables_1, d.before a0 Z = true) (hA : ∀ d ∈ own_flat narrow_1, d.value a0 Z none Z [] = some true) (ws : List Jvm.Cond) (h0 : Heap) (n0 : Nat) (O0 : Old Z n0 h0) :
    own_Met l Z (⟨"com/example/fieldnote/fieldnote/schema/FieldType", "isMapKey", "()Z"⟩ : MethodName) (Jvm.Cond.code (⟨"com/example/fieldnote/fieldnote/schema/FieldType", "isMapKey", "()Z"⟩ : MethodName) prog_7_method_6_code 1 (some .boolean)) ws ({ frames := 0, cells := 0, slots := 0, locals := 0 } : Room) #[(.ref (w1_FLOAT Z))] h0 (fun v h L => (v = some (.int (0 : Int32)) ∧ Fr n0 L ∧ h = h0)) := by
  refine own_met (own := "com/example/fieldnote/fieldnote/schema/FieldType") (plainFor_of_name pn0) rfl ?_
  intro p e s m below meth c s₁ hx hby hml hown hnm hret hlk hZ e0 X0
  refine own_cast (g' := (mkF m 0 #[.val (.ref (w1_FLOAT Z))] [])) (by first | (simp [entryFrame, mkF, argsToLocals, Value.category]; done) | rfl) ?_
  refine own_step (fun _ k => XS.aloadN X0.here hx rfl (hb hby d1_0) rfl rfl k) ?_
  show own_Wp p e below _ s₁ (mkF m 1 #[.val (.ref (w1_FLOAT Z))] [(.ref (w1_FLOAT Z))])
  obtain ⟨T1, X1, e1, st1⟩ := getF X0 hx hZ hown (host := "") (Or.inl (hw _ (List.mem_of_getElem? (i := 45) rfl))) Via.refl e0 ((fl18 hw hA).ext O0.2) (g := (mkF m 1 #[.val (.ref (w1_FLOAT Z))] [(.ref (w1_FLOAT Z))])) rfl rfl (hb hby d1_1)
  refine own_step st1 ?_
  show own_Wp p e below _ T1 (mkF m 4 #[.val (.ref (w1_FLOAT Z))] [(.ref (w25_keyword Z))])
  refine own_step (fun _ k => XS.ifnullNo X1.here hx rfl (hb hby d1_4) rfl k) ?_
  show own_Wp p e below _ T1 (mkF m 7 #[.val (.ref (w1_FLOAT Z))] [])
  refine own_step (fun _ k => XS.aloadN X1.here hx rfl (hb hby d1_7) rfl rfl k) ?_
  show own_Wp p e below _ T1 (mkF m 8 #[.val (.ref (w1_FLOAT Z))] [(.ref (w1_FLOAT Z))])
  obtain ⟨T2, X2, e2, st2⟩ := getS2 X1 hx hZ hown (host := "") (Or.inl (hw _ (List.mem_of_getElem? (i := 47) rfl))) Via.refl e1 ((st_w0_DOUBLE hw hA).ext O0.2) (g := (mkF m 8 #[.val (.ref (w1_FLOAT Z))] [(.ref (w1_FLOAT Z))])) rfl (hb hby d1_8)
  refine own_step st2 ?_
  show own_Wp p e below _ T2 (mkF m 11 #[.val (.ref (w1_FLOAT Z))] [(.ref (w0_DOUBLE Z)), (.ref (w1_FLOAT Z))])
  refine own_step (fun _ k => Jvm.RoadKit.acmp (g := (mkF m 11 #[.val (.ref (w1_FLOAT Z))] [(.ref (w0_DOUBLE Z)), (.ref (w1_FLOAT Z))])) X2 hx rfl rfl rfl (pc0 := 11) (pc' := 14) (same := false) rfl (hb hby d1_11) rfl (decide_eq_false fun q => (Fld.ne (fl4 hw hA) (fl3 hw hA) (by decide)) (Value.ref.inj q)) (by decide) (by decide) k) ?_
  show own_Wp p e below _ T2 (mkF m 14 #[.val (.ref (w1_FLOAT Z))] [])
  refine own_step (fun _ k => XS.aloadN X2.here hx rfl (hb hby d1_14) rfl rfl k) ?_
  show own_Wp p e below _ T2 (mkF m 15 #[.val (.ref (w1_FLOAT Z))] [(.ref (w1_FLOAT Z))])
  obtain ⟨T3, X3, e3, st3⟩ := getS2 X2 hx hZ hown (host := "") (Or.inl (hw _ (List.mem_of_getElem? (i := 48) rfl))) Via.refl e2 ((st_w1_FLOAT hw hA).ext O0.2) (g := (mkF m 15 #[.val (.ref (w1_FLOAT Z))] [(.ref (w1_FLOAT Z))])) rfl (hb hby d1_15)
  refine own_step st3 ?_
  show own_Wp p e below _ T3 (mkF m 18 #[.val (.ref (w1_FLOAT Z))] [(.ref (w1_FLOAT Z)), (.ref (w1_FLOAT Z))])
  refine own_step (fun _ k => Jvm.RoadKit.acmp (g := (mkF m 18 #[.val (.ref (w1_FLOAT Z))] [(.ref (w1_FLOAT Z)), (.ref (w1_FLOAT Z))])) X3 hx rfl rfl rfl (pc0 := 18) (pc' := 32) (same := true) rfl (hb hby d1_18) rfl (decide_eq_true rfl) (by decide) (by decide) k) ?_
  show own_Wp p e below _ T3 (mkF m 32 #[.val (.ref (w1_FLOAT Z))] [])
  refine own_step (fun _ k => XS.iconst X3.here hx rfl (hb hby d1_32) k) ?_
  show own_Wp p e below _ T3 (mkF m 33 #[.val (.ref (w1_FLOAT Z))] [(.int (0 : Int32))])
  exact own_retN X3 hx (t := .boolean) hret (by simp) hlk (hb hby d1_33) (by decide) (by decide) (by rw [e3]; exact ⟨rfl, (Fr.nil n0), rfl⟩)

set_option maxRecDepth 65536 in
set_option maxHeartbeats 40000000 in
theorem rm1_2 (l : Launch) (Z : State) (a0 : Array Value) (hw : ∀ d ∈ tables_1, d.before a0 Z = true) (hA : ∀ d ∈ own_flat narrow_1, d.value a0 Z none Z [] = some true) (ws : List Jvm.Cond) (x1 : Addr) (h0 : Heap) (n0 : Nat) (O0 : Old Z n0 h0) (D0 : Fld Z Z.heap x1 "com/example/fieldnote/fieldnote/schema/FieldType" "keyword" "Ljava/lang/String;" (.ref (w23_keyword Z))) (D1 : x1 ≠ (w0_DOUBLE Z)) (D2 : x1 ≠ (w1_FLOAT Z)) (D3 : x1 ≠ (w14_BYTES Z)) :
    own_Met l Z (⟨"com/example/fieldnote/fieldnote/schema/FieldType", "isMapKey", "()Z"⟩ : MethodName) (Jvm.Cond.code (⟨"com/example/fieldnote/fieldnote/schema/FieldType", "isMapKey", "()Z"⟩ : MethodName) prog_7_method_6_code 1 (some .boolean)) ws ({ frames := 0, cells := 0, slots := 0, locals := 0 } : Room) #[(.ref x1)] h0 (fun v h L => (v = some (.int (1 : Int32)) ∧ Fr n0 L ∧ h = h0)) := by
  refine own_met (own := "com/example/fieldnote/fieldnote/schema/FieldType") (plainFor_of_name pn0) rfl ?_
  intro p e s m below meth c s₁ hx hby hml hown hnm hret hlk hZ e0 X0
  refine own_cast (g' := (mkF m 0 #[.val (.ref x1)] [])) (by first | (simp [entryFrame, mkF, argsToLocals, Value.category]; done) | rfl) ?_
  refine own_step (fun _ k => XS.aloadN X0.here hx rfl (hb hby d1_0) rfl rfl k) ?_
  show own_Wp p e below _ s₁ (mkF m 1 #[.val (.ref x1)] [(.ref x1)])
  obtain ⟨T1, X1, e1, st1⟩ := getF X0 hx hZ hown (host := "") (Or.inl (hw _ (List.mem_of_getElem? (i := 45) rfl))) Via.refl e0 (D0.ext O0.2) (g := (mkF m 1 #[.val (.ref x1)] [(.ref x1)])) rfl rfl (hb hby d1_1)
  refine own_step st1 ?_
  show own_Wp p e below _ T1 (mkF m 4 #[.val (.ref x1)] [(.ref (w23_keyword Z))])
  refine own_step (fun _ k => XS.ifnullNo X1.here hx rfl (hb hby d1_4) rfl k) ?_
  show own_Wp p e below _ T1 (mkF m 7 #[.val (.ref x1)] [])
  refine own_step (fun _ k => XS.aloadN X1.here hx rfl (hb hby d1_7) rfl rfl k) ?_
  show own_Wp p e below _ T1 (mkF m 8 #[.val (.ref x1)] [(.ref x1)])
  obtain ⟨T2, X2, e2, st2⟩ := getS2 X1 hx hZ hown (host := "") (Or.inl (hw _ (List.mem_of_getElem? (i := 47) rfl))) Via.refl e1 ((st_w0_DOUBLE hw hA).ext O0.2) (g := (mkF m 8 #[.val (.ref x1)] [(.ref x1)])) rfl (hb hby d1_8)
  refine own_step st2 ?_
  show own_Wp p e below _ T2 (mkF m 11 #[.val (.ref x1)] [(.ref (w0_DOUBLE Z)), (.ref x1)])
  refine own_step (fun _ k => Jvm.RoadKit.acmp (g := (mkF m 11 #[.val (.ref x1)] [(.ref (w0_DOUBLE Z)), (.ref x1)])) X2 hx rfl rfl rfl (pc0 := 11) (pc' := 14) (same := false) rfl (hb hby d1_11) rfl (decide_eq_false fun q => D1 (Value.ref.inj q)) (by decide) (by decide) k) ?_
  show own_Wp p e below _ T2 (mkF m 14 #[.val (.ref x1)] [])
  refine own_step (fun _ k => XS.aloadN X2.here hx rfl (hb hby d1_14) rfl rfl k) ?_
  show own_Wp p e below _ T2 (mkF m 15 #[.val (.ref x1)] [(.ref x1)])
  obtain ⟨T3, X3, e3, st3⟩ := getS2 X2 hx hZ hown (host := "") (Or.inl (hw _ (List.mem_of_getElem? (i := 48) rfl))) Via.refl e2 ((st_w1_FLOAT hw hA).ext O0.2) (g := (mkF m 15 #[.val (.ref x1)] [(.ref x1)])) rfl (hb hby d1_15)
  refine own_step st3 ?_
  show own_Wp p e below _ T3 (mkF m 18 #[.val (.ref x1)] [(.ref (w1_FLOAT Z)), (.ref x1)])
  refine own_step (fun _ k => Jvm.RoadKit.acmp (g := (mkF m 18 #[.val (.ref x1)] [(.ref (w1_FLOAT Z)), (.ref x1)])) X3 hx rfl rfl rfl (pc0 := 18) (pc' := 21) (same := false) rfl (hb hby d1_18) rfl (decide_eq_false fun q => D2 (Value.ref.inj q)) (by decide) (by decide) k) ?_
  show own_Wp p e below _ T3 (mkF m 21 #[.val (.ref x1)] [])
  refine own_step (fun _ k => XS.aloadN X3.here hx rfl (hb hby d1_21) rfl rfl k) ?_
  show own_Wp p e below _ T3 (mkF m 22 #[.val (.ref x1)] [(.ref x1)])
  obtain ⟨T4, X4, e4, st4⟩ := getS2 X3 hx hZ hown (host := "") (Or.inl (hw _ (List.mem_of_getElem? (i := 49) rfl))) Via.refl e3 ((st_w14_BYTES hw hA).ext O0.2) (g := (mkF m 22 #[.val (.ref x1)] [(.ref x1)])) rfl (hb hby d1_22)
  refine own_step st4 ?_
  show own_Wp p e below _ T4 (mkF m 25 #[.val (.ref x1)] [(.ref (w14_BYTES Z)), (.ref x1)])
  refine own_step (fun _ k => Jvm.RoadKit.acmp (g := (mkF m 25 #[.val (.ref x1)] [(.ref (w14_BYTES Z)), (.ref x1)])) X4 hx rfl rfl rfl (pc0 := 25) (pc' := 28) (same := false) rfl (hb hby d1_25) rfl (decide_eq_false fun q => D3 (Value.ref.inj q)) (by decide) (by decide) k) ?_
  show own_Wp p e below _ T4 (mkF m 28 #[.val (.ref x1)] [])
  refine own_step (fun _ k => XS.iconst X4.here hx rfl (hb hby d1_28) k) ?_
  show own_Wp p e below _ T4 (mkF m 29 #[.val (.ref x1)] [(.int (1 : Int32))])
  refine own_step (fun _ k => XS.goto X4.here hx rfl (pc0 := 29) (pc' := 33) rfl (hb hby d1_29) (by decide) (by decide) k) ?_
  show own_Wp p e below _ T4 (mkF m 33 #[.val (.ref x1)] [(.int (1 : Int32))])
  exact own_retN X4 hx (t := .boolean) hret (by simp) hlk (hb hby d1_33) (by decide) (by decide) (by rw [e4]; exact ⟨rfl, (Fr.nil n0), rfl⟩)

set_option maxRecDepth 65536 in
set_option maxHeartbeats 40000000 in
theorem rm1_3 (l : Launch) (Z : State) (a0 : Array Value) (hw : ∀ d ∈ tables_1, d.before a0 Z = true) (hA : ∀ d ∈ own_flat narrow_1, d.value a0 Z none Z [] = some true) (ws : List Jvm.Cond) (x1 : Addr) (h0 : Heap) (n0 : Nat) (O0 : Old Z n0 h0) (D0 : Fld Z Z.heap x1 "com/example/fieldnote/fieldnote/schema/FieldType" "keyword" "Ljava/lang/String;" (.ref (w18_keyword Z))) (D1 : x1 ≠ (w0_DOUBLE Z)) (D2 : x1 ≠ (w1_FLOAT Z)) (D3 : x1 ≠ (w14_BYTES Z)) :
    own_Met l Z (⟨"com/example/fieldnote/fieldnote/schema/FieldType", "isMapKey", "()Z"⟩ : MethodName) (Jvm.Cond.code (⟨"com/example/fieldnote/fieldnote/schema/FieldType", "isMapKey", "()Z"⟩ : MethodName) prog_7_method_6_code 1 (some .boolean)) ws ({ frames := 0, cells := 0, slots := 0, locals := 0 } : Room) #[(.ref x1)] h0 (fun v h L => (v = some (.int (1 : Int32)) ∧ Fr n0 L ∧ h = h0)) := by
  refine own_met (own := "com/example/fieldnote/fieldnote/schema/FieldType") (plainFor_of_name pn0) rfl ?_
  intro p e s m below meth c s₁ hx hby hml hown hnm hret hlk hZ e0 X0
  refine own_cast (g' := (mkF m 0 #[.val (.ref x1)] [])) (by first | (simp [entryFrame, mkF, argsToLocals, Value.category]; done) | rfl) ?_
  refine own_step (fun _ k => XS.aloadN X0.here hx rfl (hb hby d1_0) rfl rfl k) ?_
  show own_Wp p e below _ s₁ (mkF m 1 #[.val (.ref x1)] [(.ref x1)])
  obtain ⟨T1, X1, e1, st1⟩ := getF X0 hx hZ hown (host := "") (Or.inl (hw _ (List.mem_of_getElem? (i := 45) rfl))) Via.refl e0 (D0.ext O0.2) (g := (mkF m 1 #[.val (.ref x1)] [(.ref x1)])) rfl rfl (hb hby d1_1)
  refine own_step st1 ?_
  show own_Wp p e below _ T1 (mkF m 4 #[.val (.ref x1)] [(.ref (w18_keyword Z))])
  refine own_step (fun _ k => XS.ifnullNo X1.here hx rfl (hb hby d1_4) rfl k) ?_
  show own_Wp p e below _ T1 (mkF m 7 #[.val (.ref x1)] [])
  refine own_step (fun _ k => XS.aloadN X1.here hx rfl (hb hby d1_7) rfl rfl k) ?_
  show own_Wp p e below _ T1 (mkF m 8 #[.val (.ref x1)] [(.ref x1)])
  obtain ⟨T2, X2, e2, st2⟩ := getS2 X1 hx hZ hown (host := "") (Or.inl (hw _ (List.mem_of_getElem? (i := 47) rfl))) Via.refl e1 ((st_w0_DOUBLE hw hA).ext O0.2) (g := (mkF m 8 #[.val (.ref x1)] [(.ref x1)])) rfl (hb hby d1_8)
  refine own_step st2 ?_
  show own_Wp p e below _ T2 (mkF m 11 #[.val (.ref x1)] [(.ref (w0_DOUBLE Z)), (.ref x1)])
  refine own_step (fun _ k => Jvm.RoadKit.acmp (g := (mkF m 11 #[.val (.ref x1)] [(.ref (w0_DOUBLE Z)), (.ref x1)])) X2 hx rfl rfl rfl (pc0 := 11) (pc' := 14) (same := false) rfl (hb hby d1_11) rfl (decide_eq_false fun q => D1 (Value.ref.inj q)) (by decide) (by decide) k) ?_
  show own_Wp p e below _ T2 (mkF m 14 #[.val (.ref x1)] [])
  refine own_step (fun _ k => XS.aloadN X2.here hx rfl (hb hby d1_14) rfl rfl k) ?_
  show own_Wp p e below _ T2 (mkF m 15 #[.val (.ref x1)] [(.ref x1)])
  obtain ⟨T3, X3, e3, st3⟩ := getS2 X2 hx hZ hown (host := "") (Or.inl (hw _ (List.mem_of_getElem? (i := 48) rfl))) Via.refl e2 ((st_w1_FLOAT hw hA).ext O0.2) (g := (mkF m 15 #[.val (.ref x1)] [(.ref x1)])) rfl (hb hby d1_15)
  refine own_step st3 ?_
  show own_Wp p e below _ T3 (mkF m 18 #[.val (.ref x1)] [(.ref (w1_FLOAT Z)), (.ref x1)])
  refine own_step (fun _ k => Jvm.RoadKit.acmp (g := (mkF m 18 #[.val (.ref x1)] [(.ref (w1_FLOAT Z)), (.ref x1)])) X3 hx rfl rfl rfl (pc0 := 18) (pc' := 21) (same := false) rfl (hb hby d1_18) rfl (decide_eq_false fun q => D2 (Value.ref.inj q)) (by decide) (by decide) k) ?_
  show own_Wp p e below _ T3 (mkF m 21 #[.val (.ref x1)] [])
  refine own_step (fun _ k => XS.aloadN X3.here hx rfl (hb hby d1_21) rfl rfl k) ?_
  show own_Wp p e below _ T3 (mkF m 22 #[.val (.ref x1)] [(.ref x1)])
  obtain ⟨T4, X4, e4, st4⟩ := getS2 X3 hx hZ hown (host := "") (Or.inl (hw _ (List.mem_of_getElem? (i := 49) rfl))) Via.refl e3 ((st_w14_BYTES hw hA).ext O0.2) (g := (mkF m 22 #[.val (.ref x1)] [(.ref x1)])) rfl (hb hby d1_22)
  refine own_step st4 ?_
  show own_Wp p e below _ T4 (mkF m 25 #[.val (.ref x1)] [(.ref (w14_BYTES Z)), (.ref x1)])
  refine own_step (fun _ k => Jvm.RoadKit.acmp (g := (mkF m 25 #[.val (.ref x1)] [(.ref (w14_BYTES Z)), (.ref x1)])) X4 hx rfl rfl rfl (pc0 := 25) (pc' := 28) (same := false) rfl (hb hby d1_25) rfl (decide_eq_false fun q => D3 (Value.ref.inj q)) (by decide) (by decide) k) ?_
  show own_Wp p e below _ T4 (mkF m 28 #[.val (.ref x1)] [])
  refine own_step (fun _ k => XS.iconst X4.here hx rfl (hb hby d1_28) k) ?_
  show own_Wp p e below _ T4 (mkF m 29 #[.val (.ref x1)] [(.int (1 : Int32))])
  refine own_step (fun _ k => XS.goto X4.here hx rfl (pc0 := 29) (pc' := 33) rfl (hb hby d1_29) (by decide) (by decide) k) ?_
  show own_Wp p e below _ T4 (mkF m 33 #[.val (.ref x1)] [(.int (1 : Int32))])
  exact own_retN X4 hx (t := .boolean) hret (by simp) hlk (hb hby d1_33) (by decide) (by decide) (by rw [e4]; exact ⟨rfl, (Fr.nil n0), rfl⟩)

set_option maxRecDepth 65536 in
set_option maxHeartbeats 40000000 in
theorem rm1_4 (l : Launch) (Z : State) (a0 : Array Value) (hw : ∀ d ∈ tables_1, d.before a0 Z = true) (hA : ∀ d ∈ own_flat narrow_1, d.value a0 Z none Z [] = some true) (ws : List Jvm.Cond) (x1 : Addr) (h0 : Heap) (n0 : Nat) (O0 : Old Z n0 h0) (D0 : Fld Z Z.heap x1 "com/example/fieldnote/fieldnote/schema/FieldType" "keyword" "Ljava/lang/String;" (.ref (w27_keyword Z))) (D1 : x1 ≠ (w0_DOUBLE Z)) (D2 : x1 ≠ (w1_FLOAT Z)) (D3 : x1 ≠ (w14_BYTES Z)) :
    own_Met l Z (⟨"com/example/fieldnote/fieldnote/schema/FieldType", "isMapKey", "()Z"⟩ : MethodName) (Jvm.Cond.code (⟨"com/example/fieldnote/fieldnote/schema/FieldType", "isMapKey", "()Z"⟩ : MethodName) prog_7_method_6_code 1 (some .boolean)) ws ({ frames := 0, cells := 0, slots := 0, locals := 0 } : Room) #[(.ref x1)] h0 (fun v h L => (v = some (.int (1 : Int32)) ∧ Fr n0 L ∧ h = h0)) := by
  refine own_met (own := "com/example/fieldnote/fieldnote/schema/FieldType") (plainFor_of_name pn0) rfl ?_
  intro p e s m below meth c s₁ hx hby hml hown hnm hret hlk hZ e0 X0
  refine own_cast (g' := (mkF m 0 #[.val (.ref x1)] [])) (by first | (simp [entryFrame, mkF, argsToLocals, Value.category]; done) | rfl) ?_
  refine own_step (fun _ k => XS.aloadN X0.here hx rfl (hb hby d1_0) rfl rfl k) ?_
  show own_Wp p e below _ s₁ (mkF m 1 #[.val (.ref x1)] [(.ref x1)])
  obtain ⟨T1, X1, e1, st1⟩ := getF X0 hx hZ hown (host := "") (Or.inl (hw _ (List.mem_of_getElem? (i := 45) rfl))) Via.refl e0 (D0.ext O0.2) (g := (mkF m 1 #[.val (.ref x1)] [(.ref x1)])) rfl rfl (hb hby d1_1)
  refine own_step st1 ?_
  show own_Wp p e below _ T1 (mkF m 4 #[.val (.ref x1)] [(.ref (w27_keyword Z))])
  refine own_step (fun _ k => XS.ifnullNo X1.here hx rfl (hb hby d1_4) rfl k) ?_
  show own_Wp p e below _ T1 (mkF m 7 #[.val (.ref x1)] [])
  refine own_step (fun _ k => XS.aloadN X1.here hx rfl (hb hby d1_7) rfl rfl k) ?_
  show own_Wp p e below _ T1 (mkF m 8 #[.val (.ref x1)] [(.ref x1)])
  obtain ⟨T2, X2, e2, st2⟩ := getS2 X1 hx hZ hown (host := "") (Or.inl (hw _ (List.mem_of_getElem? (i := 47) rfl))) Via.refl e1 ((st_w0_DOUBLE hw hA).ext O0.2) (g := (mkF m 8 #[.val (.ref x1)] [(.ref x1)])) rfl (hb hby d1_8)
  refine own_step st2 ?_
  show own_Wp p e below _ T2 (mkF m 11 #[.val (.ref x1)] [(.ref (w0_DOUBLE Z)), (.ref x1)])
  refine own_step (fun _ k => Jvm.RoadKit.acmp (g := (mkF m 11 #[.val (.ref x1)] [(.ref (w0_DOUBLE Z)), (.ref x1)])) X2 hx rfl rfl rfl (pc0 := 11) (pc' := 14) (same := false) rfl (hb hby d1_11) rfl (decide_eq_false fun q => D1 (Value.ref.inj q)) (by decide) (by decide) k) ?_
  show own_Wp p e below _ T2 (mkF m 14 #[.val (.ref x1)] [])
  refine own_step (fun _ k => XS.aloadN X2.here hx rfl (hb hby d1_14) rfl rfl k) ?_
  show own_Wp p e below _ T2 (mkF m 15 #[.val (.ref x1)] [(.ref x1)])
  obtain ⟨T3, X3, e3, st3⟩ := getS2 X2 hx hZ hown (host := "") (Or.inl (hw _ (List.mem_of_getElem? (i := 48) rfl))) Via.refl e2 ((st_w1_FLOAT hw hA).ext O0.2) (g := (mkF m 15 #[.val (.ref x1)] [(.ref x1)])) rfl (hb hby d1_15)
  refine own_step st3 ?_
  show own_Wp p e below _ T3 (mkF m 18 #[.val (.ref x1)] [(.ref (w1_FLOAT Z)), (.ref x1)])
  refine own_step (fun _ k => Jvm.RoadKit.acmp (g := (mkF m 18 #[.val (.ref x1)] [(.ref (w1_FLOAT Z)), (.ref x1)])) X3 hx rfl rfl rfl (pc0 := 18) (pc' := 21) (same := false) rfl (hb hby d1_18) rfl (decide_eq_false fun q => D2 (Value.ref.inj q)) (by decide) (by decide) k) ?_
  show own_Wp p e below _ T3 (mkF m 21 #[.val (.ref x1)] [])
  refine own_step (fun _ k => XS.aloadN X3.here hx rfl (hb hby d1_21) rfl rfl k) ?_
  show own_Wp p e below _ T3 (mkF m 22 #[.val (.ref x1)] [(.ref x1)])
  obtain ⟨T4, X4, e4, st4⟩ := getS2 X3 hx hZ hown (host := "") (Or.inl (hw _ (List.mem_of_getElem? (i := 49) rfl))) Via.refl e3 ((st_w14_BYTES hw hA).ext O0.2) (g := (mkF m 22 #[.val (.ref x1)] [(.ref x1)])) rfl (hb hby d1_22)
  refine own_step st4 ?_
  show own_Wp p e below _ T4 (mkF m 25 #[.val (.ref x1)] [(.ref (w14_BYTES Z)), (.ref x1)])
  refine own_step (fun _ k => Jvm.RoadKit.acmp (g := (mkF m 25 #[.val (.ref x1)] [(.ref (w14_BYTES Z)), (.ref x1)])) X4 hx rfl rfl rfl (pc0 := 25) (pc' := 28) (same := false) rfl (hb hby d1_25) rfl (decide_eq_false fun q => D3 (Value.ref.inj q)) (by decide) (by decide) k) ?_
  show own_Wp p e below _ T4 (mkF m 28 #[.val (.ref x1)] [])
  refine own_step (fun _ k => XS.iconst X4.here hx rfl (hb hby d1_28) k) ?_
  show own_Wp p e below _ T4 (mkF m 29 #[.val (.ref x1)] [(.int (1 : Int32))])
  refine own_step (fun _ k => XS.goto X4.here hx rfl (pc0 := 29) (pc' := 33) rfl (hb hby d1_29) (by decide) (by decide) k) ?_
  show own_Wp p e below _ T4 (mkF m 33 #[.val (.ref x1)] [(.int (1 : Int32))])
  exact own_retN X4 hx (t := .boolean) hret (by simp) hlk (hb hby d1_33) (by decide) (by decide) (by rw [e4]; exact ⟨rfl, (Fr.nil n0), rfl⟩)

set_option maxRecDepth 65536 in
set_option maxHeartbeats 40000000 in
theorem rm1_5 (l : Launch) (Z : State) (a0 : Array Value) (hw : ∀ d ∈ tables_1, d.before a0 Z = true) (hA : ∀ d ∈ own_flat narrow_1, d.value a0 Z none Z [] = some true) (ws : List Jvm.Cond) (x1 : Addr) (h0 : Heap) (n0 : Nat) (O0 : Old Z n0 h0) (D0 : Fld Z Z.heap x1 "com/example/fieldnote/fieldnote/schema/FieldType" "keyword" "Ljava/lang/String;" (.ref (w29_keyword Z))) (D1 : x1 ≠ (w0_DOUBLE Z)) (D2 : x1 ≠ (w1_FLOAT Z)) (D3 : x1 ≠ (w14_BYTES Z)) :
    own_Met l Z (⟨"com/example/fieldnote/fieldnote/schema/FieldType", "isMapKey", "()Z"⟩ : MethodName) (Jvm.Cond.code (⟨"com/example/fieldnote/fieldnote/schema/FieldType", "isMapKey", "()Z"⟩ : MethodName) prog_7_method_6_code 1 (some .boolean)) ws ({ frames := 0, cells := 0, slots := 0, locals := 0 } : Room) #[(.ref x1)] h0 (fun v h L => (v = some (.int (1 : Int32)) ∧ Fr n0 L ∧ h = h0)) := by
  refine own_met (own := "com/example/fieldnote/fieldnote/schema/FieldType") (plainFor_of_name pn0) rfl ?_
  intro p e s m below meth c s₁ hx hby hml hown hnm hret hlk hZ e0 X0
  refine own_cast (g' := (mkF m 0 #[.val (.ref x1)] [])) (by first | (simp [entryFrame, mkF, argsToLocals, Value.category]; done) | rfl) ?_
  refine own_step (fun _ k => XS.aloadN X0.here hx rfl (hb hby d1_0) rfl rfl k) ?_
  show own_Wp p e below _ s₁ (mkF m 1 #[.val (.ref x1)] [(.ref x1)])
  obtain ⟨T1, X1, e1, st1⟩ := getF X0 hx hZ hown (host := "") (Or.inl (hw _ (List.mem_of_getElem? (i := 45) rfl))) Via.refl e0 (D0.ext O0.2) (g := (mkF m 1 #[.val (.ref x1)] [(.ref x1)])) rfl rfl (hb hby d1_1)
  refine own_step st1 ?_
  show own_Wp p e below _ T1 (mkF m 4 #[.val (.ref x1)] [(.ref (w29_keyword Z))])
  refine own_step (fun _ k => XS.ifnullNo X1.here hx rfl (hb hby d1_4) rfl k) ?_
  show own_Wp p e below _ T1 (mkF m 7 #[.val (.ref x1)] [])
  refine own_step (fun _ k => XS.aloadN X1.here hx rfl (hb hby d1_7) rfl rfl k) ?_
  show own_Wp p e below _ T1 (mkF m 8 #[.val (.ref x1)] [(.ref x1)])
  obtain ⟨T2, X2, e2, st2⟩ := getS2 X1 hx hZ hown (host := "") (Or.inl (hw _ (List.mem_of_getElem? (i := 47) rfl))) Via.refl e1 ((st_w0_DOUBLE hw hA).ext O0.2) (g := (mkF m 8 #[.val (.ref x1)] [(.ref x1)])) rfl (hb hby d1_8)
  refine own_step st2 ?_
  show own_Wp p e below _ T2 (mkF m 11 #[.val (.ref x1)] [(.ref (w0_DOUBLE Z)), (.ref x1)])
  refine own_step (fun _ k => Jvm.RoadKit.acmp (g := (mkF m 11 #[.val (.ref x1)] [(.ref (w0_DOUBLE Z)), (.ref x1)])) X2 hx rfl rfl rfl (pc0 := 11) (pc' := 14) (same := false) rfl (hb hby d1_11) rfl (decide_eq_false fun q => D1 (Value.ref.inj q)) (by decide) (by decide) k) ?_
  show own_Wp p e below _ T2 (mkF m 14 #[.val (.ref x1)] [])
  refine own_step (fun _ k => XS.aloadN X2.here hx rfl (hb hby d1_14) rfl rfl k) ?_
  show own_Wp p e below _ T2 (mkF m 15 #[.val (.ref x1)] [(.ref x1)])
  obtain ⟨T3, X3, e3, st3⟩ := getS2 X2 hx hZ hown (host := "") (Or.inl (hw _ (List.mem_of_getElem? (i := 48) rfl))) Via.refl e2 ((st_w1_FLOAT hw hA).ext O0.2) (g := (mkF m 15 #[.val (.ref x1)] [(.ref x1)])) rfl (hb hby d1_15)
  refine own_step st3 ?_
  show own_Wp p e below _ T3 (mkF m 18 #[.val (.ref x1)] [(.ref (w1_FLOAT Z)), (.ref x1)])
  refine own_step (fun _ k => Jvm.RoadKit.acmp (g := (mkF m 18 #[.val (.ref x1)] [(.ref (w1_FLOAT Z)), (.ref x1)])) X3 hx rfl rfl rfl (pc0 := 18) (pc' := 21) (same := false) rfl (hb hby d1_18) rfl (decide_eq_false fun q => D2 (Value.ref.inj q)) (by decide) (by decide) k) ?_
  show own_Wp p e below _ T3 (mkF m 21 #[.val (.ref x1)] [])
  refine own_step (fun _ k => XS.aloadN X3.here hx rfl (hb hby d1_21) rfl rfl k) ?_
  show own_Wp p e below _ T3 (mkF m 22 #[.val (.ref x1)] [(.ref x1)])
  obtain ⟨T4, X4, e4, st4⟩ := getS2 X3 hx hZ hown (host := "") (Or.inl (hw _ (List.mem_of_getElem? (i := 49) rfl))) Via.refl e3 ((st_w14_BYTES hw hA).ext O0.2) (g := (mkF m 22 #[.val (.ref x1)] [(.ref x1)])) rfl (hb hby d1_22)
  refine own_step st4 ?_
  show own_Wp p e below _ T4 (mkF m 25 #[.val (.ref x1)] [(.ref (w14_BYTES Z)), (.ref x1)])
  refine own_step (fun _ k => Jvm.RoadKit.acmp (g := (mkF m 25 #[.val (.ref x1)] [(.ref (w14_BYTES Z)), (.ref x1)])) X4 hx rfl rfl rfl (pc0 := 25) (pc' := 28) (same := false) rfl (hb hby d1_25) rfl (decide_eq_false fun q => D3 (Value.ref.inj q)) (by decide) (by decide) k) ?_
  show own_Wp p e below _ T4 (mkF m 28 #[.val (.ref x1)] [])
  refine own_step (fun _ k => XS.iconst X4.here hx rfl (hb hby d1_28) k) ?_
  show own_Wp p e below _ T4 (mkF m 29 #[.val (.ref x1)] [(.int (1 : Int32))])
  refine own_step (fun _ k => XS.goto X4.here hx rfl (pc0 := 29) (pc' := 33) rfl (hb hby d1_29) (by decide) (by decide) k) ?_
  show own_Wp p e below _ T4 (mkF m 33 #[.val (.ref x1)] [(.int (1 : Int32))])
  exact own_retN X4 hx (t := .boolean) hret (by simp) hlk (hb hby d1_33) (by decide) (by decide) (by rw [e4]; exact ⟨rfl, (Fr.nil n0), rfl⟩)

set_option maxRecDepth 65536 in
set_option maxHeartbeats 40000000 in
theorem rm1_6 (l : Launch) (Z : State) (a0 : Array Value) (hw : ∀ d ∈ tables_1, d.before a0 Z = true) (hA : ∀ d ∈ own_flat narrow_1, d.value a0 Z none Z [] = some true) (ws : List Jvm.Cond) (x1 : Addr) (h0 : Heap) (n0 : Nat) (O0 : Old Z n0 h0) (D0 : Fld Z Z.heap x1 "com/example/fieldnote/fieldnote/schema/FieldType" "keyword" "Ljava/lang/String;" (.ref (w21_keyword Z))) (D1 : x1 ≠ (w0_DOUBLE Z)) (D2 : x1 ≠ (w1_FLOAT Z)) (D3 : x1 ≠ (w14_BYTES Z)) :
    own_Met l Z (⟨"com/example/fieldnote/fieldnote/schema/FieldType", "isMapKey", "()Z"⟩ : MethodName) (Jvm.Cond.code (⟨"com/example/fieldnote/fieldnote/schema/FieldType", "isMapKey", "()Z"⟩ : MethodName) prog_7_method_6_code 1 (some .boolean)) ws ({ frames := 0, cells := 0, slots := 0, locals := 0 } : Room) #[(.ref x1)] h0 (fun v h L => (v = some (.int (1 : Int32)) ∧ Fr n0 L ∧ h = h0)) := by
  refine own_met (own := "com/example/fieldnote/fieldnote/schema/FieldType") (plainFor_of_name pn0) rfl ?_
  intro p e s m below meth c s₁ hx hby hml hown hnm hret hlk hZ e0 X0
  refine own_cast (g' := (mkF m 0 #[.val (.ref x1)] [])) (by first | (simp [entryFrame, mkF, argsToLocals, Value.category]; done) | rfl) ?_
  refine own_step (fun _ k => XS.aloadN X0.here hx rfl (hb hby d1_0) rfl rfl k) ?_
  show own_Wp p e below _ s₁ (mkF m 1 #[.val (.ref x1)] [(.ref x1)])
  obtain ⟨T1, X1, e1, st1⟩ := getF X0 hx hZ hown (host := "") (Or.inl (hw _ (List.mem_of_getElem? (i := 45) rfl))) Via.refl e0 (D0.ext O0.2) (g := (mkF m 1 #[.val (.ref x1)] [(.ref x1)])) rfl rfl (hb hby d1_1)
  refine own_step st1 ?_
  show own_Wp p e below _ T1 (mkF m 4 #[.val (.ref x1)] [(.ref (w21_keyword Z))])
  refine own_step (fun _ k => XS.ifnullNo X1.here hx rfl (hb hby d1_4) rfl k) ?_
  show own_Wp p e below _ T1 (mkF m 7 #[.val (.ref x1)] [])
  refine own_step (fun _ k => XS.aloadN X1.here hx rfl (hb hby d1_7) rfl rfl k) ?_
  show own_Wp p e below _ T1 (mkF m 8 #[.val (.ref x1)] [(.ref x1)])
  obtain ⟨T2, X2, e2, st2⟩ := getS2 X1 hx hZ hown (host := "") (Or.inl (hw _ (List.mem_of_getElem? (i := 47) rfl))) Via.refl e1 ((st_w0_DOUBLE hw hA).ext O0.2) (g := (mkF m 8 #[.val (.ref x1)] [(.ref x1)])) rfl (hb hby d1_8)
  refine own_step st2 ?_
  show own_Wp p e below _ T2 (mkF m 11 #[.val (.ref x1)] [(.ref (w0_DOUBLE Z)), (.ref x1)])
  refine own_step (fun _ k => Jvm.RoadKit.acmp (g := (mkF m 11 #[.val (.ref x1)] [(.ref (w0_DOUBLE Z)), (.ref x1)])) X2 hx rfl rfl rfl (pc0 := 11) (pc' := 14) (same := false) rfl (hb hby d1_11) rfl (decide_eq_false fun q => D1 (Value.ref.inj q)) (by decide) (by decide) k) ?_
  show own_Wp p e below _ T2 (mkF m 14 #[.val (.ref x1)] [])
  refine own_step (fun _ k => XS.aloadN X2.here hx rfl (hb hby d1_14) rfl rfl k) ?_
  show own_Wp p e below _ T2 (mkF m 15 #[.val (.ref x1)] [(.ref x1)])
  obtain ⟨T3, X3, e3, st3⟩ := getS2 X2 hx hZ hown (host := "") (Or.inl (hw _ (List.mem_of_getElem? (i := 48) rfl))) Via.refl e2 ((st_w1_FLOAT hw hA).ext O0.2) (g := (mkF m 15 #[.val (.ref x1)] [(.ref x1)])) rfl (hb hby d1_15)
  refine own_step st3 ?_
  show own_Wp p e below _ T3 (mkF m 18 #[.val (.ref x1)] [(.ref (w1_FLOAT Z)), (.ref x1)])
  refine own_step (fun _ k => Jvm.RoadKit.acmp (g := (mkF m 18 #[.val (.ref x1)] [(.ref (w1_FLOAT Z)), (.ref x1)])) X3 hx rfl rfl rfl (pc0 := 18) (pc' := 21) (same := false) rfl (hb hby d1_18) rfl (decide_eq_false fun q => D2 (Value.ref.inj q)) (by decide) (by decide) k) ?_
  show own_Wp p e below _ T3 (mkF m 21 #[.val (.ref x1)] [])
  refine own_step (fun _ k => XS.aloadN X3.here hx rfl (hb hby d1_21) rfl rfl k) ?_
  show own_Wp p e below _ T3 (mkF m 22 #[.val (.ref x1)] [(.ref x1)])
  obtain ⟨T4, X4, e4, st4⟩ := getS2 X3 hx hZ hown (host := "") (Or.inl (hw _ (List.mem_of_getElem? (i := 49) rfl))) Via.refl e3 ((st_w14_BYTES hw hA).ext O0.2) (g := (mkF m 22 #[.val (.ref x1)] [(.ref x1)])) rfl (hb hby d1_22)
  refine own_step st4 ?_
  show own_Wp p e below _ T4 (mkF m 25 #[.val (.ref x1)] [(.ref (w14_BYTES Z)), (.ref x1)])
  refine own_step (fun _ k => Jvm.RoadKit.acmp (g := (mkF m 25 #[.val (.ref x1)] [(.ref (w14_BYTES Z)), (.ref x1)])) X4 hx rfl rfl rfl (pc0 := 25) (pc' := 28) (same := false) rfl (hb hby d1_25) rfl (decide_eq_false fun q => D3 (Value.ref.inj q)) (by decide) (by decide) k) ?_
  show own_Wp p e below _ T4 (mkF m 28 #[.val (.ref x1)] [])
  refine own_step (fun _ k => XS.iconst X4.here hx rfl (hb hby d1_28) k) ?_
  show own_Wp p e below _ T4 (mkF m 29 #[.val (.ref x1)] [(.int (1 : Int32))])
  refine own_step (fun _ k => XS.goto X4.here hx rfl (pc0 := 29) (pc' := 33) rfl (hb hby d1_29) (by decide) (by decide) k) ?_
  show own_Wp p e below _ T4 (mkF m 33 #[.val (.ref x1)] [(.int (1 : Int32))])
  exact own_retN X4 hx (t := .boolean) hret (by simp) hlk (hb hby d1_33) (by decide) (by decide) (by rw [e4]; exact ⟨rfl, (Fr.nil n0), rfl⟩)

set_option maxRecDepth 65536 in
set_option maxHeartbeats 40000000 in
theorem rm1_7 (l : Launch) (Z : State) (a0 : Array Value) (hw : ∀ d ∈ tables_1, d.before a0 Z = true) (hA : ∀ d ∈ own_flat narrow_1, d.value a0 Z none Z [] = some true) (ws : List Jvm.Cond) (x1 : Addr) (h0 : Heap) (n0 : Nat) (O0 : Old Z n0 h0) (D0 : Fld Z Z.heap x1 "com/example/fieldnote/fieldnote/schema/FieldType" "keyword" "Ljava/lang/String;" (.ref (w22_keyword Z))) (D1 : x1 ≠ (w0_DOUBLE Z)) (D2 : x1 ≠ (w1_FLOAT Z)) (D3 : x1 ≠ (w14_BYTES Z)) :
    own_Met l Z (⟨"com/example/fieldnote/fieldnote/schema/FieldType", "isMapKey", "()Z"⟩ : MethodName) (Jvm.Cond.code (⟨"com/example/fieldnote/fieldnote/schema/FieldType", "isMapKey", "()Z"⟩ : MethodName) prog_7_method_6_code 1 (some .boolean)) ws ({ frames := 0, cells := 0, slots := 0, locals := 0 } : Room) #[(.ref x1)] h0 (fun v h L => (v = some (.int (1 : Int32)) ∧ Fr n0 L ∧ h = h0)) := by
  refine own_met (own := "com/example/fieldnote/fieldnote/schema/FieldType") (plainFor_of_name pn0) rfl ?_
  intro p e s m below meth c s₁ hx hby hml hown hnm hret hlk hZ e0 X0
  refine own_cast (g' := (mkF m 0 #[.val (.ref x1)] [])) (by first | (simp [entryFrame, mkF, argsToLocals, Value.category]; done) | rfl) ?_
  refine own_step (fun _ k => XS.aloadN X0.here hx rfl (hb hby d1_0) rfl rfl k) ?_
  show own_Wp p e below _ s₁ (mkF m 1 #[.val (.ref x1)] [(.ref x1)])
  obtain ⟨T1, X1, e1, st1⟩ := getF X0 hx hZ hown (host := "") (Or.inl (hw _ (List.mem_of_getElem? (i := 45) rfl))) Via.refl e0 (D0.ext O0.2) (g := (mkF m 1 #[.val (.ref x1)] [(.ref x1)])) rfl rfl (hb hby d1_1)
  refine own_step st1 ?_
  show own_Wp p e below _ T1 (mkF m 4 #[.val (.ref x1)] [(.ref (w22_keyword Z))])
  refine own_step (fun _ k => XS.ifnullNo X1.here hx rfl (hb hby d1_4) rfl k) ?_
  show own_Wp p e below _ T1 (mkF m 7 #[.val (.ref x1)] [])
  refine own_step (fun _ k => XS.aloadN X1.here hx rfl (hb hby d1_7) rfl rfl k) ?_
  show own_Wp p e below _ T1 (mkF m 8 #[.val (.ref x1)] [(.ref x1)])
  obtain ⟨T2, X2, e2, st2⟩ := getS2 X1 hx hZ hown (host := "") (Or.inl (hw _ (List.mem_of_getElem? (i := 47) rfl))) Via.refl e1 ((st_w0_DOUBLE hw hA).ext O0.2) (g := (mkF m 8 #[.val (.ref x1)] [(.ref x1)])) rfl (hb hby d1_8)
  refine own_step st2 ?_
  show own_Wp p e below _ T2 (mkF m 11 #[.val (.ref x1)] [(.ref (w0_DOUBLE Z)), (.ref x1)])
  refine own_step (fun _ k => Jvm.RoadKit.acmp (g := (mkF m 11 #[.val (.ref x1)] [(.ref (w0_DOUBLE Z)), (.ref x1)])) X2 hx rfl rfl rfl (pc0 := 11) (pc' := 14) (same := false) rfl (hb hby d1_11) rfl (decide_eq_false fun q => D1 (Value.ref.inj q)) (by decide) (by decide) k) ?_
  show own_Wp p e below _ T2 (mkF m 14 #[.val (.ref x1)] [])
  refine own_step (fun _ k => XS.aloadN X2.here hx rfl (hb hby d1_14) rfl rfl k) ?_
  show own_Wp p e below _ T2 (mkF m 15 #[.val (.ref x1)] [(.ref x1)])
  obtain ⟨T3, X3, e3, st3⟩ := getS2 X2 hx hZ hown (host := "") (Or.inl (hw _ (List.mem_of_getElem? (i := 48) rfl))) Via.refl e2 ((st_w1_FLOAT hw hA).ext O0.2) (g := (mkF m 15 #[.val (.ref x1)] [(.ref x1)])) rfl (hb hby d1_15)
  refine own_step st3 ?_
  show own_Wp p e below _ T3 (mkF m 18 #[.val (.ref x1)] [(.ref (w1_FLOAT Z)), (.ref x1)])
  refine own_step (fun _ k => Jvm.RoadKit.acmp (g := (mkF m 18 #[.val (.ref x1)] [(.ref (w1_FLOAT Z)), (.ref x1)])) X3 hx rfl rfl rfl (pc0 := 18) (pc' := 21) (same := false) rfl (hb hby d1_18) rfl (decide_eq_false fun q => D2 (Value.ref.inj q)) (by decide) (by decide) k) ?_
  show own_Wp p e below _ T3 (mkF m 21 #[.val (.ref x1)] [])
  refine own_step (fun _ k => XS.aloadN X3.here hx rfl (hb hby d1_21) rfl rfl k) ?_
  show own_Wp p e below _ T3 (mkF m 22 #[.val (.ref x1)] [(.ref x1)])
  obtain ⟨T4, X4, e4, st4⟩ := getS2 X3 hx hZ hown (host := "") (Or.inl (hw _ (List.mem_of_getElem? (i := 49) rfl))) Via.refl e3 ((st_w14_BYTES hw hA).ext O0.2) (g := (mkF m 22 #[.val (.ref x1)] [(.ref x1)])) rfl (hb hby d1_22)
  refine own_step st4 ?_
  show own_Wp p e below _ T4 (mkF m 25 #[.val (.ref x1)] [(.ref (w14_BYTES Z)), (.ref x1)])
  refine own_step (fun _ k => Jvm.RoadKit.acmp (g := (mkF m 25 #[.val (.ref x1)] [(.ref (w14_BYTES Z)), (.ref x1)])) X4 hx rfl rfl rfl (pc0 := 25) (pc' := 28) (same := false) rfl (hb hby d1_25) rfl (decide_eq_false fun q => D3 (Value.ref.inj q)) (by decide) (by decide) k) ?_
  show own_Wp p e below _ T4 (mkF m 28 #[.val (.ref x1)] [])
  refine own_step (fun _ k => XS.iconst X4.here hx rfl (hb hby d1_28) k) ?_
  show own_Wp p e below _ T4 (mkF m 29 #[.val (.ref x1)] [(.int (1 : Int32))])
  refine own_step (fun _ k => XS.goto X4.here hx rfl (pc0 := 29) (pc' := 33) rfl (hb hby d1_29) (by decide) (by decide) k) ?_
  show own_Wp p e below _ T4 (mkF m 33 #[.val (.ref x1)] [(.int (1 : Int32))])
  exact own_retN X4 hx (t := .boolean) hret (by simp) hlk (hb hby d1_33) (by decide) (by decide) (by rw [e4]; exact ⟨rfl, (Fr.nil n0), rfl⟩)

set_option maxRecDepth 65536 in
set_option maxHeartbeats 40000000 in
theorem rm1_8 (l : Launch) (Z : State) (a0 : Array Value) (hw : ∀ d ∈ tables_1, d.before a0 Z = true) (hA : ∀ d ∈ own_flat narrow_1, d.value a0 Z none Z [] = some true) (ws : List Jvm.Cond) (x1 : Addr) (h0 : Heap) (n0 : Nat) (O0 : Old Z n0 h0) (D0 : Fld Z Z.heap x1 "com/example/fieldnote/fieldnote/schema/FieldType" "keyword" "Ljava/lang/String;" (.ref (w19_keyword Z))) (D1 : x1 ≠ (w0_DOUBLE Z)) (D2 : x1 ≠ (w1_FLOAT Z)) (D3 : x1 ≠ (w14_BYTES Z)) :
    own_Met l Z (⟨"com/example/fieldnote/fieldnote/schema/FieldType", "isMapKey", "()Z"⟩ : MethodName) (Jvm.Cond.code (⟨"com/example/fieldnote/fieldnote/schema/FieldType", "isMapKey", "()Z"⟩ : MethodName) prog_7_method_6_code 1 (some .boolean)) ws ({ frames := 0, cells := 0, slots := 0, locals := 0 } : Room) #[(.ref x1)] h0 (fun v h L => (v = some (.int (1 : Int32)) ∧ Fr n0 L ∧ h = h0)) := by
  refine own_met (own := "com/example/fieldnote/fieldnote/schema/FieldType") (plainFor_of_name pn0) rfl ?_
  intro p e s m below meth c s₁ hx hby hml hown hnm hret hlk hZ e0 X0
  refine own_cast (g' := (mkF m 0 #[.val (.ref x1)] [])) (by first | (simp [entryFrame, mkF, argsToLocals, Value.category]; done) | rfl) ?_
  refine own_step (fun _ k => XS.aloadN X0.here hx rfl (hb hby d1_0) rfl rfl k) ?_
  show own_Wp p e below _ s₁ (mkF m 1 #[.val (.ref x1)] [(.ref x1)])
  obtain ⟨T1, X1, e1, st1⟩ := getF X0 hx hZ hown (host := "") (Or.inl (hw _ (List.mem_of_getElem? (i := 45) rfl))) Via.refl e0 (D0.ext O0.2) (g := (mkF m 1 #[.val (.ref x1)] [(.ref x1)])) rfl rfl (hb hby d1_1)
  refine own_step st1 ?_
  show own_Wp p e below _ T1 (mkF m 4 #[.val (.ref x1)] [(.ref (w19_keyword Z))])
  refine own_step (fun _ k => XS.ifnullNo X1.here hx rfl (hb hby d1_4) rfl k) ?_
  show own_Wp p e below _ T1 (mkF m 7 #[.val (.ref x1)] [])
  refine own_step (fun _ k => XS.aloadN X1.here hx rfl (hb hby d1_7) rfl rfl k) ?_
  show own_Wp p e below _ T1 (mkF m 8 #[.val (.ref x1)] [(.ref x1)])
  obtain ⟨T2, X2, e2, st2⟩ := getS2 X1 hx hZ hown (host := "") (Or.inl (hw _ (List.mem_of_getElem? (i := 47) rfl))) Via.refl e1 ((st_w0_DOUBLE hw hA).ext O0.2) (g := (mkF m 8 #[.val (.ref x1)] [(.ref x1)])) rfl (hb hby d1_8)
  refine own_step st2 ?_
  show own_Wp p e below _ T2 (mkF m 11 #[.val (.ref x1)] [(.ref (w0_DOUBLE Z)), (.ref x1)])
  refine own_step (fun _ k => Jvm.RoadKit.acmp (g := (mkF m 11 #[.val (.ref x1)] [(.ref (w0_DOUBLE Z)), (.ref x1)])) X2 hx rfl rfl rfl (pc0 := 11) (pc' := 14) (same := false) rfl (hb hby d1_11) rfl (decide_eq_false fun q => D1 (Value.ref.inj q)) (by decide) (by decide) k) ?_
  show own_Wp p e below _ T2 (mkF m 14 #[.val (.ref x1)] [])
  refine own_step (fun _ k => XS.aloadN X2.here hx rfl (hb hby d1_14) rfl rfl k) ?_
  show own_Wp p e below _ T2 (mkF m 15 #[.val (.ref x1)] [(.ref x1)])
  obtain ⟨T3, X3, e3, st3⟩ := getS2 X2 hx hZ hown (host := "") (Or.inl (hw _ (List.mem_of_getElem? (i := 48) rfl))) Via.refl e2 ((st_w1_FLOAT hw hA).ext O0.2) (g := (mkF m 15 #[.val (.ref x1)] [(.ref x1)])) rfl (hb hby d1_15)
  refine own_step st3 ?_
  show own_Wp p e below _ T3 (mkF m 18 #[.val (.ref x1)] [(.ref (w1_FLOAT Z)), (.ref x1)])
  refine own_step (fun _ k => Jvm.RoadKit.acmp (g := (mkF m 18 #[.val (.ref x1)] [(.ref (w1_FLOAT Z)), (.ref x1)])) X3 hx rfl rfl rfl (pc0 := 18) (pc' := 21) (same := false) rfl (hb hby d1_18) rfl (decide_eq_false fun q => D2 (Value.ref.inj q)) (by decide) (by decide) k) ?_
  show own_Wp p e below _ T3 (mkF m 21 #[.val (.ref x1)] [])
  refine own_step (fun _ k => XS.aloadN X3.here hx rfl (hb hby d1_21) rfl rfl k) ?_
  show own_Wp p e below _ T3 (mkF m 22 #[.val (.ref x1)] [(.ref x1)])
  obtain ⟨T4, X4, e4, st4⟩ := getS2 X3 hx hZ hown (host := "") (Or.inl (hw _ (List.mem_of_getElem? (i := 49) rfl))) Via.refl e3 ((st_w14_BYTES hw hA).ext O0.2) (g := (mkF m 22 #[.val (.ref x1)] [(.ref x1)])) rfl (hb hby d1_22)
  refine own_step st4 ?_
  show own_Wp p e below _ T4 (mkF m 25 #[.val (.ref x1)] [(.ref (w14_BYTES Z)), (.ref x1)])
  refine own_step (fun _ k => Jvm.RoadKit.acmp (g := (mkF m 25 #[.val (.ref x1)] [(.ref (w14_BYTES Z)), (.ref x1)])) X4 hx rfl rfl rfl (pc0 := 25) (pc' := 28) (same := false) rfl (hb hby d1_25) rfl (decide_eq_false fun q => D3 (Value.ref.inj q)) (by decide) (by decide) k) ?_
  show own_Wp p e below _ T4 (mkF m 28 #[.val (.ref x1)] [])
  refine own_step (fun _ k => XS.iconst X4.here hx rfl (hb hby d1_28) k) ?_
  show own_Wp p e below _ T4 (mkF m 29 #[.val (.ref x1)] [(.int (1 : Int32))])
  refine own_step (fun _ k => XS.goto X4.here hx rfl (pc0 := 29) (pc' := 33) rfl (hb hby d1_29) (by decide) (by decide) k) ?_
  show own_Wp p e below _ T4 (mkF m 33 #[.val (.ref x1)] [(.int (1 : Int32))])
  exact own_retN X4 hx (t := .boolean) hret (by simp) hlk (hb hby d1_33) (by decide) (by decide) (by rw [e4]; exact ⟨rfl, (Fr.nil n0), rfl⟩)

set_option maxRecDepth 65536 in
set_option maxHeartbeats 40000000 in
theorem rm1_9 (l : Launch) (Z : State) (a0 : Array Value) (hw : ∀ d ∈ tables_1, d.before a0 Z = true) (hA : ∀ d ∈ own_flat narrow_1, d.value a0 Z none Z [] = some true) (ws : List Jvm.Cond) (x1 : Addr) (h0 : Heap) (n0 : Nat) (O0 : Old Z n0 h0) (D0 : Fld Z Z.heap x1 "com/example/fieldnote/fieldnote/schema/FieldType" "keyword" "Ljava/lang/String;" (.ref (w20_keyword Z))) (D1 : x1 ≠ (w0_DOUBLE Z)) (D2 : x1 ≠ (w1_FLOAT Z)) (D3 : x1 ≠ (w14_BYTES Z)) :
    own_Met l Z (⟨"com/example/fieldnote/fieldnote/schema/FieldType", "isMapKey", "()Z"⟩ : MethodName) (Jvm.Cond.code (⟨"com/example/fieldnote/fieldnote/schema/FieldType", "isMapKey", "()Z"⟩ : MethodName) prog_7_method_6_code 1 (some .boolean)) ws ({ frames := 0, cells := 0, slots := 0, locals := 0 } : Room) #[(.ref x1)] h0 (fun v h L => (v = some (.int (1 : Int32)) ∧ Fr n0 L ∧ h = h0)) := by
  refine own_met (own := "com/example/fieldnote/fieldnote/schema/FieldType") (plainFor_of_name pn0) rfl ?_
  intro p e s m below meth c s₁ hx hby hml hown hnm hret hlk hZ e0 X0
  refine own_cast (g' := (mkF m 0 #[.val (.ref x1)] [])) (by first | (simp [entryFrame, mkF, argsToLocals, Value.category]; done) | rfl) ?_
  refine own_step (fun _ k => XS.aloadN X0.here hx rfl (hb hby d1_0) rfl rfl k) ?_
  show own_Wp p e below _ s₁ (mkF m 1 #[.val (.ref x1)] [(.ref x1)])
  obtain ⟨T1, X1, e1, st1⟩ := getF X0 hx hZ hown (host := "") (Or.inl (hw _ (List.mem_of_getElem? (i := 45) rfl))) Via.refl e0 (D0.ext O0.2) (g := (mkF m 1 #[.val (.ref x1)] [(.ref x1)])) rfl rfl (hb hby d1_1)
  refine own_step st1 ?_
  show own_Wp p e below _ T1 (mkF m 4 #[.val (.ref x1)] [(.ref (w20_keyword Z))])
  refine own_step (fun _ k => XS.ifnullNo X1.here hx rfl (hb hby d1_4) rfl k) ?_
  show own_Wp p e below _ T1 (mkF m 7 #[.val (.ref x1)] [])
  refine own_step (fun _ k => XS.aloadN X1.here hx rfl (hb hby d1_7) rfl rfl k) ?_
  show own_Wp p e below _ T1 (mkF m 8 #[.val (.ref x1)] [(.ref x1)])
  obtain ⟨T2, X2, e2, st2⟩ := getS2 X1 hx hZ hown (host := "") (Or.inl (hw _ (List.mem_of_getElem? (i := 47) rfl))) Via.refl e1 ((st_w0_DOUBLE hw hA).ext O0.2) (g := (mkF m 8 #[.val (.ref x1)] [(.ref x1)])) rfl (hb hby d1_8)
  refine own_step st2 ?_
  show own_Wp p e below _ T2 (mkF m 11 #[.val (.ref x1)] [(.ref (w0_DOUBLE Z)), (.ref x1)])
  refine own_step (fun _ k => Jvm.RoadKit.acmp (g := (mkF m 11 #[.val (.ref x1)] [(.ref (w0_DOUBLE Z)), (.ref x1)])) X2 hx rfl rfl rfl (pc0 := 11) (pc' := 14) (same := false) rfl (hb hby d1_11) rfl (decide_eq_false fun q => D1 (Value.ref.inj q)) (by decide) (by decide) k) ?_
  show own_Wp p e below _ T2 (mkF m 14 #[.val (.ref x1)] [])
  refine own_step (fun _ k => XS.aloadN X2.here hx rfl (hb hby d1_14) rfl rfl k) ?_
  show own_Wp p e below _ T2 (mkF m 15 #[.val (.ref x1)] [(.ref x1)])
  obtain ⟨T3, X3, e3, st3⟩ := getS2 X2 hx hZ hown (host := "") (Or.inl (hw _ (List.mem_of_getElem? (i := 48) rfl))) Via.refl e2 ((st_w1_FLOAT hw hA).ext O0.2) (g := (mkF m 15 #[.val (.ref x1)] [(.ref x1)])) rfl (hb hby d1_15)
  refine own_step st3 ?_
  show own_Wp p e below _ T3 (mkF m 18 #[.val (.ref x1)] [(.ref (w1_FLOAT Z)), (.ref x1)])
  refine own_step (fun _ k => Jvm.RoadKit.acmp (g := (mkF m 18 #[.val (.ref x1)] [(.ref (w1_FLOAT Z)), (.ref x1)])) X3 hx rfl rfl rfl (pc0 := 18) (pc' := 21) (same := false) rfl (hb hby d1_18) rfl (decide_eq_false fun q => D2 (Value.ref.inj q)) (by decide) (by decide) k) ?_
  show own_Wp p e below _ T3 (mkF m 21 #[.val (.ref x1)] [])
  refine own_step (fun _ k => XS.aloadN X3.here hx rfl (hb hby d1_21) rfl rfl k) ?_
  show own_Wp p e below _ T3 (mkF m 22 #[.val (.ref x1)] [(.ref x1)])
  obtain ⟨T4, X4, e4, st4⟩ := getS2 X3 hx hZ hown (host := "") (Or.inl (hw _ (List.mem_of_getElem? (i := 49) rfl))) Via.refl e3 ((st_w14_BYTES hw hA).ext O0.2) (g := (mkF m 22 #[.val (.ref x1)] [(.ref x1)])) rfl (hb hby d1_22)
  refine own_step st4 ?_
  show own_Wp p e below _ T4 (mkF m 25 #[.val (.ref x1)] [(.ref (w14_BYTES Z)), (.ref x1)])
  refine own_step (fun _ k => Jvm.RoadKit.acmp (g := (mkF m 25 #[.val (.ref x1)] [(.ref (w14_BYTES Z)), (.ref x1)])) X4 hx rfl rfl rfl (pc0 := 25) (pc' := 28) (same := false) rfl (hb hby d1_25) rfl (decide_eq_false fun q => D3 (Value.ref.inj q)) (by decide) (by decide) k) ?_
  show own_Wp p e below _ T4 (mkF m 28 #[.val (.ref x1)] [])
  refine own_step (fun _ k => XS.iconst X4.here hx rfl (hb hby d1_28) k) ?_
  show own_Wp p e below _ T4 (mkF m 29 #[.val (.ref x1)] [(.int (1 : Int32))])
  refine own_step (fun _ k => XS.goto X4.here hx rfl (pc0 := 29) (pc' := 33) rfl (hb hby d1_29) (by decide) (by decide) k) ?_
  show own_Wp p e below _ T4 (mkF m 33 #[.val (.ref x1)] [(.int (1 : Int32))])
  exact own_retN X4 hx (t := .boolean) hret (by simp) hlk (hb hby d1_33) (by decide) (by decide) (by rw [e4]; exact ⟨rfl, (Fr.nil n0), rfl⟩)

set_option maxRecDepth 65536 in
set_option maxHeartbeats 40000000 in
theorem rm1_10 (l : Launch) (Z : State) (a0 : Array Value) (hw : ∀ d ∈ tables_1, d.before a0 Z = true) (hA : ∀ d ∈ own_flat narrow_1, d.value a0 Z none Z [] = some true) (ws : List Jvm.Cond) (x1 : Addr) (h0 : Heap) (n0 : Nat) (O0 : Old Z n0 h0) (D0 : Fld Z Z.heap x1 "com/example/fieldnote/fieldnote/schema/FieldType" "keyword" "Ljava/lang/String;" (.ref (w28_keyword Z))) (D1 : x1 ≠ (w0_DOUBLE Z)) (D2 : x1 ≠ (w1_FLOAT Z)) (D3 : x1 ≠ (w14_BYTES Z)) :
    own_Met l Z (⟨"com/example/fieldnote/fieldnote/schema/FieldType", "isMapKey", "()Z"⟩ : MethodName) (Jvm.Cond.code (⟨"com/example/fieldnote/fieldnote/schema/FieldType", "isMapKey", "()Z"⟩ : MethodName) prog_7_method_6_code 1 (some .boolean)) ws ({ frames := 0, cells := 0, slots := 0, locals := 0 } : Room) #[(.ref x1)] h0 (fun v h L => (v = some (.int (1 : Int32)) ∧ Fr n0 L ∧ h = h0)) := by
  refine own_met (own := "com/example/fieldnote/fieldnote/schema/FieldType") (plainFor_of_name pn0) rfl ?_
  intro p e s m below meth c s₁ hx hby hml hown hnm hret hlk hZ e0 X0
  refine own_cast (g' := (mkF m 0 #[.val (.ref x1)] [])) (by first | (simp [entryFrame, mkF, argsToLocals, Value.category]; done) | rfl) ?_
  refine own_step (fun _ k => XS.aloadN X0.here hx rfl (hb hby d1_0) rfl rfl k) ?_
  show own_Wp p e below _ s₁ (mkF m 1 #[.val (.ref x1)] [(.ref x1)])
  obtain ⟨T1, X1, e1, st1⟩ := getF X0 hx hZ hown (host := "") (Or.inl (hw _ (List.mem_of_getElem? (i := 45) rfl))) Via.refl e0 (D0.ext O0.2) (g := (mkF m 1 #[.val (.ref x1)] [(.ref x1)])) rfl rfl (hb hby d1_1)
  refine own_step st1 ?_
  show own_Wp p e below _ T1 (mkF m 4 #[.val (.ref x1)] [(.ref (w28_keyword Z))])
  refine own_step (fun _ k => XS.ifnullNo X1.here hx rfl (hb hby d1_4) rfl k) ?_
  show own_Wp p e below _ T1 (mkF m 7 #[.val (.ref x1)] [])
  refine own_step (fun _ k => XS.aloadN X1.here hx rfl (hb hby d1_7) rfl rfl k) ?_
  show own_Wp p e below _ T1 (mkF m 8 #[.val (.ref x1)] [(.ref x1)])
  obtain ⟨T2, X2, e2, st2⟩ := getS2 X1 hx hZ hown (host := "") (Or.inl (hw _ (List.mem_of_getElem? (i := 47) rfl))) Via.refl e1 ((st_w0_DOUBLE hw hA).ext O0.2) (g := (mkF m 8 #[.val (.ref x1)] [(.ref x1)])) rfl (hb hby d1_8)
  refine own_step st2 ?_
  show own_Wp p e below _ T2 (mkF m 11 #[.val (.ref x1)] [(.ref (w0_DOUBLE Z)), (.ref x1)])
  refine own_step (fun _ k => Jvm.RoadKit.acmp (g := (mkF m 11 #[.val (.ref x1)] [(.ref (w0_DOUBLE Z)), (.ref x1)])) X2 hx rfl rfl rfl (pc0 := 11) (pc' := 14) (same := false) rfl (hb hby d1_11) rfl (decide_eq_false fun q => D1 (Value.ref.inj q)) (by decide) (by decide) k) ?_
  show own_Wp p e below _ T2 (mkF m 14 #[.val (.ref x1)] [])
  refine own_step (fun _ k => XS.aloadN X2.here hx rfl (hb hby d1_14) rfl rfl k) ?_
  show own_Wp p e below _ T2 (mkF m 15 #[.val (.ref x1)] [(.ref x1)])
  obtain ⟨T3, X3, e3, st3⟩ := getS2 X2 hx hZ hown (host := "") (Or.inl (hw _ (List.mem_of_getElem? (i := 48) rfl))) Via.refl e2 ((st_w1_FLOAT hw hA).ext O0.2) (g := (mkF m 15 #[.val (.ref x1)] [(.ref x1)])) rfl (hb hby d1_15)
  refine own_step st3 ?_
  show own_Wp p e below _ T3 (mkF m 18 #[.val (.ref x1)] [(.ref (w1_FLOAT Z)), (.ref x1)])
  refine own_step (fun _ k => Jvm.RoadKit.acmp (g := (mkF m 18 #[.val (.ref x1)] [(.ref (w1_FLOAT Z)), (.ref x1)])) X3 hx rfl rfl rfl (pc0 := 18) (pc' := 21) (same := false) rfl (hb hby d1_18) rfl (decide_eq_false fun q => D2 (Value.ref.inj q)) (by decide) (by decide) k) ?_
  show own_Wp p e below _ T3 (mkF m 21 #[.val (.ref x1)] [])
  refine own_step (fun _ k => XS.aloadN X3.here hx rfl (hb hby d1_21) rfl rfl k) ?_
  show own_Wp p e below _ T3 (mkF m 22 #[.val (.ref x1)] [(.ref x1)])
  obtain ⟨T4, X4, e4, st4⟩ := getS2 X3 hx hZ hown (host := "") (Or.inl (hw _ (List.mem_of_getElem? (i := 49) rfl))) Via.refl e3 ((st_w14_BYTES hw hA).ext O0.2) (g := (mkF m 22 #[.val (.ref x1)] [(.ref x1)])) rfl (hb hby d1_22)
  refine own_step st4 ?_
  show own_Wp p e below _ T4 (mkF m 25 #[.val (.ref x1)] [(.ref (w14_BYTES Z)), (.ref x1)])
  refine own_step (fun _ k => Jvm.RoadKit.acmp (g := (mkF m 25 #[.val (.ref x1)] [(.ref (w14_BYTES Z)), (.ref x1)])) X4 hx rfl rfl rfl (pc0 := 25) (pc' := 28) (same := false) rfl (hb hby d1_25) rfl (decide_eq_false fun q => D3 (Value.ref.inj q)) (by decide) (by decide) k) ?_
  show own_Wp p e below _ T4 (mkF m 28 #[.val (.ref x1)] [])
  refine own_step (fun _ k => XS.iconst X4.here hx rfl (hb hby d1_28) k) ?_
  show own_Wp p e below _ T4 (mkF m 29 #[.val (.ref x1)] [(.int (1 : Int32))])
  refine own_step (fun _ k => XS.goto X4.here hx rfl (pc0 := 29) (pc' := 33) rfl (hb hby d1_29) (by decide) (by decide) k) ?_
  show own_Wp p e below _ T4 (mkF m 33 #[.val (.ref x1)] [(.int (1 : Int32))])
  exact own_retN X4 hx (t := .boolean) hret (by simp) hlk (hb hby d1_33) (by decide) (by decide) (by rw [e4]; exact ⟨rfl, (Fr.nil n0), rfl⟩)

set_option maxRecDepth 65536 in
set_option maxHeartbeats 40000000 in
theorem rm1_11 (l : Launch) (Z : State) (a0 : Array Value) (hw : ∀ d ∈ tables_1, d.before a0 Z = true) (hA : ∀ d ∈ own_flat narrow_1, d.value a0 Z none Z [] = some true) (ws : List Jvm.Cond) (x1 : Addr) (h0 : Heap) (n0 : Nat) (O0 : Old Z n0 h0) (D0 : Fld Z Z.heap x1 "com/example/fieldnote/fieldnote/schema/FieldType" "keyword" "Ljava/lang/String;" (.ref (w24_keyword Z))) (D1 : x1 ≠ (w0_DOUBLE Z)) (D2 : x1 ≠ (w1_FLOAT Z)) (D3 : x1 ≠ (w14_BYTES Z)) :
    own_Met l Z (⟨"com/example/fieldnote/fieldnote/schema/FieldType", "isMapKey", "()Z"⟩ : MethodName) (Jvm.Cond.code (⟨"com/example/fieldnote/fieldnote/schema/FieldType", "isMapKey", "()Z"⟩ : MethodName) prog_7_method_6_code 1 (some .boolean)) ws ({ frames := 0, cells := 0, slots := 0, locals := 0 } : Room) #[(.ref x1)] h0 (fun v h L => (v = some (.int (1 : Int32)) ∧ Fr n0 L ∧ h = h0)) := by
  refine own_met (own := "com/example/fieldnote/fieldnote/schema/FieldType") (plainFor_of_name pn0) rfl ?_
  intro p e s m below meth c s₁ hx hby hml hown hnm hret hlk hZ e0 X0
  refine own_cast (g' := (mkF m 0 #[.val (.ref x1)] [])) (by first | (simp [entryFrame, mkF, argsToLocals, Value.category]; done) | rfl) ?_
  refine own_step (fun _ k => XS.aloadN X0.here hx rfl (hb hby d1_0) rfl rfl k) ?_
  show own_Wp p e below _ s₁ (mkF m 1 #[.val (.ref x1)] [(.ref x1)])
  obtain ⟨T1, X1, e1, st1⟩ := getF X0 hx hZ hown (host := "") (Or.inl (hw _ (List.mem_of_getElem? (i := 45) rfl))) Via.refl e0 (D0.ext O0.2) (g := (mkF m 1 #[.val (.ref x1)] [(.ref x1)])) rfl rfl (hb hby d1_1)
  refine own_step st1 ?_
  show own_Wp p e below _ T1 (mkF m 4 #[.val (.ref x1)] [(.ref (w24_keyword Z))])
  refine own_step (fun _ k => XS.ifnullNo X1.here hx rfl (hb hby d1_4) rfl k) ?_
  show own_Wp p e below _ T1 (mkF m 7 #[.val (.ref x1)] [])
  refine own_step (fun _ k => XS.aloadN X1.here hx rfl (hb hby d1_7) rfl rfl k) ?_
  show own_Wp p e below _ T1 (mkF m 8 #[.val (.ref x1)] [(.ref x1)])
  obtain ⟨T2, X2, e2, st2⟩ := getS2 X1 hx hZ hown (host := "") (Or.inl (hw _ (List.mem_of_getElem? (i := 47) rfl))) Via.refl e1 ((st_w0_DOUBLE hw hA).ext O0.2) (g := (mkF m 8 #[.val (.ref x1)] [(.ref x1)])) rfl (hb hby d1_8)
  refine own_step st2 ?_
  show own_Wp p e below _ T2 (mkF m 11 #[.val (.ref x1)] [(.ref (w0_DOUBLE Z)), (.ref x1)])
  refine own_step (fun _ k => Jvm.RoadKit.acmp (g := (mkF m 11 #[.val (.ref x1)] [(.ref (w0_DOUBLE Z)), (.ref x1)])) X2 hx rfl rfl rfl (pc0 := 11) (pc' := 14) (same := false) rfl (hb hby d1_11) rfl (decide_eq_false fun q => D1 (Value.ref.inj q)) (by decide) (by decide) k) ?_
  show own_Wp p e below _ T2 (mkF m 14 #[.val (.ref x1)] [])
  refine own_step (fun _ k => XS.aloadN X2.here hx rfl (hb hby d1_14) rfl rfl k) ?_
  show own_Wp p e below _ T2 (mkF m 15 #[.val (.ref x1)] [(.ref x1)])
  obtain ⟨T3, X3, e3, st3⟩ := getS2 X2 hx hZ hown (host := "") (Or.inl (hw _ (List.mem_of_getElem? (i := 48) rfl))) Via.refl e2 ((st_w1_FLOAT hw hA).ext O0.2) (g := (mkF m 15 #[.val (.ref x1)] [(.ref x1)])) rfl (hb hby d1_15)
  refine own_step st3 ?_
  show own_Wp p e below _ T3 (mkF m 18 #[.val (.ref x1)] [(.ref (w1_FLOAT Z)), (.ref x1)])
  refine own_step (fun _ k => Jvm.RoadKit.acmp (g := (mkF m 18 #[.val (.ref x1)] [(.ref (w1_FLOAT Z)), (.ref x1)])) X3 hx rfl rfl rfl (pc0 := 18) (pc' := 21) (same := false) rfl (hb hby d1_18) rfl (decide_eq_false fun q => D2 (Value.ref.inj q)) (by decide) (by decide) k) ?_
  show own_Wp p e below _ T3 (mkF m 21 #[.val (.ref x1)] [])
  refine own_step (fun _ k => XS.aloadN X3.here hx rfl (hb hby d1_21) rfl rfl k) ?_
  show own_Wp p e below _ T3 (mkF m 22 #[.val (.ref x1)] [(.ref x1)])
  obtain ⟨T4, X4, e4, st4⟩ := getS2 X3 hx hZ hown (host := "") (Or.inl (hw _ (List.mem_of_getElem? (i := 49) rfl))) Via.refl e3 ((st_w14_BYTES hw hA).ext O0.2) (g := (mkF m 22 #[.val (.ref x1)] [(.ref x1)])) rfl (hb hby d1_22)
  refine own_step st4 ?_
  show own_Wp p e below _ T4 (mkF m 25 #[.val (.ref x1)] [(.ref (w14_BYTES Z)), (.ref x1)])
  refine own_step (fun _ k => Jvm.RoadKit.acmp (g := (mkF m 25 #[.val (.ref x1)] [(.ref (w14_BYTES Z)), (.ref x1)])) X4 hx rfl rfl rfl (pc0 := 25) (pc' := 28) (same := false) rfl (hb hby d1_25) rfl (decide_eq_false fun q => D3 (Value.ref.inj q)) (by decide) (by decide) k) ?_
  show own_Wp p e below _ T4 (mkF m 28 #[.val (.ref x1)] [])
  refine own_step (fun _ k => XS.iconst X4.here hx rfl (hb hby d1_28) k) ?_
  show own_Wp p e below _ T4 (mkF m 29 #[.val (.ref x1)] [(.int (1 : Int32))])
  refine own_step (fun _ k => XS.goto X4.here hx rfl (pc0 := 29) (pc' := 33) rfl (hb hby d1_29) (by decide) (by decide) k) ?_
  show own_Wp p e below _ T4 (mkF m 33 #[.val (.ref x1)] [(.int (1 : Int32))])
  exact own_retN X4 hx (t := .boolean) hret (by simp) hlk (hb hby d1_33) (by decide) (by decide) (by rw [e4]; exact ⟨rfl, (Fr.nil n0), rfl⟩)

set_option maxRecDepth 65536 in
set_option maxHeartbeats 40000000 in
theorem rm1_12 (l : Launch) (Z : State) (a0 : Array Value) (hw : ∀ d ∈ tables_1, d.before a0 Z = true) (hA : ∀ d ∈ own_flat narrow_1, d.value a0 Z none Z [] = some true) (ws : List Jvm.Cond) (x1 : Addr) (h0 : Heap) (n0 : Nat) (O0 : Old Z n0 h0) (D0 : Fld Z Z.heap x1 "com/example/fieldnote/fieldnote/schema/FieldType" "keyword" "Ljava/lang/String;" (.ref (w31_keyword Z))) (D1 : x1 ≠ (w0_DOUBLE Z)) (D2 : x1 ≠ (w1_FLOAT Z)) (D3 : x1 ≠ (w14_BYTES Z)) :
    own_Met l Z (⟨"com/example/fieldnote/fieldnote/schema/FieldType", "isMapKey", "()Z"⟩ : MethodName) (Jvm.Cond.code (⟨"com/example/fieldnote/fieldnote/schema/FieldType", "isMapKey", "()Z"⟩ : MethodName) prog_7_method_6_code 1 (some .boolean)) ws ({ frames := 0, cells := 0, slots := 0, locals := 0 } : Room) #[(.ref x1)] h0 (fun v h L => (v = some (.int (1 : Int32)) ∧ Fr n0 L ∧ h = h0)) := by
  refine own_met (own := "com/example/fieldnote/fieldnote/schema/FieldType") (plainFor_of_name pn0) rfl ?_
  intro p e s m below meth c s₁ hx hby hml hown hnm hret hlk hZ e0 X0
  refine own_cast (g' := (mkF m 0 #[.val (.ref x1)] [])) (by first | (simp [entryFrame, mkF, argsToLocals, Value.category]; done) | rfl) ?_
  refine own_step (fun _ k => XS.aloadN X0.here hx rfl (hb hby d1_0) rfl rfl k) ?_
  show own_Wp p e below _ s₁ (mkF m 1 #[.val (.ref x1)] [(.ref x1)])
  obtain ⟨T1, X1, e1, st1⟩ := getF X0 hx hZ hown (host := "") (Or.inl (hw _ (List.mem_of_getElem? (i := 45) rfl))) Via.refl e0 (D0.ext O0.2) (g := (mkF m 1 #[.val (.ref x1)] [(.ref x1)])) rfl rfl (hb hby d1_1)
  refine own_step st1 ?_
  show own_Wp p e below _ T1 (mkF m 4 #[.val (.ref x1)] [(.ref (w31_keyword Z))])
  refine own_step (fun _ k => XS.ifnullNo X1.here hx rfl (hb hby d1_4) rfl k) ?_
  show own_Wp p e below _ T1 (mkF m 7 #[.val (.ref x1)] [])
  refine own_step (fun _ k => XS.aloadN X1.here hx rfl (hb hby d1_7) rfl rfl k) ?_
  show own_Wp p e below _ T1 (mkF m 8 #[.val (.ref x1)] [(.ref x1)])
  obtain ⟨T2, X2, e2, st2⟩ := getS2 X1 hx hZ hown (host := "") (Or.inl (hw _ (List.mem_of_getElem? (i := 47) rfl))) Via.refl e1 ((st_w0_DOUBLE hw hA).ext O0.2) (g := (mkF m 8 #[.val (.ref x1)] [(.ref x1)])) rfl (hb hby d1_8)
  refine own_step st2 ?_
  show own_Wp p e below _ T2 (mkF m 11 #[.val (.ref x1)] [(.ref (w0_DOUBLE Z)), (.ref x1)])
  refine own_step (fun _ k => Jvm.RoadKit.acmp (g := (mkF m 11 #[.val (.ref x1)] [(.ref (w0_DOUBLE Z)), (.ref x1)])) X2 hx rfl rfl rfl (pc0 := 11) (pc' := 14) (same := false) rfl (hb hby d1_11) rfl (decide_eq_false fun q => D1 (Value.ref.inj q)) (by decide) (by decide) k) ?_
  show own_Wp p e below _ T2 (mkF m 14 #[.val (.ref x1)] [])
  refine own_step (fun _ k => XS.aloadN X2.here hx rfl (hb hby d1_14) rfl rfl k) ?_
  show own_Wp p e below _ T2 (mkF m 15 #[.val (.ref x1)] [(.ref x1)])
  obtain ⟨T3, X3, e3, st3⟩ := getS2 X2 hx hZ hown (host := "") (Or.inl (hw _ (List.mem_of_getElem? (i := 48) rfl))) Via.refl e2 ((st_w1_FLOAT hw hA).ext O0.2) (g := (mkF m 15 #[.val (.ref x1)] [(.ref x1)])) rfl (hb hby d1_15)
  refine own_step st3 ?_
  show own_Wp p e below _ T3 (mkF m 18 #[.val (.ref x1)] [(.ref (w1_FLOAT Z)), (.ref x1)])
  refine own_step (fun _ k => Jvm.RoadKit.acmp (g := (mkF m 18 #[.val (.ref x1)] [(.ref (w1_FLOAT Z)), (.ref x1)])) X3 hx rfl rfl rfl (pc0 := 18) (pc' := 21) (same := false) rfl (hb hby d1_18) rfl (decide_eq_false fun q => D2 (Value.ref.inj q)) (by decide) (by decide) k) ?_
  show own_Wp p e below _ T3 (mkF m 21 #[.val (.ref x1)] [])
  refine own_step (fun _ k => XS.aloadN X3.here hx rfl (hb hby d1_21) rfl rfl k) ?_
  show own_Wp p e below _ T3 (mkF m 22 #[.val (.ref x1)] [(.ref x1)])
  obtain ⟨T4, X4, e4, st4⟩ := getS2 X3 hx hZ hown (host := "") (Or.inl (hw _ (List.mem_of_getElem? (i := 49) rfl))) Via.refl e3 ((st_w14_BYTES hw hA).ext O0.2) (g := (mkF m 22 #[.val (.ref x1)] [(.ref x1)])) rfl (hb hby d1_22)
  refine own_step st4 ?_
  show own_Wp p e below _ T4 (mkF m 25 #[.val (.ref x1)] [(.ref (w14_BYTES Z)), (.ref x1)])
  refine own_step (fun _ k => Jvm.RoadKit.acmp (g := (mkF m 25 #[.val (.ref x1)] [(.ref (w14_BYTES Z)), (.ref x1)])) X4 hx rfl rfl rfl (pc0 := 25) (pc' := 28) (same := false) rfl (hb hby d1_25) rfl (decide_eq_false fun q => D3 (Value.ref.inj q)) (by decide) (by decide) k) ?_
  show own_Wp p e below _ T4 (mkF m 28 #[.val (.ref x1)] [])
  refine own_step (fun _ k => XS.iconst X4.here hx rfl (hb hby d1_28) k) ?_
  show own_Wp p e below _ T4 (mkF m 29 #[.val (.ref x1)] [(.int (1 : Int32))])
  refine own_step (fun _ k => XS.goto X4.here hx rfl (pc0 := 29) (pc' := 33) rfl (hb hby d1_29) (by decide) (by decide) k) ?_
  show own_Wp p e below _ T4 (mkF m 33 #[.val (.ref x1)] [(.int (1 : Int32))])
  exact own_retN X4 hx (t := .boolean) hret (by simp) hlk (hb hby d1_33) (by decide) (by decide) (by rw [e4]; exact ⟨rfl, (Fr.nil n0), rfl⟩)

set_option maxRecDepth 65536 in
set_option maxHeartbeats 40000000 in
theorem rm1_13 (l : Launch) (Z : State) (a0 : Array Value) (hw : ∀ d ∈ tables_1, d.before a0 Z = true) (hA : ∀ d ∈ own_flat narrow_1, d.value a0 Z none Z [] = some true) (ws : List Jvm.Cond) (x1 : Addr) (h0 : Heap) (n0 : Nat) (O0 : Old Z n0 h0) (D0 : Fld Z Z.heap x1 "com/example/fieldnote/fieldnote/schema/FieldType" "keyword" "Ljava/lang/String;" (.ref (w26_keyword Z))) (D1 : x1 ≠ (w0_DOUBLE Z)) (D2 : x1 ≠ (w1_FLOAT Z)) (D3 : x1 ≠ (w14_BYTES Z)) :
    own_Met l Z (⟨"com/example/fieldnote/fieldnote/schema/FieldType", "isMapKey", "()Z"⟩ : MethodName) (Jvm.Cond.code (⟨"com/example/fieldnote/fieldnote/schema/FieldType", "isMapKey", "()Z"⟩ : MethodName) prog_7_method_6_code 1 (some .boolean)) ws ({ frames := 0, cells := 0, slots := 0, locals := 0 } : Room) #[(.ref x1)] h0 (fun v h L => (v = some (.int (1 : Int32)) ∧ Fr n0 L ∧ h = h0)) := by
  refine own_met (own := "com/example/fieldnote/fieldnote/schema/FieldType") (plainFor_of_name pn0) rfl ?_
  intro p e s m below meth c s₁ hx hby hml hown hnm hret hlk hZ e0 X0
  refine own_cast (g' := (mkF m 0 #[.val (.ref x1)] [])) (by first | (simp [entryFrame, mkF, argsToLocals, Value.category]; done) | rfl) ?_
  refine own_step (fun _ k => XS.aloadN X0.here hx rfl (hb hby d1_0) rfl rfl k) ?_
  show own_Wp p e below _ s₁ (mkF m 1 #[.val (.ref x1)] [(.ref x1)])
  obtain ⟨T1, X1, e1, st1⟩ := getF X0 hx hZ hown (host := "") (Or.inl (hw _ (List.mem_of_getElem? (i := 45) rfl))) Via.refl e0 (D0.ext O0.2) (g := (mkF m 1 #[.val (.ref x1)] [(.ref x1)])) rfl rfl (hb hby d1_1)
  refine own_step st1 ?_
  show own_Wp p e below _ T1 (mkF m 4 #[.val (.ref x1)] [(.ref (w26_keyword Z))])
  refine own_step (fun _ k => XS.ifnullNo X1.here hx rfl (hb hby d1_4) rfl k) ?_
  show own_Wp p e below _ T1 (mkF m 7 #[.val (.ref x1)] [])
  refine own_step (fun _ k => XS.aloadN X1.here hx rfl (hb hby d1_7) rfl rfl k) ?_
  show own_Wp p e below _ T1 (mkF m 8 #[.val (.ref x1)] [(.ref x1)])
  obtain ⟨T2, X2, e2, st2⟩ := getS2 X1 hx hZ hown (host := "") (Or.inl (hw _ (List.mem_of_getElem? (i := 47) rfl))) Via.refl e1 ((st_w0_DOUBLE hw hA).ext O0.2) (g := (mkF m 8 #[.val (.ref x1)] [(.ref x1)])) rfl (hb hby d1_8)
  refine own_step st2 ?_
  show own_Wp p e below _ T2 (mkF m 11 #[.val (.ref x1)] [(.ref (w0_DOUBLE Z)), (.ref x1)])
  refine own_step (fun _ k => Jvm.RoadKit.acmp (g := (mkF m 11 #[.val (.ref x1)] [(.ref (w0_DOUBLE Z)), (.ref x1)])) X2 hx rfl rfl rfl (pc0 := 11) (pc' := 14) (same := false) rfl (hb hby d1_11) rfl (decide_eq_false fun q => D1 (Value.ref.inj q)) (by decide) (by decide) k) ?_
  show own_Wp p e below _ T2 (mkF m 14 #[.val (.ref x1)] [])
  refine own_step (fun _ k => XS.aloadN X2.here hx rfl (hb hby d1_14) rfl rfl k) ?_
  show own_Wp p e below _ T2 (mkF m 15 #[.val (.ref x1)] [(.ref x1)])
  obtain ⟨T3, X3, e3, st3⟩ := getS2 X2 hx hZ hown (host := "") (Or.inl (hw _ (List.mem_of_getElem? (i := 48) rfl))) Via.refl e2 ((st_w1_FLOAT hw hA).ext O0.2) (g := (mkF m 15 #[.val (.ref x1)] [(.ref x1)])) rfl (hb hby d1_15)
  refine own_step st3 ?_
  show own_Wp p e below _ T3 (mkF m 18 #[.val (.ref x1)] [(.ref (w1_FLOAT Z)), (.ref x1)])
  refine own_step (fun _ k => Jvm.RoadKit.acmp (g := (mkF m 18 #[.val (.ref x1)] [(.ref (w1_FLOAT Z)), (.ref x1)])) X3 hx rfl rfl rfl (pc0 := 18) (pc' := 21) (same := false) rfl (hb hby d1_18) rfl (decide_eq_false fun q => D2 (Value.ref.inj q)) (by decide) (by decide) k) ?_
  show own_Wp p e below _ T3 (mkF m 21 #[.val (.ref x1)] [])
  refine own_step (fun _ k => XS.aloadN X3.here hx rfl (hb hby d1_21) rfl rfl k) ?_
  show own_Wp p e below _ T3 (mkF m 22 #[.val (.ref x1)] [(.ref x1)])
  obtain ⟨T4, X4, e4, st4⟩ := getS2 X3 hx hZ hown (host := "") (Or.inl (hw _ (List.mem_of_getElem? (i := 49) rfl))) Via.refl e3 ((st_w14_BYTES hw hA).ext O0.2) (g := (mkF m 22 #[.val (.ref x1)] [(.ref x1)])) rfl (hb hby d1_22)
  refine own_step st4 ?_
  show own_Wp p e below _ T4 (mkF m 25 #[.val (.ref x1)] [(.ref (w14_BYTES Z)), (.ref x1)])
  refine own_step (fun _ k => Jvm.RoadKit.acmp (g := (mkF m 25 #[.val (.ref x1)] [(.ref (w14_BYTES Z)), (.ref x1)])) X4 hx rfl rfl rfl (pc0 := 25) (pc' := 28) (same := false) rfl (hb hby d1_25) rfl (decide_eq_false fun q => D3 (Value.ref.inj q)) (by decide) (by decide) k) ?_
  show own_Wp p e below _ T4 (mkF m 28 #[.val (.ref x1)] [])
  refine own_step (fun _ k => XS.iconst X4.here hx rfl (hb hby d1_28) k) ?_
  show own_Wp p e below _ T4 (mkF m 29 #[.val (.ref x1)] [(.int (1 : Int32))])
  refine own_step (fun _ k => XS.goto X4.here hx rfl (pc0 := 29) (pc' := 33) rfl (hb hby d1_29) (by decide) (by decide) k) ?_
  show own_Wp p e below _ T4 (mkF m 33 #[.val (.ref x1)] [(.int (1 : Int32))])
  exact own_retN X4 hx (t := .boolean) hret (by simp) hlk (hb hby d1_33) (by decide) (by decide) (by rw [e4]; exact ⟨rfl, (Fr.nil n0), rfl⟩)

set_option maxRecDepth 65536 in
set_option maxHeartbeats 40000000 in
theorem rm1_14 (l : Launch) (Z : State) (a0 : Array Value) (hw : ∀ d ∈ tables_1, d.before a0 Z = true) (hA : ∀ d ∈ own_flat narrow_1, d.value a0 Z none Z [] = some true) (ws : List Jvm.Cond) (h0 : Heap) (n0 : Nat) (O0 : Old Z n0 h0) :
    own_Met l Z (⟨"com/example/fieldnote/fieldnote/schema/FieldType", "isMapKey", "()Z"⟩ : MethodName) (Jvm.Cond.code (⟨"com/example/fieldnote/fieldnote/schema/FieldType", "isMapKey", "()Z"⟩ : MethodName) prog_7_method_6_code 1 (some .boolean)) ws ({ frames := 0, cells := 0, slots := 0, locals := 0 } : Room) #[(.ref (w14_BYTES Z))] h0 (fun v h L => (v = some (.int (0 : Int32)) ∧ Fr n0 L ∧ h = h0)) := by
  refine own_met (own := "com/example/fieldnote/fieldnote/schema/FieldType") (plainFor_of_name pn0) rfl ?_
  intro p e s m below meth c s₁ hx hby hml hown hnm hret hlk hZ e0 X0
  refine own_cast (g' := (mkF m 0 #[.val (.ref (w14_BYTES Z))] [])) (by first | (simp [entryFrame, mkF, argsToLocals, Value.category]; done) | rfl) ?_
  refine own_step (fun _ k => XS.aloadN X0.here hx rfl (hb hby d1_0) rfl rfl k) ?_
  show own_Wp p e below _ s₁ (mkF m 1 #[.val (.ref (w14_BYTES Z))] [(.ref (w14_BYTES Z))])
  obtain ⟨T1, X1, e1, st1⟩ := getF X0 hx hZ hown (host := "") (Or.inl (hw _ (List.mem_of_getElem? (i := 45) rfl))) Via.refl e0 ((fl29 hw hA).ext O0.2) (g := (mkF m 1 #[.val (.ref (w14_BYTES Z))] [(.ref (w14_BYTES Z))])) rfl rfl (hb hby d1_1)
  refine own_step st1 ?_
  show own_Wp p e below _ T1 (mkF m 4 #[.val (.ref (w14_BYTES Z))] [(.ref (w30_keyword Z))])
  refine own_step (fun _ k => XS.ifnullNo X1.here hx rfl (hb hby d1_4) rfl k) ?_
  show own_Wp p e below _ T1 (mkF m 7 #[.val (.ref (w14_BYTES Z))] [])
  refine own_step (fun _ k => XS.aloadN X1.here hx rfl (hb hby d1_7) rfl rfl k) ?_
  show own_Wp p e below _ T1 (mkF m 8 #[.val (.ref (w14_BYTES Z))] [(.ref (w14_BYTES Z))])
  obtain ⟨T2, X2, e2, st2⟩ := getS2 X1 hx hZ hown (host := "") (Or.inl (hw _ (List.mem_of_getElem? (i := 47) rfl))) Via.refl e1 ((st_w0_DOUBLE hw hA).ext O0.2) (g := (mkF m 8 #[.val (.ref (w14_BYTES Z))] [(.ref (w14_BYTES Z))])) rfl (hb hby d1_8)
  refine own_step st2 ?_
  show own_Wp p e below _ T2 (mkF m 11 #[.val (.ref (w14_BYTES Z))] [(.ref (w0_DOUBLE Z)), (.ref (w14_BYTES Z))])
  refine own_step (fun _ k => Jvm.RoadKit.acmp (g := (mkF m 11 #[.val (.ref (w14_BYTES Z))] [(.ref (w0_DOUBLE Z)), (.ref (w14_BYTES Z))])) X2 hx rfl rfl rfl (pc0 := 11) (pc' := 14) (same := false) rfl (hb hby d1_11) rfl (decide_eq_false fun q => (Fld.ne (fl5 hw hA) (fl3 hw hA) (by decide)) (Value.ref.inj q)) (by decide) (by decide) k) ?_
  show own_Wp p e below _ T2 (mkF m 14 #[.val (.ref (w14_BYTES Z))] [])
  refine own_step (fun _ k => XS.aloadN X2.here hx rfl (hb hby d1_14) rfl rfl k) ?_
  show own_Wp p e below _ T2 (mkF m 15 #[.val (.ref (w14_BYTES Z))] [(.ref (w14_BYTES Z))])
  obtain ⟨T3, X3, e3, st3⟩ := getS2 X2 hx hZ hown (host := "") (Or.inl (hw _ (List.mem_of_getElem? (i := 48) rfl))) Via.refl e2 ((st_w1_FLOAT hw hA).ext O0.2) (g := (mkF m 15 #[.val (.ref (w14_BYTES Z))] [(.ref (w14_BYTES Z))])) rfl (hb hby d1_15)
  refine own_step st3 ?_
  show own_Wp p e below _ T3 (mkF m 18 #[.val (.ref (w14_BYTES Z))] [(.ref (w1_FLOAT Z)), (.ref (w14_BYTES Z))])
  refine own_step (fun _ k => Jvm.RoadKit.acmp (g := (mkF m 18 #[.val (.ref (w14_BYTES Z))] [(.ref (w1_FLOAT Z)), (.ref (w14_BYTES Z))])) X3 hx rfl rfl rfl (pc0 := 18) (pc' := 21) (same := false) rfl (hb hby d1_18) rfl (decide_eq_false fun q => (Fld.ne (fl5 hw hA) (fl4 hw hA) (by decide)) (Value.ref.inj q)) (by decide) (by decide) k) ?_
  show own_Wp p e below _ T3 (mkF m 21 #[.val (.ref (w14_BYTES Z))] [])
  refine own_step (fun _ k => XS.aloadN X3.here hx rfl (hb hby d1_21) rfl rfl k) ?_
  show own_Wp p e below _ T3 (mkF m 22 #[.val (.ref (w14_BYTES Z))] [(.ref (w14_BYTES Z))])
  obtain ⟨T4, X4, e4, st4⟩ := getS2 X3 hx hZ hown (host := "") (Or.inl (hw _ (List.mem_of_getElem? (i := 49) rfl))) Via.refl e3 ((st_w14_BYTES hw hA).ext O0.2) (g := (mkF m 22 #[.val (.ref (w14_BYTES Z))] [(.ref (w14_BYTES Z))])) rfl (hb hby d1_22)
  refine own_step st4 ?_
  show own_Wp p e below _ T4 (mkF m 25 #[.val (.ref (w14_BYTES Z))] [(.ref (w14_BYTES Z)), (.ref (w14_BYTES Z))])
  refine own_step (fun _ k => Jvm.RoadKit.acmp (g := (mkF m 25 #[.val (.ref (w14_BYTES Z))] [(.ref (w14_BYTES Z)), (.ref (w14_BYTES Z))])) X4 hx rfl rfl rfl (pc0 := 25) (pc' := 32) (same := true) rfl (hb hby d1_25) rfl (decide_eq_true rfl) (by decide) (by decide) k) ?_
  show own_Wp p e below _ T4 (mkF m 32 #[.val (.ref (w14_BYTES Z))] [])
  refine own_step (fun _ k => XS.iconst X4.here hx rfl (hb hby d1_32) k) ?_
  show own_Wp p e below _ T4 (mkF m 33 #[.val (.ref (w14_BYTES Z))] [(.int (0 : Int32))])
  exact own_retN X4 hx (t := .boolean) hret (by simp) hlk (hb hby d1_33) (by decide) (by decide) (by rw [e4]; exact ⟨rfl, (Fr.nil n0), rfl⟩)

set_option maxRecDepth 65536 in
set_option maxHeartbeats 40000000 in
theorem rm1_15 (l : Launch) (Z : State) (a0 : Array Value) (hw : ∀ d ∈ tables_1, d.before a0 Z = true) (hA : ∀ d ∈ own_flat narrow_1, d.value a0 Z none Z [] = some true) (ws : List Jvm.Cond) (x1 : Addr) (h0 : Heap) (n0 : Nat) (O0 : Old Z n0 h0) (D0 : Fld Z Z.heap x1 "com/example/fieldnote/fieldnote/schema/FieldType" "keyword" "Ljava/lang/String;" .null) :
    own_Met l Z (⟨"com/example/fieldnote/fieldnote/schema/FieldType", "isMapKey", "()Z"⟩ : MethodName) (Jvm.Cond.code (⟨"com/example/fieldnote/fieldnote/schema/FieldType", "isMapKey", "()Z"⟩ : MethodName) prog_7_method_6_code 1 (some .boolean)) ws ({ frames := 0, cells := 0, slots := 0, locals := 0 } : Room) #[(.ref x1)] h0 (fun v h L => (v = some (.int (0 : Int32)) ∧ Fr n0 L ∧ h = h0)) := by
  refine own_met (own := "com/example/fieldnote/fieldnote/schema/FieldType") (plainFor_of_name pn0) rfl ?_
  intro p e s m below meth c s₁ hx hby hml hown hnm hret hlk hZ e0 X0
  refine own_cast (g' := (mkF m 0 #[.val (.ref x1)] [])) (by first | (simp [entryFrame, mkF, argsToLocals, Value.category]; done) | rfl) ?_
  refine own_step (fun _ k => XS.aloadN X0.here hx rfl (hb hby d1_0) rfl rfl k) ?_
  show own_Wp p e below _ s₁ (mkF m 1 #[.val (.ref x1)] [(.ref x1)])
  obtain ⟨T1, X1, e1, st1⟩ := getF X0 hx hZ hown (host := "") (Or.inl (hw _ (List.mem_of_getElem? (i := 45) rfl))) Via.refl e0 (D0.ext O0.2) (g := (mkF m 1 #[.val (.ref x1)] [(.ref x1)])) rfl rfl (hb hby d1_1)
  refine own_step st1 ?_
  show own_Wp p e below _ T1 (mkF m 4 #[.val (.ref x1)] [.null])
  refine own_step (fun _ k => XS.ifnullYes X1.here hx rfl (pc0 := 4) (pc' := 32) rfl (hb hby d1_4) rfl (by decide) (by decide) k) ?_
  show own_Wp p e below _ T1 (mkF m 32 #[.val (.ref x1)] [])
  refine own_step (fun _ k => XS.iconst X1.here hx rfl (hb hby d1_32) k) ?_
  show own_Wp p e below _ T1 (mkF m 33 #[.val (.ref x1)] [(.int (0 : Int32))])
  exact own_retN X1 hx (t := .boolean) hret (by simp) hlk (hb hby d1_33) (by decide) (by decide) (by rw [e1]; exact ⟨rfl, (Fr.nil n0), rfl⟩)

set_option maxRecDepth 65536 in
set_option maxHeartbeats 40000000 in
theorem rm0 (l : Launch) (Z : State) (a0 : Array Value) (hw : ∀ d ∈ tables_1, d.before a0 Z = true) (hA : ∀ d ∈ own_flat narrow_1, d.value a0 Z none Z [] = some true) (ws : List Jvm.Cond) (p0 : Int32) (h0 : Heap) (n0 : Nat) (O0 : Old Z n0 h0) :
    own_Met l Z x (Jvm.Cond.code x code maxLocals ret) ws room_1 #[(.int p0)] h0 (fun v h L => v = some (.int (1 : Int32)) ∧ Fr n0 L) := by
  refine own_met (own := "com/example/fieldnote/fieldnote/schema/FieldTypeIsMapKeyPinLaw") (plainFor_of_name pn2) rfl ?_
  intro p e s m below meth c s₁ hx hby hml hown hnm hret hlk hZ e0 X0
  refine own_cast (g' := (mkF m 0 #[.val (.int p0), .unset, .unset, .unset] [])) (by first | (simp [entryFrame, mkF, argsToLocals, Value.category, maxLocals]; done) | rfl) ?_
  show own_Wp p e below _ s₁ (mkF m 0 #[.val (.int p0), .unset, .unset, .unset] [])
  refine own_step (fun _ k => XS.bipush X0.here hx rfl (hb hby at_0) k) ?_
  show own_Wp p e below _ s₁ (mkF m 2 #[.val (.int p0), .unset, .unset, .unset] [(.int (17 : Int32))])
  obtain ⟨T1, h1, k1, X1, e1, E1, A1, O1v, st1⟩ := newR X0 hx hZ hown (hw _ (List.mem_of_getElem? (i := 0) rfl)) (hw _ (List.mem_of_getElem? (i := 1) rfl)) e0 (g := (mkF m 2 #[.val (.int p0), .unset, .unset, .unset] [(.int (17 : Int32))])) rfl (hb hby at_2) rfl (by decide) (cap := 17) (by decide) (by decide) (by decide) (by decide)
  obtain ⟨b1, z1⟩ : ∃ z, z = h0.size := ⟨_, rfl⟩
  rw [← z1] at A1 st1
  refine own_step st1 ?_
  have g1 : n0 ≤ b1 := Nat.le_trans (O0.1 ▸ O0.2.1) (Nat.le_of_eq z1.symm)
  have y1 : h0.size ≤ b1 := Nat.le_trans (Nat.le_refl _) (Nat.le_of_eq z1.symm)
  have O1 := O0.ext E1
  have K1 : Keep h0 h1 [] := (Keep.refl h0 []).ext E1
  have V1 : Arv Z h1 b1 k1 (.object "com/example/fieldnote/fieldnote/schema/FieldType") (17 : Int32) [.null, .null, .null, .null, .null, .null, .null, .null, .null, .null, .null, .null, .null, .null, .null, .null, .null] .null := (Arv.new A1 (by decide)).pad (pad_rep [] .null 17)
  show own_Wp p e below _ T1 (mkF m 5 #[.val (.int p0), .unset, .unset, .unset] [(.ref b1)])
  refine own_step (fun _ k => XS.dup X1.here hx rfl (hb hby at_5) rfl rfl k) ?_
  show own_Wp p e below _ T1 (mkF m 6 #[.val (.int p0), .unset, .unset, .unset] [(.ref b1), (.ref b1)])
  refine own_step (fun _ k => XS.iconst X1.here hx rfl (hb hby at_6) k) ?_
  show own_Wp p e below _ T1 (mkF m 7 #[.val (.int p0), .unset, .unset, .unset] [(.int (0 : Int32)), (.ref b1), (.ref b1)])
  obtain ⟨T2, X2, e2, st2⟩ := getS2 X1 hx hZ hown (host := "") (Or.inl (hw _ (List.mem_of_getElem? (i := 2) rfl))) Via.refl e1 ((st_w0_DOUBLE hw hA).ext O1.2) (g := (mkF m 7 #[.val (.int p0), .unset, .unset, .unset] [(.int (0 : Int32)), (.ref b1), (.ref b1)])) rfl (hb hby at_7)
  refine own_step st2 ?_
  show own_Wp p e below _ T2 (mkF m 10 #[.val (.int p0), .unset, .unset, .unset] [(.ref (w0_DOUBLE Z)), (.int (0 : Int32)), (.ref b1), (.ref b1)])
  obtain ⟨c3, r3, q3, t3, u3, y3h, y3g⟩ := V1
  have i3 : ¬ ((0 : Int32) < 0 ∨ c3.slots.size ≤ ((0 : Int32)).toNatClampNeg) := inb_of t3 ⟨by decide, by decide⟩
  obtain ⟨T3, h3, X3, e3, W3, st3⟩ := stR X2 hx hZ e2 r3 (j := (0 : Int32)) i3 rfl (Sto.ofV r3 q3 O1v (Ins.self ((ex_w0_DOUBLE hw hA).ext O1.2))) (g := (mkF m 10 #[.val (.int p0), .unset, .unset, .unset] [(.ref (w0_DOUBLE Z)), (.int (0 : Int32)), (.ref b1), (.ref b1)])) rfl rfl (hb hby at_10)
  refine own_step st3 ?_
  have N3 := Fr.snoc X3 (Fr.nil n0) g1
  have O3 := O1.wr W3 g1
  have K3 : Keep h0 h3 [] := K1.wr W3 (Or.inr y1)
  have V3 : Arv Z h3 b1 k1 (.object "com/example/fieldnote/fieldnote/schema/FieldType") (17 : Int32) [(.ref (w0_DOUBLE Z)), .null, .null, .null, .null, .null, .null, .null, .null, .null, .null, .null, .null, .null, .null, .null, .null] .null := Arv.set r3 q3 t3 u3 y3h y3g rfl W3 0 rfl (Nat.le_of_ble_eq_true rfl)
  show own_Wp p e below _ T3 (mkF m 11 #[.val (.int p0), .unset, .unset, .unset] [(.ref b1)])
  refine own_step (fun _ k => XS.dup X3.here hx rfl (hb hby at_11) rfl rfl k) ?_
  show own_Wp p e below _ T3 (mkF m 12 #[.val (.int p0), .unset, .unset, .unset] [(.ref b1), (.ref b1)])
  refine own_step (fun _ k => XS.iconst X3.here hx rfl (hb hby at_12) k) ?_
  show own_Wp p e below _ T3 (mkF m 13 #[.val (.int p0), .unset, .unset, .unset] [(.int (1 : Int32)), (.ref b1), (.ref b1)])
  obtain ⟨T4, X4, e4, st4⟩ := getS2 X3 hx hZ hown (host := "") (Or.inl (hw _ (List.mem_of_getElem? (i := 6) rfl))) Via.refl e3 ((st_w1_FLOAT hw hA).ext O3.2) (g := (mkF m 13 #[.val (.int p0), .unset, .unset, .unset] [(.int (1 : Int32)), (.ref b1), (.ref b1)])) rfl (hb hby at_13)
  refine own_step st4 ?_
  show own_Wp p e below _ T4 (mkF m 16 #[.val (.int p0), .unset, .unset, .unset] [(.ref (w1_FLOAT Z)), (.int (1 : Int32)), (.ref b1), (.ref b1)])
  obtain ⟨c5, r5, q5, t5, u5, y5h, y5g⟩ := V3
  have i5 : ¬ ((1 : Int32) < 0 ∨ c5.slots.size ≤ ((1 : Int32)).toNatClampNeg) := inb_of t5 ⟨by decide, by decide⟩
  obtain ⟨T5, h5, X5, e5, W5, st5⟩ := stR X4 hx hZ e4 r5 (j := (1 : Int32)) i5 rfl (Sto.ofV r5 q5 O1v (Ins.self ((ex_w1_FLOAT hw hA).ext O3.2))) (g := (mkF m 16 #[.val (.int p0), .unset, .unset, .unset] [(.ref (w1_FLOAT Z)), (.int (1 : Int32)), (.ref b1), (.ref b1)])) rfl rfl (hb hby at_16)
  refine own_step st5 ?_
  have N5 := Fr.snoc X5 N3 g1
  have O5 := O3.wr W5 g1
  have K5 : Keep h0 h5 [] := K3.wr W5 (Or.inr y1)
  have V5 : Arv Z h5 b1 k1 (.object "com/example/fieldnote/fieldnote/schema/FieldType") (17 : Int32) [(.ref (w0_DOUBLE Z)), (.ref (w1_FLOAT Z)), .null, .null, .null, .null, .null, .null, .null, .null, .null, .null, .null, .null, .null, .null, .null] .null := Arv.set r5 q5 t5 u5 y5h y5g rfl W5 1 rfl (Nat.le_of_ble_eq_true rfl)
  show own_Wp p e below _ T5 (mkF m 17 #[.val (.int p0), .unset, .unset, .unset] [(.ref b1)])
  refine own_step (fun _ k => XS.dup X5.here hx rfl (hb hby at_17) rfl rfl k) ?_
  show own_Wp p e below _ T5 (mkF m 18 #[.val (.int p0), .unset, .unset, .unset] [(.ref b1), (.ref b1)])
  refine own_step (fun _ k => XS.iconst X5.here hx rfl (hb hby at_18) k) ?_
  show own_Wp p e below _ T5 (mkF m 19 #[.val (.int p0), .unset, .unset, .unset] [(.int (2 : Int32)), (.ref b1), (.ref b1)])
  obtain ⟨T6, X6, e6, st6⟩ := getS2 X5 hx hZ hown (host := "") (Or.inl (hw _ (List.mem_of_getElem? (i := 8) rfl))) Via.refl e5 ((st_w2_INT32 hw hA).ext O5.2) (g := (mkF m 19 #[.val (.int p0), .unset, .unset, .unset] [(.int (2 : Int32)), (.ref b1), (.ref b1)])) rfl (hb hby at_19)
  refine own_step st6 ?_
  show own_Wp p e below _ T6 (mkF m 22 #[.val (.int p0), .unset, .unset, .unset] [(.ref (w2_INT32 Z)), (.int (2 : Int32)), (.ref b1), (.ref b1)])
  obtain ⟨c7, r7, q7, t7, u7, y7h, y7g⟩ := V5
  have i7 : ¬ ((2 : Int32) < 0 ∨ c7.slots.size ≤ ((2 : Int32)).toNatClampNeg) := inb_of t7 ⟨by decide, by decide⟩
  obtain ⟨T7, h7, X7, e7, W7, st7⟩ := stR X6 hx hZ e6 r7 (j := (2 : Int32)) i7 rfl (Sto.ofV r7 q7 O1v (Ins.self ((ex_w2_INT32 hw hA).ext O5.2))) (g := (mkF m 22 #[.val (.int p0), .unset, .unset, .unset] [(.ref (w2_INT32 Z)), (.int (2 : Int32)), (.ref b1), (.ref b1)])) rfl rfl (hb hby at_22)
  refine own_step st7 ?_
  have N7 := Fr.snoc X7 N5 g1
  have O7 := O5.wr W7 g1
  have K7 : Keep h0 h7 [] := K5.wr W7 (Or.inr y1)
  have V7 : Arv Z h7 b1 k1 (.object "com/example/fieldnote/fieldnote/schema/FieldType") (17 : Int32) [(.ref (w0_DOUBLE Z)), (.ref (w1_FLOAT Z)), (.ref (w2_INT32 Z)), .null, .null, .null, .null, .null, .null, .null, .null, .null, .null, .null, .null, .null, .null] .null := Arv.set r7 q7 t7 u7 y7h y7g rfl W7 2 rfl (Nat.le_of_ble_eq_true rfl)
  show own_Wp p e below _ T7 (mkF m 23 #[.val (.int p0), .unset, .unset, .unset] [(.ref b1)])
  refine own_step (fun _ k => XS.dup X7.here hx rfl (hb hby at_23) rfl rfl k) ?_
  show own_Wp p e below _ T7 (mkF m 24 #[.val (.int p0), .unset, .unset, .unset] [(.ref b1), (.ref b1)])
  refine own_step (fun _ k => XS.iconst X7.here hx rfl (hb hby at_24) k) ?_
  show own_Wp p e below _ T7 (mkF m 25 #[.val (.int p0), .unset, .unset, .unset] [(.int (3 : Int32)), (.ref b1), (.ref b1)])
  obtain ⟨T8, X8, e8, st8⟩ := getS2 X7 hx hZ hown (host := "") (Or.inl (hw _ (List.mem_of_getElem? (i := 10) rfl))) Via.refl e7 ((st_w3_INT64 hw hA).ext O7.2) (g := (mkF m 25 #[.val (.int p0), .unset, .unset, .unset] [(.int (3 : Int32)), (.ref b1), (.ref b1)])) rfl (hb hby at_25)
  refine own_step st8 ?_
  show own_Wp p e below _ T8 (mkF m 28 #[.val (.int p0), .unset, .unset, .unset] [(.ref (w3_INT64 Z)), (.int (3 : Int32)), (.ref b1), (.ref b1)])
  obtain ⟨c9, r9, q9, t9, u9, y9h, y9g⟩ := V7
  have i9 : ¬ ((3 : Int32) < 0 ∨ c9.slots.size ≤ ((3 : Int32)).toNatClampNeg) := inb_of t9 ⟨by decide, by decide⟩
  obtain ⟨T9, h9, X9, e9, W9, st9⟩ := stR X8 hx hZ e8 r9 (j := (3 : Int32)) i9 rfl (Sto.ofV r9 q9 O1v (Ins.self ((ex_w3_INT64 hw hA).ext O7.2))) (g := (mkF m 28 #[.val (.int p0), .unset, .unset, .unset] [(.ref (w3_INT64 Z)), (.int (3 : Int32)), (.ref b1), (.ref b1)])) rfl rfl (hb hby at_28)
  refine own_step st9 ?_
  have N9 := Fr.snoc X9 N7 g1
  have O9 := O7.wr W9 g1
  have K9 : Keep h0 h9 [] := K7.wr W9 (Or.inr y1)
  have V9 : Arv Z h9 b1 k1 (.object "com/example/fieldnote/fieldnote/schema/FieldType") (17 : Int32) [(.ref (w0_DOUBLE Z)), (.ref (w1_FLOAT Z)), (.ref (w2_INT32 Z)), (.ref (w3_INT64 Z)), .null, .null, .null, .null, .null, .null, .null, .null, .null, .null, .null, .null, .null] .null := Arv.set r9 q9 t9 u9 y9h y9g rfl W9 3 rfl (Nat.le_of_ble_eq_true rfl)
  show own_Wp p e below _ T9 (mkF m 29 #[.val (.int p0), .unset, .unset, .unset] [(.ref b1)])
  refine own_step (fun _ k => XS.dup X9.here hx rfl (hb hby at_29) rfl rfl k) ?_
  show own_Wp p e below _ T9 (mkF m 30 #[.val (.int p0), .unset, .unset, .unset] [(.ref b1), (.ref b1)])
  refine own_step (fun _ k => XS.iconst X9.here hx rfl (hb hby at_30) k) ?_
  show own_Wp p e below _ T9 (mkF m 31 #[.val (.int p0), .unset, .unset, .unset] [(.int (4 : Int32)), (.ref b1), (.ref b1)])
  obtain ⟨T10, X10, e10, st10⟩ := getS2 X9 hx hZ hown (host := "") (Or.inl (hw _ (List.mem_of_getElem? (i := 12) rfl))) Via.refl e9 ((st_w4_UINT32 hw hA).ext O9.2) (g := (mkF m 31 #[.val (.int p0), .unset, .unset, .unset] [(.int (4 : Int32)), (.ref b1), (.ref b1)])) rfl (hb hby at_31)
  refine own_step st10 ?_
  show own_Wp p e below _ T10 (mkF m 34 #[.val (.int p0), .unset, .unset, .unset] [(.ref (w4_UINT32 Z)), (.int (4 : Int32)), (.ref b1), (.ref b1)])
  obtain ⟨c11, r11, q11, t11, u11, y11h, y11g⟩ := V9
  have i11 : ¬ ((4 : Int32) < 0 ∨ c11.slots.size ≤ ((4 : Int32)).toNatClampNeg) := inb_of t11 ⟨by decide, by decide⟩
  obtain ⟨T11, h11, X11, e11, W11, st11⟩ := stR X10 hx hZ e10 r11 (j := (4 : Int32)) i11 rfl (Sto.ofV r11 q11 O1v (Ins.self ((ex_w4_UINT32 hw hA).ext O9.2))) (g := (mkF m 34 #[.val (.int p0), .unset, .unset, .unset] [(.ref (w4_UINT32 Z)), (.int (4 : Int32)), (.ref b1), (.ref b1)])) rfl rfl (hb hby at_34)
  refine own_step st11 ?_
  have N11 := Fr.snoc X11 N9 g1
  have O11 := O9.wr W11 g1
  have K11 : Keep h0 h11 [] := K9.wr W11 (Or.inr y1)
  have V11 : Arv Z h11 b1 k1 (.object "com/example/fieldnote/fieldnote/schema/FieldType") (17 : Int32) [(.ref (w0_DOUBLE Z)), (.ref (w1_FLOAT Z)), (.ref (w2_INT32 Z)), (.ref (w3_INT64 Z)), (.ref (w4_UINT32 Z)), .null, .null, .null, .null, .null, .null, .null, .null, .null, .null, .null, .null] .null := Arv.set r11 q11 t11 u11 y11h y11g rfl W11 4 rfl (Nat.le_of_ble_eq_true rfl)
  show own_Wp p e below _ T11 (mkF m 35 #[.val (.int p0), .unset, .unset, .unset] [(.ref b1)])
  refine own_step (fun _ k => XS.dup X11.here hx rfl (hb hby at_35) rfl rfl k) ?_
  show own_Wp p e below _ T11 (mkF m 36 #[.val (.int p0), .unset, .unset, .unset] [(.ref b1), (.ref b1)])
  refine own_step (fun _ k => XS.iconst X11.here hx rfl (hb hby at_36) k) ?_
  show own_Wp p e below _ T11 (mkF m 37 #[.val (.int p0), .unset, .unset, .unset] [(.int (5 : Int32)), (.ref b1), (.ref b1)])
  obtain ⟨T12, X12, e12, st12⟩ := getS2 X11 hx hZ hown (host := "") (Or.inl (hw _ (List.mem_of_getElem? (i := 14) rfl))) Via.refl e11 ((st_w5_UINT64 hw hA).ext O11.2) (g := (mkF m 37 #[.val (.int p0), .unset, .unset, .unset] [(.int (5 : Int32)), (.ref b1), (.ref b1)])) rfl (hb hby at_37)
  refine own_step st12 ?_
  show own_Wp p e below _ T12 (mkF m 40 #[.val (.int p0), .unset, .unset, .unset] [(.ref (w5_UINT64 Z)), (.int (5 : Int32)), (.ref b1), (.ref b1)])
  obtain ⟨c13, r13, q13, t13, u13, y13h, y13g⟩ := V11
  have i13 : ¬ ((5 : Int32) < 0 ∨ c13.slots.size ≤ ((5 : Int32)).toNatClampNeg) := inb_of t13 ⟨by decide, by decide⟩
  obtain ⟨T13, h13, X13, e13, W13, st13⟩ := stR X12 hx hZ e12 r13 (j := (5 : Int32)) i13 rfl (Sto.ofV r13 q13 O1v (Ins.self ((ex_w5_UINT64 hw hA).ext O11.2))) (g := (mkF m 40 #[.val (.int p0), .unset, .unset, .unset] [(.ref (w5_UINT64 Z)), (.int (5 : Int32)), (.ref b1), (.ref b1)])) rfl rfl (hb hby at_40)
  refine own_step st13 ?_
  have N13 := Fr.snoc X13 N11 g1
  have O13 := O11.wr W13 g1
  have K13 : Keep h0 h13 [] := K11.wr W13 (Or.inr y1)
  have V13 : Arv Z h13 b1 k1 (.object "com/example/fieldnote/fieldnote/schema/FieldType") (17 : Int32) [(.ref (w0_DOUBLE Z)), (.ref (w1_FLOAT Z)), (.ref (w2_INT32 Z)), (.ref (w3_INT64 Z)), (.ref (w4_UINT32 Z)), (.ref (w5_UINT64 Z)), .null, .null, .null, .null, .null, .null, .null, .null, .null, .null, .null] .null := Arv.set r13 q13 t13 u13 y13h y13g rfl W13 5 rfl (Nat.le_of_ble_eq_true rfl)
  show own_Wp p e below _ T13 (mkF m 41 #[.val (.int p0), .unset, .unset, .unset] [(.ref b1)])
  refine own_step (fun _ k => XS.dup X13.here hx rfl (hb hby at_41) rfl rfl k) ?_
  show own_Wp p e below _ T13 (mkF m 42 #[.val (.int p0), .unset, .unset, .unset] [(.ref b1), (.ref b1)])
  refine own_step (fun _ k => XS.bipush X13.here hx rfl (hb hby at_42) k) ?_
  show own_Wp p e below _ T13 (mkF m 44 #[.val (.int p0), .unset, .unset, .unset] [(.int (6 : Int32)), (.ref b1), (.ref b1)])
  obtain ⟨T14, X14, e14, st14⟩ := getS2 X13 hx hZ hown (host := "") (Or.inl (hw _ (List.mem_of_getElem? (i := 16) rfl))) Via.refl e13 ((st_w6_SINT32 hw hA).ext O13.2) (g := (mkF m 44 #[.val (.int p0), .unset, .unset, .unset] [(.int (6 : Int32)), (.ref b1), (.ref b1)])) rfl (hb hby at_44)
  refine own_step st14 ?_
  show own_Wp p e below _ T14 (mkF m 47 #[.val (.int p0), .unset, .unset, .unset] [(.ref (w6_SINT32 Z)), (.int (6 : Int32)), (.ref b1), (.ref b1)])
  obtain ⟨c15, r15, q15, t15, u15, y15h, y15g⟩ := V13
  have i15 : ¬ ((6 : Int32) < 0 ∨ c15.slots.size ≤ ((6 : Int32)).toNatClampNeg) := inb_of t15 ⟨by decide, by decide⟩
  obtain ⟨T15, h15, X15, e15, W15, st15⟩ := stR X14 hx hZ e14 r15 (j := (6 : Int32)) i15 rfl (Sto.ofV r15 q15 O1v (Ins.self ((ex_w6_SINT32 hw hA).ext O13.2))) (g := (mkF m 47 #[.val (.int p0), .unset, .unset, .unset] [(.ref (w6_SINT32 Z)), (.int (6 : Int32)), (.ref b1), (.ref b1)])) rfl rfl (hb hby at_47)
  refine own_step st15 ?_
  have N15 := Fr.snoc X15 N13 g1
  have O15 := O13.wr W15 g1
  have K15 : Keep h0 h15 [] := K13.wr W15 (Or.inr y1)
  have V15 : Arv Z h15 b1 k1 (.object "com/example/fieldnote/fieldnote/schema/FieldType") (17 : Int32) [(.ref (w0_DOUBLE Z)), (.ref (w1_FLOAT Z)), (.ref (w2_INT32 Z)), (.ref (w3_INT64 Z)), (.ref (w4_UINT32 Z)), (.ref (w5_UINT64 Z)), (.ref (w6_SINT32 Z)), .null, .null, .null, .null, .null, .null, .null, .null, .null, .null] .null := Arv.set r15 q15 t15 u15 y15h y15g rfl W15 6 rfl (Nat.le_of_ble_eq_true rfl)
  show own_Wp p e below _ T15 (mkF m 48 #[.val (.int p0), .unset, .unset, .unset] [(.ref b1)])
  refine own_step (fun _ k => XS.dup X15.here hx rfl (hb hby at_48) rfl rfl k) ?_
  show own_Wp p e below _ T15 (mkF m 49 #[.val (.int p0), .unset, .unset, .unset] [(.ref b1), (.ref b1)])
  refine own_step (fun _ k => XS.bipush X15.here hx rfl (hb hby at_49) k) ?_
  show own_Wp p e below _ T15 (mkF m 51 #[.val (.int p0), .unset, .unset, .unset] [(.int (7 : Int32)), (.ref b1), (.ref b1)])
  obtain ⟨T16, X16, e16, st16⟩ := getS2 X15 hx hZ hown (host := "") (Or.inl (hw _ (List.mem_of_getElem? (i := 18) rfl))) Via.refl e15 ((st_w7_SINT64 hw hA).ext O15.2) (g := (mkF m 51 #[.val (.int p0), .unset, .unset, .unset] [(.int (7 : Int32)), (.ref b1), (.ref b1)])) rfl (hb hby at_51)
  refine own_step st16 ?_
  show own_Wp p e below _ T16 (mkF m 54 #[.val (.int p0), .unset, .unset, .unset] [(.ref (w7_SINT64 Z)), (.int (7 : Int32)), (.ref b1), (.ref b1)])
  obtain ⟨c17, r17, q17, t17, u17, y17h, y17g⟩ := V15
  have i17 : ¬ ((7 : Int32) < 0 ∨ c17.slots.size ≤ ((7 : Int32)).toNatClampNeg) := inb_of t17 ⟨by decide, by decide⟩
  obtain ⟨T17, h17, X17, e17, W17, st17⟩ := stR X16 hx hZ e16 r17 (j := (7 : Int32)) i17 rfl (Sto.ofV r17 q17 O1v (Ins.self ((ex_w7_SINT64 hw hA).ext O15.2))) (g := (mkF m 54 #[.val (.int p0), .unset, .unset, .unset] [(.ref (w7_SINT64 Z)), (.int (7 : Int32)), (.ref b1), (.ref b1)])) rfl rfl (hb hby at_54)
  refine own_step st17 ?_
  have N17 := Fr.snoc X17 N15 g1
  have O17 := O15.wr W17 g1
  have K17 : Keep h0 h17 [] := K15.wr W17 (Or.inr y1)
  have V17 : Arv Z h17 b1 k1 (.object "com/example/fieldnote/fieldnote/schema/FieldType") (17 : Int32) [(.ref (w0_DOUBLE Z)), (.ref (w1_FLOAT Z)), (.ref (w2_INT32 Z)), (.ref (w3_INT64 Z)), (.ref (w4_UINT32 Z)), (.ref (w5_UINT64 Z)), (.ref (w6_SINT32 Z)), (.ref (w7_SINT64 Z)), .null, .null, .null, .null, .null, .null, .null, .null, .null] .null := Arv.set r17 q17 t17 u17 y17h y17g rfl W17 7 rfl (Nat.le_of_ble_eq_true rfl)
  show own_Wp p e below _ T17 (mkF m 55 #[.val (.int p0), .unset, .unset, .unset] [(.ref b1)])
  refine own_step (fun _ k => XS.dup X17.here hx rfl (hb hby at_55) rfl rfl k) ?_
  show own_Wp p e below _ T17 (mkF m 56 #[.val (.int p0), .unset, .unset, .unset] [(.ref b1), (.ref b1)])
  refine own_step (fun _ k => XS.bipush X17.here hx rfl (hb hby at_56) k) ?_
  show own_Wp p e below _ T17 (mkF m 58 #[.val (.int p0), .unset, .unset, .unset] [(.int (8 : Int32)), (.ref b1), (.ref b1)])
  obtain ⟨T18, X18, e18, st18⟩ := getS2 X17 hx hZ hown (host := "") (Or.inl (hw _ (List.mem_of_getElem? (i := 20) rfl))) Via.refl e17 ((st_w8_FIXED32 hw hA).ext O17.2) (g := (mkF m 58 #[.val (.int p0), .unset, .unset, .unset] [(.int (8 : Int32)), (.ref b1), (.ref b1)])) rfl (hb hby at_58)
  refine own_step st18 ?_
  show own_Wp p e below _ T18 (mkF m 61 #[.val (.int p0), .unset, .unset, .unset] [(.ref (w8_FIXED32 Z)), (.int (8 : Int32)), (.ref b1), (.ref b1)])
  obtain ⟨c19, r19, q19, t19, u19, y19h, y19g⟩ := V17
  have i19 : ¬ ((8 : Int32) < 0 ∨ c19.slots.size ≤ ((8 : Int32)).toNatClampNeg) := inb_of t19 ⟨by decide, by decide⟩
  obtain ⟨T19, h19, X19, e19, W19, st19⟩ := stR X18 hx hZ e18 r19 (j := (8 : Int32)) i19 rfl (Sto.ofV r19 q19 O1v (Ins.self ((ex_w8_FIXED32 hw hA).ext O17.2))) (g := (mkF m 61 #[.val (.int p0), .unset, .unset, .unset] [(.ref (w8_FIXED32 Z)), (.int (8 : Int32)), (.ref b1), (.ref b1)])) rfl rfl (hb hby at_61)
  refine own_step st19 ?_
  have N19 := Fr.snoc X19 N17 g1
  have O19 := O17.wr W19 g1
  have K19 : Keep h0 h19 [] := K17.wr W19 (Or.inr y1)
  have V19 : Arv Z h19 b1 k1 (.object "com/example/fieldnote/fieldnote/schema/FieldType") (17 : Int32) [(.ref (w0_DOUBLE Z)), (.ref (w1_FLOAT Z)), (.ref (w2_INT32 Z)), (.ref (w3_INT64 Z)), (.ref (w4_UINT32 Z)), (.ref (w5_UINT64 Z)), (.ref (w6_SINT32 Z)), (.ref (w7_SINT64 Z)), (.ref (w8_FIXED32 Z)), .null, .null, .null, .null, .null, .null, .null, .null] .null := Arv.set r19 q19 t19 u19 y19h y19g rfl W19 8 rfl (Nat.le_of_ble_eq_true rfl)
  show own_Wp p e below _ T19 (mkF m 62 #[.val (.int p0), .unset, .unset, .unset] [(.ref b1)])
  refine own_step (fun _ k => XS.dup X19.here hx rfl (hb hby at_62) rfl rfl k) ?_
  show own_Wp p e below _ T19 (mkF m 63 #[.val (.int p0), .unset, .unset, .unset] [(.ref b1), (.ref b1)])
  refine own_step (fun _ k => XS.bipush X19.here hx rfl (hb hby at_63) k) ?_
  show own_Wp p e below _ T19 (mkF m 65 #[.val (.int p0), .unset, .unset, .unset] [(.int (9 : Int32)), (.ref b1), (.ref b1)])
  obtain ⟨T20, X20, e20, st20⟩ := getS2 X19 hx hZ hown (host := "") (Or.inl (hw _ (List.mem_of_getElem? (i := 22) rfl))) Via.refl e19 ((st_w9_FIXED64 hw hA).ext O19.2) (g := (mkF m 65 #[.val (.int p0), .unset, .unset, .unset] [(.int (9 : Int32)), (.ref b1), (.ref b1)])) rfl (hb hby at_65)
  refine own_step st20 ?_
  show own_Wp p e below _ T20 (mkF m 68 #[.val (.int p0), .unset, .unset, .unset] [(.ref (w9_FIXED64 Z)), (.int (9 : Int32)), (.ref b1), (.ref b1)])
  obtain ⟨c21, r21, q21, t21, u21, y21h, y21g⟩ := V19
  have i21 : ¬ ((9 : Int32) < 0 ∨ c21.slots.size ≤ ((9 : Int32)).toNatClampNeg) := inb_of t21 ⟨by decide, by decide⟩
  obtain ⟨T21, h21, X21, e21, W21, st21⟩ := stR X20 hx hZ e20 r21 (j := (9 : Int32)) i21 rfl (Sto.ofV r21 q21 O1v (Ins.self ((ex_w9_FIXED64 hw hA).ext O19.2))) (g := (mkF m 68 #[.val (.int p0), .unset, .unset, .unset] [(.ref (w9_FIXED64 Z)), (.int (9 : Int32)), (.ref b1), (.ref b1)])) rfl rfl (hb hby at_68)
  refine own_step st21 ?_
  have N21 := Fr.snoc X21 N19 g1
  have O21 := O19.wr W21 g1
  have K21 : Keep h0 h21 [] := K19.wr W21 (Or.inr y1)
  have V21 : Arv Z h21 b1 k1 (.object "com/example/fieldnote/fieldnote/schema/FieldType") (17 : Int32) [(.ref (w0_DOUBLE Z)), (.ref (w1_FLOAT Z)), (.ref (w2_INT32 Z)), (.ref (w3_INT64 Z)), (.ref (w4_UINT32 Z)), (.ref (w5_UINT64 Z)), (.ref (w6_SINT32 Z)), (.ref (w7_SINT64 Z)), (.ref (w8_FIXED32 Z)), (.ref (w9_FIXED64 Z)), .null, .null, .null, .null, .null, .null, .null] .null := Arv.set r21 q21 t21 u21 y21h y21g rfl W21 9 rfl (Nat.le_of_ble_eq_true rfl)
  show own_Wp p e below _ T21 (mkF m 69 #[.val (.int p0), .unset, .unset, .unset] [(.ref b1)])
  refine own_step (fun _ k => XS.dup X21.here hx rfl (hb hby at_69) rfl rfl k) ?_
  show own_Wp p e below _ T21 (mkF m 70 #[.val (.int p0), .unset, .unset, .unset] [(.ref b1), (.ref b1)])
  refine own_step (fun _ k => XS.bipush X21.here hx rfl (hb hby at_70) k) ?_
  show own_Wp p e below _ T21 (mkF m 72 #[.val (.int p0), .unset, .unset, .unset] [(.int (10 : Int32)), (.ref b1), (.ref b1)])
  obtain ⟨T22, X22, e22, st22⟩ := getS2 X21 hx hZ hown (host := "") (Or.inl (hw _ (List.mem_of_getElem? (i := 24) rfl))) Via.refl e21 ((st_w10_SFIXED32 hw hA).ext O21.2) (g := (mkF m 72 #[.val (.int p0), .unset, .unset, .unset] [(.int (10 : Int32)), (.ref b1), (.ref b1)])) rfl (hb hby at_72)
  refine own_step st22 ?_
  show own_Wp p e below _ T22 (mkF m 75 #[.val (.int p0), .unset, .unset, .unset] [(.ref (w10_SFIXED32 Z)), (.int (10 : Int32)), (.ref b1), (.ref b1)])
  obtain ⟨c23, r23, q23, t23, u23, y23h, y23g⟩ := V21
  have i23 : ¬ ((10 : Int32) < 0 ∨ c23.slots.size ≤ ((10 : Int32)).toNatClampNeg) := inb_of t23 ⟨by decide, by decide⟩
  obtain ⟨T23, h23, X23, e23, W23, st23⟩ := stR X22 hx hZ e22 r23 (j := (10 : Int32)) i23 rfl (Sto.ofV r23 q23 O1v (Ins.self ((ex_w10_SFIXED32 hw hA).ext O21.2))) (g := (mkF m 75 #[.val (.int p0), .unset, .unset, .unset] [(.ref (w10_SFIXED32 Z)), (.int (10 : Int32)), (.ref b1), (.ref b1)])) rfl rfl (hb hby at_75)
  refine own_step st23 ?_
  have N23 := Fr.snoc X23 N21 g1
  have O23 := O21.wr W23 g1
  have K23 : Keep h0 h23 [] := K21.wr W23 (Or.inr y1)
  have V23 : Arv Z h23 b1 k1 (.object "com/example/fieldnote/fieldnote/schema/FieldType") (17 : Int32) [(.ref (w0_DOUBLE Z)), (.ref (w1_FLOAT Z)), (.ref (w2_INT32 Z)), (.ref (w3_INT64 Z)), (.ref (w4_UINT32 Z)), (.ref (w5_UINT64 Z)), (.ref (w6_SINT32 Z)), (.ref (w7_SINT64 Z)), (.ref (w8_FIXED32 Z)), (.ref (w9_FIXED64 Z)), (.ref (w10_SFIXED32 Z)), .null, .null, .null, .null, .null, .null] .null := Arv.set r23 q23 t23 u23 y23h y23g rfl W23 10 rfl (Nat.le_of_ble_eq_true rfl)
  show own_Wp p e below _ T23 (mkF m 76 #[.val (.int p0), .unset, .unset, .unset] [(.ref b1)])
  refine own_step (fun _ k => XS.dup X23.here hx rfl (hb hby at_76) rfl rfl k) ?_
  show own_Wp p e below _ T23 (mkF m 77 #[.val (.int p0), .unset, .unset, .unset] [(.ref b1), (.ref b1)])
  refine own_step (fun _ k => XS.bipush X23.here hx rfl (hb hby at_77) k) ?_
  show own_Wp p e below _ T23 (mkF m 79 #[.val (.int p0), .unset, .unset, .unset] [(.int (11 : Int32)), (.ref b1), (.ref b1)])
  obtain ⟨T24, X24, e24, st24⟩ := getS2 X23 hx hZ hown (host := "") (Or.inl (hw _ (List.mem_of_getElem? (i := 26) rfl))) Via.refl e23 ((st_w11_SFIXED64 hw hA).ext O23.2) (g := (mkF m 79 #[.val (.int p0), .unset, .unset, .unset] [(.int (11 : Int32)), (.ref b1), (.ref b1)])) rfl (hb hby at_79)
  refine own_step st24 ?_
  show own_Wp p e below _ T24 (mkF m 82 #[.val (.int p0), .unset, .unset, .unset] [(.ref (w11_SFIXED64 Z)), (.int (11 : Int32)), (.ref b1), (.ref b1)])
  obtain ⟨c25, r25, q25, t25, u25, y25h, y25g⟩ := V23
  have i25 : ¬ ((11 : Int32) < 0 ∨ c25.slots.size ≤ ((11 : Int32)).toNatClampNeg) := inb_of t25 ⟨by decide, by decide⟩
  obtain ⟨T25, h25, X25, e25, W25, st25⟩ := stR X24 hx hZ e24 r25 (j := (11 : Int32)) i25 rfl (Sto.ofV r25 q25 O1v (Ins.self ((ex_w11_SFIXED64 hw hA).ext O23.2))) (g := (mkF m 82 #[.val (.int p0), .unset, .unset, .unset] [(.ref (w11_SFIXED64 Z)), (.int (11 : Int32)), (.ref b1), (.ref b1)])) rfl rfl (hb hby at_82)
  refine own_step st25 ?_
  have N25 := Fr.snoc X25 N23 g1
  have O25 := O23.wr W25 g1
  have K25 : Keep h0 h25 [] := K23.wr W25 (Or.inr y1)
  have V25 : Arv Z h25 b1 k1 (.object "com/example/fieldnote/fieldnote/schema/FieldType") (17 : Int32) [(.ref (w0_DOUBLE Z)), (.ref (w1_FLOAT Z)), (.ref (w2_INT32 Z)), (.ref (w3_INT64 Z)), (.ref (w4_UINT32 Z)), (.ref (w5_UINT64 Z)), (.ref (w6_SINT32 Z)), (.ref (w7_SINT64 Z)), (.ref (w8_FIXED32 Z)), (.ref (w9_FIXED64 Z)), (.ref (w10_SFIXED32 Z)), (.ref (w11_SFIXED64 Z)), .null, .null, .null, .null, .null] .null := Arv.set r25 q25 t25 u25 y25h y25g rfl W25 11 rfl (Nat.le_of_ble_eq_true rfl)
  show own_Wp p e below _ T25 (mkF m 83 #[.val (.int p0), .unset, .unset, .unset] [(.ref b1)])
  refine own_step (fun _ k => XS.dup X25.here hx rfl (hb hby at_83) rfl rfl k) ?_
  show own_Wp p e below _ T25 (mkF m 84 #[.val (.int p0), .unset, .unset, .unset] [(.ref b1), (.ref b1)])
  refine own_step (fun _ k => XS.bipush X25.here hx rfl (hb hby at_84) k) ?_
  show own_Wp p e below _ T25 (mkF m 86 #[.val (.int p0), .unset, .unset, .unset] [(.int (12 : Int32)), (.ref b1), (.ref b1)])
  obtain ⟨T26, X26, e26, st26⟩ := getS2 X25 hx hZ hown (host := "") (Or.inl (hw _ (List.mem_of_getElem? (i := 28) rfl))) Via.refl e25 ((st_w12_BOOL hw hA).ext O25.2) (g := (mkF m 86 #[.val (.int p0), .unset, .unset, .unset] [(.int (12 : Int32)), (.ref b1), (.ref b1)])) rfl (hb hby at_86)
  refine own_step st26 ?_
  show own_Wp p e below _ T26 (mkF m 89 #[.val (.int p0), .unset, .unset, .unset] [(.ref (w12_BOOL Z)), (.int (12 : Int32)), (.ref b1), (.ref b1)])
  obtain ⟨c27, r27, q27, t27, u27, y27h, y27g⟩ := V25
  have i27 : ¬ ((12 : Int32) < 0 ∨ c27.slots.size ≤ ((12 : Int32)).toNatClampNeg) := inb_of t27 ⟨by decide, by decide⟩
  obtain ⟨T27, h27, X27, e27, W27, st27⟩ := stR X26 hx hZ e26 r27 (j := (12 : Int32)) i27 rfl (Sto.ofV r27 q27 O1v (Ins.self ((ex_w12_BOOL hw hA).ext O25.2))) (g := (mkF m 89 #[.val (.int p0), .unset, .unset, .unset] [(.ref (w12_BOOL Z)), (.int (12 : Int32)), (.ref b1), (.ref b1)])) rfl rfl (hb hby at_89)
  refine own_step st27 ?_
  have N27 := Fr.snoc X27 N25 g1
  have O27 := O25.wr W27 g1
  have K27 : Keep h0 h27 [] := K25.wr W27 (Or.inr y1)
  have V27 : Arv Z h27 b1 k1 (.object "com/example/fieldnote/fieldnote/schema/FieldType") (17 : Int32) [(.ref (w0_DOUBLE Z)), (.ref (w1_FLOAT Z)), (.ref (w2_INT32 Z)), (.ref (w3_INT64 Z)), (.ref (w4_UINT32 Z)), (.ref (w5_UINT64 Z)), (.ref (w6_SINT32 Z)), (.ref (w7_SINT64 Z)), (.ref (w8_FIXED32 Z)), (.ref (w9_FIXED64 Z)), (.ref (w10_SFIXED32 Z)), (.ref (w11_SFIXED64 Z)), (.ref (w12_BOOL Z)), .null, .null, .null, .null] .null := Arv.set r27 q27 t27 u27 y27h y27g rfl W27 12 rfl (Nat.le_of_ble_eq_true rfl)
  show own_Wp p e below _ T27 (mkF m 90 #[.val (.int p0), .unset, .unset, .unset] [(.ref b1)])
  refine own_step (fun _ k => XS.dup X27.here hx rfl (hb hby at_90) rfl rfl k) ?_
  show own_Wp p e below _ T27 (mkF m 91 #[.val (.int p0), .unset, .unset, .unset] [(.ref b1), (.ref b1)])
  refine own_step (fun _ k => XS.bipush X27.here hx rfl (hb hby at_91) k) ?_
  show own_Wp p e below _ T27 (mkF m 93 #[.val (.int p0), .unset, .unset, .unset] [(.int (13 : Int32)), (.ref b1), (.ref b1)])
  obtain ⟨T28, X28, e28, st28⟩ := getS2 X27 hx hZ hown (host := "") (Or.inl (hw _ (List.mem_of_getElem? (i := 30) rfl))) Via.refl e27 ((st_w13_STRING hw hA).ext O27.2) (g := (mkF m 93 #[.val (.int p0), .unset, .unset, .unset] [(.int (13 : Int32)), (.ref b1), (.ref b1)])) rfl (hb hby at_93)
  refine own_step st28 ?_
  show own_Wp p e below _ T28 (mkF m 96 #[.val (.int p0), .unset, .unset, .unset] [(.ref (w13_STRING Z)), (.int (13 : Int32)), (.ref b1), (.ref b1)])
  obtain ⟨c29, r29, q29, t29, u29, y29h, y29g⟩ := V27
  have i29 : ¬ ((13 : Int32) < 0 ∨ c29.slots.size ≤ ((13 : Int32)).toNatClampNeg) := inb_of t29 ⟨by decide, by decide⟩
  obtain ⟨T29, h29, X29, e29, W29, st29⟩ := stR X28 hx hZ e28 r29 (j := (13 : Int32)) i29 rfl (Sto.ofV r29 q29 O1v (Ins.self ((ex_w13_STRING hw hA).ext O27.2))) (g := (mkF m 96 #[.val (.int p0), .unset, .unset, .unset] [(.ref (w13_STRING Z)), (.int (13 : Int32)), (.ref b1), (.ref b1)])) rfl rfl (hb hby at_96)
  refine own_step st29 ?_
  have N29 := Fr.snoc X29 N27 g1
  have O29 := O27.wr W29 g1
  have K29 : Keep h0 h29 [] := K27.wr W29 (Or.inr y1)
  have V29 : Arv Z h29 b1 k1 (.object "com/example/fieldnote/fieldnote/schema/FieldType") (17 : Int32) [(.ref (w0_DOUBLE Z)), (.ref (w1_FLOAT Z)), (.ref (w2_INT32 Z)), (.ref (w3_INT64 Z)), (.ref (w4_UINT32 Z)), (.ref (w5_UINT64 Z)), (.ref (w6_SINT32 Z)), (.ref (w7_SINT64 Z)), (.ref (w8_FIXED32 Z)), (.ref (w9_FIXED64 Z)), (.ref (w10_SFIXED32 Z)), (.ref (w11_SFIXED64 Z)), (.ref (w12_BOOL Z)), (.ref (w13_STRING Z)), .null, .null, .null] .null := Arv.set r29 q29 t29 u29 y29h y29g rfl W29 13 rfl (Nat.le_of_ble_eq_true rfl)
  show own_Wp p e below _ T29 (mkF m 97 #[.val (.int p0), .unset, .unset, .unset] [(.ref b1)])
  refine own_step (fun _ k => XS.dup X29.here hx rfl (hb hby at_97) rfl rfl k) ?_
  show own_Wp p e below _ T29 (mkF m 98 #[.val (.int p0), .unset, .unset, .unset] [(.ref b1), (.ref b1)])
  refine own_step (fun _ k => XS.bipush X29.here hx rfl (hb hby at_98) k) ?_
  show own_Wp p e below _ T29 (mkF m 100 #[.val (.int p0), .unset, .unset, .unset] [(.int (14 : Int32)), (.ref b1), (.ref b1)])
  obtain ⟨T30, X30, e30, st30⟩ := getS2 X29 hx hZ hown (host := "") (Or.inl (hw _ (List.mem_of_getElem? (i := 32) rfl))) Via.refl e29 ((st_w14_BYTES hw hA).ext O29.2) (g := (mkF m 100 #[.val (.int p0), .unset, .unset, .unset] [(.int (14 : Int32)), (.ref b1), (.ref b1)])) rfl (hb hby at_100)
  refine own_step st30 ?_
  show own_Wp p e below _ T30 (mkF m 103 #[.val (.int p0), .unset, .unset, .unset] [(.ref (w14_BYTES Z)), (.int (14 : Int32)), (.ref b1), (.ref b1)])
  obtain ⟨c31, r31, q31, t31, u31, y31h, y31g⟩ := V29
  have i31 : ¬ ((14 : Int32) < 0 ∨ c31.slots.size ≤ ((14 : Int32)).toNatClampNeg) := inb_of t31 ⟨by decide, by decide⟩
  obtain ⟨T31, h31, X31, e31, W31, st31⟩ := stR X30 hx hZ e30 r31 (j := (14 : Int32)) i31 rfl (Sto.ofV r31 q31 O1v (Ins.self ((ex_w14_BYTES hw hA).ext O29.2))) (g := (mkF m 103 #[.val (.int p0), .unset, .unset, .unset] [(.ref (w14_BYTES Z)), (.int (14 : Int32)), (.ref b1), (.ref b1)])) rfl rfl (hb hby at_103)
  refine own_step st31 ?_
  have N31 := Fr.snoc X31 N29 g1
  have O31 := O29.wr W31 g1
  have K31 : Keep h0 h31 [] := K29.wr W31 (Or.inr y1)
  have V31 : Arv Z h31 b1 k1 (.object "com/example/fieldnote/fieldnote/schema/FieldType") (17 : Int32) [(.ref (w0_DOUBLE Z)), (.ref (w1_FLOAT Z)), (.ref (w2_INT32 Z)), (.ref (w3_INT64 Z)), (.ref (w4_UINT32 Z)), (.ref (w5_UINT64 Z)), (.ref (w6_SINT32 Z)), (.ref (w7_SINT64 Z)), (.ref (w8_FIXED32 Z)), (.ref (w9_FIXED64 Z)), (.ref (w10_SFIXED32 Z)), (.ref (w11_SFIXED64 Z)), (.ref (w12_BOOL Z)), (.ref (w13_STRING Z)), (.ref (w14_BYTES Z)), .null, .null] .null := Arv.set r31 q31 t31 u31 y31h y31g rfl W31 14 rfl (Nat.le_of_ble_eq_true rfl)
  show own_Wp p e below _ T31 (mkF m 104 #[.val (.int p0), .unset, .unset, .unset] [(.ref b1)])
  refine own_step (fun _ k => XS.dup X31.here hx rfl (hb hby at_104) rfl rfl k) ?_
  show own_Wp p e below _ T31 (mkF m 105 #[.val (.int p0), .unset, .unset, .unset] [(.ref b1), (.ref b1)])
  refine own_step (fun _ k => XS.bipush X31.here hx rfl (hb hby at_105) k) ?_
  show own_Wp p e below _ T31 (mkF m 107 #[.val (.int p0), .unset, .unset, .unset] [(.int (15 : Int32)), (.ref b1), (.ref b1)])
  obtain ⟨T32, X32, e32, st32⟩ := getS2 X31 hx hZ hown (host := "") (Or.inl (hw _ (List.mem_of_getElem? (i := 34) rfl))) Via.refl e31 ((st_w15_ENUM hw hA).ext O31.2) (g := (mkF m 107 #[.val (.int p0), .unset, .unset, .unset] [(.int (15 : Int32)), (.ref b1), (.ref b1)])) rfl (hb hby at_107)
  refine own_step st32 ?_
  show own_Wp p e below _ T32 (mkF m 110 #[.val (.int p0), .unset, .unset, .unset] [(.ref (w15_ENUM Z)), (.int (15 : Int32)), (.ref b1), (.ref b1)])
  obtain ⟨c33, r33, q33, t33, u33, y33h, y33g⟩ := V31
  have i33 : ¬ ((15 : Int32) < 0 ∨ c33.slots.size ≤ ((15 : Int32)).toNatClampNeg) := inb_of t33 ⟨by decide, by decide⟩
  obtain ⟨T33, h33, X33, e33, W33, st33⟩ := stR X32 hx hZ e32 r33 (j := (15 : Int32)) i33 rfl (Sto.ofV r33 q33 O1v (Ins.self ((ex_w15_ENUM hw hA).ext O31.2))) (g := (mkF m 110 #[.val (.int p0), .unset, .unset, .unset] [(.ref (w15_ENUM Z)), (.int (15 : Int32)), (.ref b1), (.ref b1)])) rfl rfl (hb hby at_110)
  refine own_step st33 ?_
  have N33 := Fr.snoc X33 N31 g1
  have O33 := O31.wr W33 g1
  have K33 : Keep h0 h33 [] := K31.wr W33 (Or.inr y1)
  have V33 : Arv Z h33 b1 k1 (.object "com/example/fieldnote/fieldnote/schema/FieldType") (17 : Int32) [(.ref (w0_DOUBLE Z)), (.ref (w1_FLOAT Z)), (.ref (w2_INT32 Z)), (.ref (w3_INT64 Z)), (.ref (w4_UINT32 Z)), (.ref (w5_UINT64 Z)), (.ref (w6_SINT32 Z)), (.ref (w7_SINT64 Z)), (.ref (w8_FIXED32 Z)), (.ref (w9_FIXED64 Z)), (.ref (w10_SFIXED32 Z)), (.ref (w11_SFIXED64 Z)), (.ref (w12_BOOL Z)), (.ref (w13_STRING Z)), (.ref (w14_BYTES Z)), (.ref (w15_ENUM Z)), .null] .null := Arv.set r33 q33 t33 u33 y33h y33g rfl W33 15 rfl (Nat.le_of_ble_eq_true rfl)
  show own_Wp p e below _ T33 (mkF m 111 #[.val (.int p0), .unset, .unset, .unset] [(.ref b1)])
  refine own_step (fun _ k => XS.dup X33.here hx rfl (hb hby at_111) rfl rfl k) ?_
  show own_Wp p e below _ T33 (mkF m 112 #[.val (.int p0), .unset, .unset, .unset] [(.ref b1), (.ref b1)])
  refine own_step (fun _ k => XS.bipush X33.here hx rfl (hb hby at_112) k) ?_
  show own_Wp p e below _ T33 (mkF m 114 #[.val (.int p0), .unset, .unset, .unset] [(.int (16 : Int32)), (.ref b1), (.ref b1)])
  obtain ⟨T34, X34, e34, st34⟩ := getS2 X33 hx hZ hown (host := "") (Or.inl (hw _ (List.mem_of_getElem? (i := 36) rfl))) Via.refl e33 ((st_w16_MESSAGE hw hA).ext O33.2) (g := (mkF m 114 #[.val (.int p0), .unset, .unset, .unset] [(.int (16 : Int32)), (.ref b1), (.ref b1)])) rfl (hb hby at_114)
  refine own_step st34 ?_
  show own_Wp p e below _ T34 (mkF m 117 #[.val (.int p0), .unset, .unset, .unset] [(.ref (w16_MESSAGE Z)), (.int (16 : Int32)), (.ref b1), (.ref b1)])
  obtain ⟨c35, r35, q35, t35, u35, y35h, y35g⟩ := V33
  have i35 : ¬ ((16 : Int32) < 0 ∨ c35.slots.size ≤ ((16 : Int32)).toNatClampNeg) := inb_of t35 ⟨by decide, by decide⟩
  obtain ⟨T35, h35, X35, e35, W35, st35⟩ := stR X34 hx hZ e34 r35 (j := (16 : Int32)) i35 rfl (Sto.ofV r35 q35 O1v (Ins.self ((ex_w16_MESSAGE hw hA).ext O33.2))) (g := (mkF m 117 #[.val (.int p0), .unset, .unset, .unset] [(.ref (w16_MESSAGE Z)), (.int (16 : Int32)), (.ref b1), (.ref b1)])) rfl rfl (hb hby at_117)
  refine own_step st35 ?_
  have N35 := Fr.snoc X35 N33 g1
  have O35 := O33.wr W35 g1
  have K35 : Keep h0 h35 [] := K33.wr W35 (Or.inr y1)
  have V35 : Arv Z h35 b1 k1 (.object "com/example/fieldnote/fieldnote/schema/FieldType") (17 : Int32) [(.ref (w0_DOUBLE Z)), (.ref (w1_FLOAT Z)), (.ref (w2_INT32 Z)), (.ref (w3_INT64 Z)), (.ref (w4_UINT32 Z)), (.ref (w5_UINT64 Z)), (.ref (w6_SINT32 Z)), (.ref (w7_SINT64 Z)), (.ref (w8_FIXED32 Z)), (.ref (w9_FIXED64 Z)), (.ref (w10_SFIXED32 Z)), (.ref (w11_SFIXED64 Z)), (.ref (w12_BOOL Z)), (.ref (w13_STRING Z)), (.ref (w14_BYTES Z)), (.ref (w15_ENUM Z)), (.ref (w16_MESSAGE Z))] .null := Arv.set r35 q35 t35 u35 y35h y35g rfl W35 16 rfl (Nat.le_of_ble_eq_true rfl)
  show own_Wp p e below _ T35 (mkF m 118 #[.val (.int p0), .unset, .unset, .unset] [(.ref b1)])
  refine own_step (fun _ k => XS.astoreN X35.here hx rfl (hb hby at_118) rfl rfl (l' := #[.val (.int p0), .val (.ref b1), .unset, .unset]) rfl k) ?_
  show own_Wp p e below _ T35 (mkF m 119 #[.val (.int p0), .val (.ref b1), .unset, .unset] [])
  refine own_step (fun _ k => XS.bipush X35.here hx rfl (hb hby at_119) k) ?_
  show own_Wp p e below _ T35 (mkF m 121 #[.val (.int p0), .val (.ref b1), .unset, .unset] [(.int (17 : Int32))])
  obtain ⟨T36, h36, k36, X36, e36, E36, A36, st36⟩ := newP X35 hx hZ (hw _ (List.mem_of_getElem? (i := 38) rfl)) e35 (g := (mkF m 121 #[.val (.int p0), .val (.ref b1), .unset, .unset] [(.int (17 : Int32))])) rfl (hb hby at_121) rfl (by decide) (cap := 17) (by decide) (by decide) (by decide) (by decide)
  obtain ⟨b36, z36⟩ : ∃ z, z = h35.size := ⟨_, rfl⟩
  rw [← z36] at A36 st36
  refine own_step st36 ?_
  have g36 : n0 ≤ b36 := Nat.le_trans (O35.1 ▸ O35.2.1) (Nat.le_of_eq z36.symm)
  have ne36_0 : b1 ≠ b36 := Nat.ne_of_lt (Nat.lt_of_lt_of_le V35.lt (Nat.le_of_eq z36.symm))
  have y36 : h0.size ≤ b36 := Nat.le_trans (K35.1) (Nat.le_of_eq z36.symm)
  have O36 := O35.ext E36
  have K36 : Keep h0 h36 [] := K35.ext E36
  have V36 : Arv Z h36 b36 k36 .boolean (17 : Int32) [(.int (0 : Int32)), (.int (0 : Int32)), (.int (0 : Int32)), (.int (0 : Int32)), (.int (0 : Int32)), (.int (0 : Int32)), (.int (0 : Int32)), (.int (0 : Int32)), (.int (0 : Int32)), (.int (0 : Int32)), (.int (0 : Int32)), (.int (0 : Int32)), (.int (0 : Int32)), (.int (0 : Int32)), (.int (0 : Int32)), (.int (0 : Int32)), (.int (0 : Int32))] (.int (0 : Int32)) := (Arv.new A36 (by decide)).pad (pad_rep [] (.int (0 : Int32)) 17)
  show own_Wp p e below _ T36 (mkF m 123 #[.val (.int p0), .val (.ref b1), .unset, .unset] [(.ref b36)])
  refine own_step (fun _ k => XS.dup X36.here hx rfl (hb hby at_123) rfl rfl k) ?_
  show own_Wp p e below _ T36 (mkF m 124 #[.val (.int p0), .val (.ref b1), .unset, .unset] [(.ref b36), (.ref b36)])
  refine own_step (fun _ k => XS.iconst X36.here hx rfl (hb hby at_124) k) ?_
  show own_Wp p e below _ T36 (mkF m 125 #[.val (.int p0), .val (.ref b1), .unset, .unset] [(.int (0 : Int32)), (.ref b36), (.ref b36)])
  refine own_step (fun _ k => XS.iconst X36.here hx rfl (hb hby at_125) k) ?_
  show own_Wp p e below _ T36 (mkF m 126 #[.val (.int p0), .val (.ref b1), .unset, .unset] [(.int (0 : Int32)), (.int (0 : Int32)), (.ref b36), (.ref b36)])
  obtain ⟨c37, r37, q37, t37, u37, y37h, y37g⟩ := V36
  have i37 : ¬ ((0 : Int32) < 0 ∨ c37.slots.size ≤ ((0 : Int32)).toNatClampNeg) := inb_of t37 ⟨by decide, by decide⟩
  obtain ⟨T37, h37, X37, e37, W37, st37⟩ := stZ X36 hx hZ e36 r37 (j := (0 : Int32)) i37 (g := (mkF m 126 #[.val (.int p0), .val (.ref b1), .unset, .unset] [(.int (0 : Int32)), (.int (0 : Int32)), (.ref b36), (.ref b36)])) rfl rfl (hb hby at_126)
  refine own_step st37 ?_
  have N37 := Fr.snoc X37 N35 g36
  have O37 := O36.wr W37 g36
  have K37 : Keep h0 h37 [] := K36.wr W37 (Or.inr y36)
  have V37 : Arv Z h37 b36 k36 .boolean (17 : Int32) [(.int (0 : Int32)), (.int (0 : Int32)), (.int (0 : Int32)), (.int (0 : Int32)), (.int (0 : Int32)), (.int (0 : Int32)), (.int (0 : Int32)), (.int (0 : Int32)), (.int (0 : Int32)), (.int (0 : Int32)), (.int (0 : Int32)), (.int (0 : Int32)), (.int (0 : Int32)), (.int (0 : Int32)), (.int (0 : Int32)), (.int (0 : Int32)), (.int (0 : Int32))] (.int (0 : Int32)) := Arv.set r37 q37 t37 u37 y37h y37g (fits_nar_bool _) W37 0 rfl (Nat.le_of_ble_eq_true rfl)
  show own_Wp p e below _ T37 (mkF m 127 #[.val (.int p0), .val (.ref b1), .unset, .unset] [(.ref b36)])
  refine own_step (fun _ k => XS.dup X37.here hx rfl (hb hby at_127) rfl rfl k) ?_
  show own_Wp p e below _ T37 (mkF m 128 #[.val (.int p0), .val (.ref b1), .unset, .unset] [(.ref b36), (.ref b36)])
  refine own_step (fun _ k => XS.iconst X37.here hx rfl (hb hby at_128) k) ?_
  show own_Wp p e below _ T37 (mkF m 129 #[.val (.int p0), .val (.ref b1), .unset, .unset] [(.int (1 : Int32)), (.ref b36), (.ref b36)])
  refine own_step (fun _ k => XS.iconst X37.here hx rfl (hb hby at_129) k) ?_
  show own_Wp p e below _ T37 (mkF m 130 #[.val (.int p0), .val (.ref b1), .unset, .unset] [(.int (0 : Int32)), (.int (1 : Int32)), (.ref b36), (.ref b36)])
  obtain ⟨c38, r38, q38, t38, u38, y38h, y38g⟩ := V37
  have i38 : ¬ ((1 : Int32) < 0 ∨ c38.slots.size ≤ ((1 : Int32)).toNatClampNeg) := inb_of t38 ⟨by decide, by decide⟩
  obtain ⟨T38, h38, X38, e38, W38, st38⟩ := stZ X37 hx hZ e37 r38 (j := (1 : Int32)) i38 (g := (mkF m 130 #[.val (.int p0), .val (.ref b1), .unset, .unset] [(.int (0 : Int32)), (.int (1 : Int32)), (.ref b36), (.ref b36)])) rfl rfl (hb hby at_130)
  refine own_step st38 ?_
  have N38 := Fr.snoc X38 N37 g36
  have O38 := O37.wr W38 g36
  have K38 : Keep h0 h38 [] := K37.wr W38 (Or.inr y36)
  have V38 : Arv Z h38 b36 k36 .boolean (17 : Int32) [(.int (0 : Int32)), (.int (0 : Int32)), (.int (0 : Int32)), (.int (0 : Int32)), (.int (0 : Int32)), (.int (0 : Int32)), (.int (0 : Int32)), (.int (0 : Int32)), (.int (0 : Int32)), (.int (0 : Int32)), (.int (0 : Int32)), (.int (0 : Int32)), (.int (0 : Int32)), (.int (0 : Int32)), (.int (0 : Int32)), (.int (0 : Int32)), (.int (0 : Int32))] (.int (0 : Int32)) := Arv.set r38 q38 t38 u38 y38h y38g (fits_nar_bool _) W38 1 rfl (Nat.le_of_ble_eq_true rfl)
  show own_Wp p e below _ T38 (mkF m 131 #[.val (.int p0), .val (.ref b1), .unset, .unset] [(.ref b36)])
  refine own_step (fun _ k => XS.dup X38.here hx rfl (hb hby at_131) rfl rfl k) ?_
  show own_Wp p e below _ T38 (mkF m 132 #[.val (.int p0), .val (.ref b1), .unset, .unset] [(.ref b36), (.ref b36)])
  refine own_step (fun _ k => XS.iconst X38.here hx rfl (hb hby at_132) k) ?_
  show own_Wp p e below _ T38 (mkF m 133 #[.val (.int p0), .val (.ref b1), .unset, .unset] [(.int (2 : Int32)), (.ref b36), (.ref b36)])
  refine own_step (fun _ k => XS.iconst X38.here hx rfl (hb hby at_133) k) ?_
  show own_Wp p e below _ T38 (mkF m 134 #[.val (.int p0), .val (.ref b1), .unset, .unset] [(.int (1 : Int32)), (.int (2 : Int32)), (.ref b36), (.ref b36)])
  obtain ⟨c39, r39, q39, t39, u39, y39h, y39g⟩ := V38
  have i39 : ¬ ((2 : Int32) < 0 ∨ c39.slots.size ≤ ((2 : Int32)).toNatClampNeg) := inb_of t39 ⟨by decide, by decide⟩
  obtain ⟨T39, h39, X39, e39, W39, st39⟩ := stZ X38 hx hZ e38 r39 (j := (2 : Int32)) i39 (g := (mkF m 134 #[.val (.int p0), .val (.ref b1), .unset, .unset] [(.int (1 : Int32)), (.int (2 : Int32)), (.ref b36), (.ref b36)])) rfl rfl (hb hby at_134)
  refine own_step st39 ?_
  have N39 := Fr.snoc X39 N38 g36
  have O39 := O38.wr W39 g36
  have K39 : Keep h0 h39 [] := K38.wr W39 (Or.inr y36)
  have V39 : Arv Z h39 b36 k36 .boolean (17 : Int32) [(.int (0 : Int32)), (.int (0 : Int32)), (.int (1 : Int32)), (.int (0 : Int32)), (.int (0 : Int32)), (.int (0 : Int32)), (.int (0 : Int32)), (.int (0 : Int32)), (.int (0 : Int32)), (.int (0 : Int32)), (.int (0 : Int32)), (.int (0 : Int32)), (.int (0 : Int32)), (.int (0 : Int32)), (.int (0 : Int32)), (.int (0 : Int32)), (.int (0 : Int32))] (.int (0 : Int32)) := Arv.set r39 q39 t39 u39 y39h y39g (fits_nar_bool _) W39 2 rfl (Nat.le_of_ble_eq_true rfl)
  show own_Wp p e below _ T39 (mkF m 135 #[.val (.int p0), .val (.ref b1), .unset, .unset] [(.ref b36)])
  refine own_step (fun _ k => XS.dup X39.here hx rfl (hb hby at_135) rfl rfl k) ?_
  show own_Wp p e below _ T39 (mkF m 136 #[.val (.int p0), .val (.ref b1), .unset, .unset] [(.ref b36), (.ref b36)])
  refine own_step (fun _ k => XS.iconst X39.here hx rfl (hb hby at_136) k) ?_
  show own_Wp p e below _ T39 (mkF m 137 #[.val (.int p0), .val (.ref b1), .unset, .unset] [(.int (3 : Int32)), (.ref b36), (.ref b36)])
  refine own_step (fun _ k => XS.iconst X39.here hx rfl (hb hby at_137) k) ?_
  show own_Wp p e below _ T39 (mkF m 138 #[.val (.int p0), .val (.ref b1), .unset, .unset] [(.int (1 : Int32)), (.int (3 : Int32)), (.ref b36), (.ref b36)])
  obtain ⟨c40, r40, q40, t40, u40, y40h, y40g⟩ := V39
  have i40 : ¬ ((3 : Int32) < 0 ∨ c40.slots.size ≤ ((3 : Int32)).toNatClampNeg) := inb_of t40 ⟨by decide, by decide⟩
  obtain ⟨T40, h40, X40, e40, W40, st40⟩ := stZ X39 hx hZ e39 r40 (j := (3 : Int32)) i40 (g := (mkF m 138 #[.val (.int p0), .val (.ref b1), .unset, .unset] [(.int (1 : Int32)), (.int (3 : Int32)), (.ref b36), (.ref b36)])) rfl rfl (hb hby at_138)
  refine own_step st40 ?_
  have N40 := Fr.snoc X40 N39 g36
  have O40 := O39.wr W40 g36
  have K40 : Keep h0 h40 [] := K39.wr W40 (Or.inr y36)
  have V40 : Arv Z h40 b36 k36 .boolean (17 : Int32) [(.int (0 : Int32)), (.int (0 : Int32)), (.int (1 : Int32)), (.int (1 : Int32)), (.int (0 : Int32)), (.int (0 : Int32)), (.int (0 : Int32)), (.int (0 : Int32)), (.int (0 : Int32)), (.int (0 : Int32)), (.int (0 : Int32)), (.int (0 : Int32)), (.int (0 : Int32)), (.int (0 : Int32)), (.int (0 : Int32)), (.int (0 : Int32)), (.int (0 : Int32))] (.int (0 : Int32)) := Arv.set r40 q40 t40 u40 y40h y40g (fits_nar_bool _) W40 3 rfl (Nat.le_of_ble_eq_true rfl)
  show own_Wp p e below _ T40 (mkF m 139 #[.val (.int p0), .val (.ref b1), .unset, .unset] [(.ref b36)])
  refine own_step (fun _ k => XS.dup X40.here hx rfl (hb hby at_139) rfl rfl k) ?_
  show own_Wp p e below _ T40 (mkF m 140 #[.val (.int p0), .val (.ref b1), .unset, .unset] [(.ref b36), (.ref b36)])
  refine own_step (fun _ k => XS.iconst X40.here hx rfl (hb hby at_140) k) ?_
  show own_Wp p e below _ T40 (mkF m 141 #[.val (.int p0), .val (.ref b1), .unset, .unset] [(.int (4 : Int32)), (.ref b36), (.ref b36)])
  refine own_step (fun _ k => XS.iconst X40.here hx rfl (hb hby at_141) k) ?_
  show own_Wp p e below _ T40 (mkF m 142 #[.val (.int p0), .val (.ref b1), .unset, .unset] [(.int (1 : Int32)), (.int (4 : Int32)), (.ref b36), (.ref b36)])
  obtain ⟨c41, r41, q41, t41, u41, y41h, y41g⟩ := V40
  have i41 : ¬ ((4 : Int32) < 0 ∨ c41.slots.size ≤ ((4 : Int32)).toNatClampNeg) := inb_of t41 ⟨by decide, by decide⟩
  obtain ⟨T41, h41, X41, e41, W41, st41⟩ := stZ X40 hx hZ e40 r41 (j := (4 : Int32)) i41 (g := (mkF m 142 #[.val (.int p0), .val (.ref b1), .unset, .unset] [(.int (1 : Int32)), (.int (4 : Int32)), (.ref b36), (.ref b36)])) rfl rfl (hb hby at_142)
  refine own_step st41 ?_
  have N41 := Fr.snoc X41 N40 g36
  have O41 := O40.wr W41 g36
  have K41 : Keep h0 h41 [] := K40.wr W41 (Or.inr y36)
  have V41 : Arv Z h41 b36 k36 .boolean (17 : Int32) [(.int (0 : Int32)), (.int (0 : Int32)), (.int (1 : Int32)), (.int (1 : Int32)), (.int (1 : Int32)), (.int (0 : Int32)), (.int (0 : Int32)), (.int (0 : Int32)), (.int (0 : Int32)), (.int (0 : Int32)), (.int (0 : Int32)), (.int (0 : Int32)), (.int (0 : Int32)), (.int (0 : Int32)), (.int (0 : Int32)), (.int (0 : Int32)), (.int (0 : Int32))] (.int (0 : Int32)) := Arv.set r41 q41 t41 u41 y41h y41g (fits_nar_bool _) W41 4 rfl (Nat.le_of_ble_eq_true rfl)
  show own_Wp p e below _ T41 (mkF m 143 #[.val (.int p0), .val (.ref b1), .unset, .unset] [(.ref b36)])
  refine own_step (fun _ k => XS.dup X41.here hx rfl (hb hby at_143) rfl rfl k) ?_
  show own_Wp p e below _ T41 (mkF m 144 #[.val (.int p0), .val (.ref b1), .unset, .unset] [(.ref b36), (.ref b36)])
  refine own_step (fun _ k => XS.iconst X41.here hx rfl (hb hby at_144) k) ?_
  show own_Wp p e below _ T41 (mkF m 145 #[.val (.int p0), .val (.ref b1), .unset, .unset] [(.int (5 : Int32)), (.ref b36), (.ref b36)])
  refine own_step (fun _ k => XS.iconst X41.here hx rfl (hb hby at_145) k) ?_
  show own_Wp p e below _ T41 (mkF m 146 #[.val (.int p0), .val (.ref b1), .unset, .unset] [(.int (1 : Int32)), (.int (5 : Int32)), (.ref b36), (.ref b36)])
  obtain ⟨c42, r42, q42, t42, u42, y42h, y42g⟩ := V41
  have i42 : ¬ ((5 : Int32) < 0 ∨ c42.slots.size ≤ ((5 : Int32)).toNatClampNeg) := inb_of t42 ⟨by decide, by decide⟩
  obtain ⟨T42, h42, X42, e42, W42, st42⟩ := stZ X41 hx hZ e41 r42 (j := (5 : Int32)) i42 (g := (mkF m 146 #[.val (.int p0), .val (.ref b1), .unset, .unset] [(.int (1 : Int32)), (.int (5 : Int32)), (.ref b36), (.ref b36)])) rfl rfl (hb hby at_146)
  refine own_step st42 ?_
  have N42 := Fr.snoc X42 N41 g36
  have O42 := O41.wr W42 g36
  have K42 : Keep h0 h42 [] := K41.wr W42 (Or.inr y36)
  have V42 : Arv Z h42 b36 k36 .boolean (17 : Int32) [(.int (0 : Int32)), (.int (0 : Int32)), (.int (1 : Int32)), (.int (1 : Int32)), (.int (1 : Int32)), (.int (1 : Int32)), (.int (0 : Int32)), (.int (0 : Int32)), (.int (0 : Int32)), (.int (0 : Int32)), (.int (0 : Int32)), (.int (0 : Int32)), (.int (0 : Int32)), (.int (0 : Int32)), (.int (0 : Int32)), (.int (0 : Int32)), (.int (0 : Int32))] (.int (0 : Int32)) := Arv.set r42 q42 t42 u42 y42h y42g (fits_nar_bool _) W42 5 rfl (Nat.le_of_ble_eq_true rfl)
  show own_Wp p e below _ T42 (mkF m 147 #[.val (.int p0), .val (.ref b1), .unset, .unset] [(.ref b36)])
  refine own_step (fun _ k => XS.dup X42.here hx rfl (hb hby at_147) rfl rfl k) ?_
  show own_Wp p e below _ T42 (mkF m 148 #[.val (.int p0), .val (.ref b1), .unset, .unset] [(.ref b36), (.ref b36)])
  refine own_step (fun _ k => XS.bipush X42.here hx rfl (hb hby at_148) k) ?_
  show own_Wp p e below _ T42 (mkF m 150 #[.val (.int p0), .val (.ref b1), .unset, .unset] [(.int (6 : Int32)), (.ref b36), (.ref b36)])
  refine own_step (fun _ k => XS.iconst X42.here hx rfl (hb hby at_150) k) ?_
  show own_Wp p e below _ T42 (mkF m 151 #[.val (.int p0), .val (.ref b1), .unset, .unset] [(.int (1 : Int32)), (.int (6 : Int32)), (.ref b36), (.ref b36)])
  obtain ⟨c43, r43, q43, t43, u43, y43h, y43g⟩ := V42
  have i43 : ¬ ((6 : Int32) < 0 ∨ c43.slots.size ≤ ((6 : Int32)).toNatClampNeg) := inb_of t43 ⟨by decide, by decide⟩
  obtain ⟨T43, h43, X43, e43, W43, st43⟩ := stZ X42 hx hZ e42 r43 (j := (6 : Int32)) i43 (g := (mkF m 151 #[.val (.int p0), .val (.ref b1), .unset, .unset] [(.int (1 : Int32)), (.int (6 : Int32)), (.ref b36), (.ref b36)])) rfl rfl (hb hby at_151)
  refine own_step st43 ?_
  have N43 := Fr.snoc X43 N42 g36
  have O43 := O42.wr W43 g36
  have K43 : Keep h0 h43 [] := K42.wr W43 (Or.inr y36)
  have V43 : Arv Z h43 b36 k36 .boolean (17 : Int32) [(.int (0 : Int32)), (.int (0 : Int32)), (.int (1 : Int32)), (.int (1 : Int32)), (.int (1 : Int32)), (.int (1 : Int32)), (.int (1 : Int32)), (.int (0 : Int32)), (.int (0 : Int32)), (.int (0 : Int32)), (.int (0 : Int32)), (.int (0 : Int32)), (.int (0 : Int32)), (.int (0 : Int32)), (.int (0 : Int32)), (.int (0 : Int32)), (.int (0 : Int32))] (.int (0 : Int32)) := Arv.set r43 q43 t43 u43 y43h y43g (fits_nar_bool _) W43 6 rfl (Nat.le_of_ble_eq_true rfl)
  show own_Wp p e below _ T43 (mkF m 152 #[.val (.int p0), .val (.ref b1), .unset, .unset] [(.ref b36)])
  refine own_step (fun _ k => XS.dup X43.here hx rfl (hb hby at_152) rfl rfl k) ?_
  show own_Wp p e below _ T43 (mkF m 153 #[.val (.int p0), .val (.ref b1), .unset, .unset] [(.ref b36), (.ref b36)])
  refine own_step (fun _ k => XS.bipush X43.here hx rfl (hb hby at_153) k) ?_
  show own_Wp p e below _ T43 (mkF m 155 #[.val (.int p0), .val (.ref b1), .unset, .unset] [(.int (7 : Int32)), (.ref b36), (.ref b36)])
  refine own_step (fun _ k => XS.iconst X43.here hx rfl (hb hby at_155) k) ?_
  show own_Wp p e below _ T43 (mkF m 156 #[.val (.int p0), .val (.ref b1), .unset, .unset] [(.int (1 : Int32)), (.int (7 : Int32)), (.ref b36), (.ref b36)])
  obtain ⟨c44, r44, q44, t44, u44, y44h, y44g⟩ := V43
  have i44 : ¬ ((7 : Int32) < 0 ∨ c44.slots.size ≤ ((7 : Int32)).toNatClampNeg) := inb_of t44 ⟨by decide, by decide⟩
  obtain ⟨T44, h44, X44, e44, W44, st44⟩ := stZ X43 hx hZ e43 r44 (j := (7 : Int32)) i44 (g := (mkF m 156 #[.val (.int p0), .val (.ref b1), .unset, .unset] [(.int (1 : Int32)), (.int (7 : Int32)), (.ref b36), (.ref b36)])) rfl rfl (hb hby at_156)
  refine own_step st44 ?_
  have N44 := Fr.snoc X44 N43 g36
  have O44 := O43.wr W44 g36
  have K44 : Keep h0 h44 [] := K43.wr W44 (Or.inr y36)
  have V44 : Arv Z h44 b36 k36 .boolean (17 : Int32) [(.int (0 : Int32)), (.int (0 : Int32)), (.int (1 : Int32)), (.int (1 : Int32)), (.int (1 : Int32)), (.int (1 : Int32)), (.int (1 : Int32)), (.int (1 : Int32)), (.int (0 : Int32)), (.int (0 : Int32)), (.int (0 : Int32)), (.int (0 : Int32)), (.int (0 : Int32)), (.int (0 : Int32)), (.int (0 : Int32)), (.int (0 : Int32)), (.int (0 : Int32))] (.int (0 : Int32)) := Arv.set r44 q44 t44 u44 y44h y44g (fits_nar_bool _) W44 7 rfl (Nat.le_of_ble_eq_true rfl)
  show own_Wp p e below _ T44 (mkF m 157 #[.val (.int p0), .val (.ref b1), .unset, .unset] [(.ref b36)])
  refine own_step (fun _ k => XS.dup X44.here hx rfl (hb hby at_157) rfl rfl k) ?_
  show own_Wp p e below _ T44 (mkF m 158 #[.val (.int p0), .val (.ref b1), .unset, .unset] [(.ref b36), (.ref b36)])
  refine own_step (fun _ k => XS.bipush X44.here hx rfl (hb hby at_158) k) ?_
  show own_Wp p e below _ T44 (mkF m 160 #[.val (.int p0), .val (.ref b1), .unset, .unset] [(.int (8 : Int32)), (.ref b36), (.ref b36)])
  refine own_step (fun _ k => XS.iconst X44.here hx rfl (hb hby at_160) k) ?_
  show own_Wp p e below _ T44 (mkF m 161 #[.val (.int p0), .val (.ref b1), .unset, .unset] [(.int (1 : Int32)), (.int (8 : Int32)), (.ref b36), (.ref b36)])
  obtain ⟨c45, r45, q45, t45, u45, y45h, y45g⟩ := V44
  have i45 : ¬ ((8 : Int32) < 0 ∨ c45.slots.size ≤ ((8 : Int32)).toNatClampNeg) := inb_of t45 ⟨by decide, by decide⟩
  obtain ⟨T45, h45, X45, e45, W45, st45⟩ := stZ X44 hx hZ e44 r45 (j := (8 : Int32)) i45 (g := (mkF m 161 #[.val (.int p0), .val (.ref b1), .unset, .unset] [(.int (1 : Int32)), (.int (8 : Int32)), (.ref b36), (.ref b36)])) rfl rfl (hb hby at_161)
  refine own_step st45 ?_
  have N45 := Fr.snoc X45 N44 g36
  have O45 := O44.wr W45 g36
  have K45 : Keep h0 h45 [] := K44.wr W45 (Or.inr y36)
  have V45 : Arv Z h45 b36 k36 .boolean (17 : Int32) [(.int (0 : Int32)), (.int (0 : Int32)), (.int (1 : Int32)), (.int (1 : Int32)), (.int (1 : Int32)), (.int (1 : Int32)), (.int (1 : Int32)), (.int (1 : Int32)), (.int (1 : Int32)), (.int (0 : Int32)), (.int (0 : Int32)), (.int (0 : Int32)), (.int (0 : Int32)), (.int (0 : Int32)), (.int (0 : Int32)), (.int (0 : Int32)), (.int (0 : Int32))] (.int (0 : Int32)) := Arv.set r45 q45 t45 u45 y45h y45g (fits_nar_bool _) W45 8 rfl (Nat.le_of_ble_eq_true rfl)
  show own_Wp p e below _ T45 (mkF m 162 #[.val (.int p0), .val (.ref b1), .unset, .unset] [(.ref b36)])
  refine own_step (fun _ k => XS.dup X45.here hx rfl (hb hby at_162) rfl rfl k) ?_
  show own_Wp p e below _ T45 (mkF m 163 #[.val (.int p0), .val (.ref b1), .unset, .unset] [(.ref b36), (.ref b36)])
  refine own_step (fun _ k => XS.bipush X45.here hx rfl (hb hby at_163) k) ?_
  show own_Wp p e below _ T45 (mkF m 165 #[.val (.int p0), .val (.ref b1), .unset, .unset] [(.int (9 : Int32)), (.ref b36), (.ref b36)])
  refine own_step (fun _ k => XS.iconst X45.here hx rfl (hb hby at_165) k) ?_
  show own_Wp p e below _ T45 (mkF m 166 #[.val (.int p0), .val (.ref b1), .unset, .unset] [(.int (1 : Int32)), (.int (9 : Int32)), (.ref b36), (.ref b36)])
  obtain ⟨c46, r46, q46, t46, u46, y46h, y46g⟩ := V45
  have i46 : ¬ ((9 : Int32) < 0 ∨ c46.slots.size ≤ ((9 : Int32)).toNatClampNeg) := inb_of t46 ⟨by decide, by decide⟩
  obtain ⟨T46, h46, X46, e46, W46, st46⟩ := stZ X45 hx hZ e45 r46 (j := (9 : Int32)) i46 (g := (mkF m 166 #[.val (.int p0), .val (.ref b1), .unset, .unset] [(.int (1 : Int32)), (.int (9 : Int32)), (.ref b36), (.ref b36)])) rfl rfl (hb hby at_166)
  refine own_step st46 ?_
  have N46 := Fr.snoc X46 N45 g36
  have O46 := O45.wr W46 g36
  have K46 : Keep h0 h46 [] := K45.wr W46 (Or.inr y36)
  have V46 : Arv Z h46 b36 k36 .boolean (17 : Int32) [(.int (0 : Int32)), (.int (0 : Int32)), (.int (1 : Int32)), (.int (1 : Int32)), (.int (1 : Int32)), (.int (1 : Int32)), (.int (1 : Int32)), (.int (1 : Int32)), (.int (1 : Int32)), (.int (1 : Int32)), (.int (0 : Int32)), (.int (0 : Int32)), (.int (0 : Int32)), (.int (0 : Int32)), (.int (0 : Int32)), (.int (0 : Int32)), (.int (0 : Int32))] (.int (0 : Int32)) := Arv.set r46 q46 t46 u46 y46h y46g (fits_nar_bool _) W46 9 rfl (Nat.le_of_ble_eq_true rfl)
  show own_Wp p e below _ T46 (mkF m 167 #[.val (.int p0), .val (.ref b1), .unset, .unset] [(.ref b36)])
  refine own_step (fun _ k => XS.dup X46.here hx rfl (hb hby at_167) rfl rfl k) ?_
  show own_Wp p e below _ T46 (mkF m 168 #[.val (.int p0), .val (.ref b1), .unset, .unset] [(.ref b36), (.ref b36)])
  refine own_step (fun _ k => XS.bipush X46.here hx rfl (hb hby at_168) k) ?_
  show own_Wp p e below _ T46 (mkF m 170 #[.val (.int p0), .val (.ref b1), .unset, .unset] [(.int (10 : Int32)), (.ref b36), (.ref b36)])
  refine own_step (fun _ k => XS.iconst X46.here hx rfl (hb hby at_170) k) ?_
  show own_Wp p e below _ T46 (mkF m 171 #[.val (.int p0), .val (.ref b1), .unset, .unset] [(.int (1 : Int32)), (.int (10 : Int32)), (.ref b36), (.ref b36)])
  obtain ⟨c47, r47, q47, t47, u47, y47h, y47g⟩ := V46
  have i47 : ¬ ((10 : Int32) < 0 ∨ c47.slots.size ≤ ((10 : Int32)).toNatClampNeg) := inb_of t47 ⟨by decide, by decide⟩
  obtain ⟨T47, h47, X47, e47, W47, st47⟩ := stZ X46 hx hZ e46 r47 (j := (10 : Int32)) i47 (g := (mkF m 171 #[.val (.int p0), .val (.ref b1), .unset, .unset] [(.int (1 : Int32)), (.int (10 : Int32)), (.ref b36), (.ref b36)])) rfl rfl (hb hby at_171)
  refine own_step st47 ?_
  have N47 := Fr.snoc X47 N46 g36
  have O47 := O46.wr W47 g36
  have K47 : Keep h0 h47 [] := K46.wr W47 (Or.inr y36)
  have V47 : Arv Z h47 b36 k36 .boolean (17 : Int32) [(.int (0 : Int32)), (.int (0 : Int32)), (.int (1 : Int32)), (.int (1 : Int32)), (.int (1 : Int32)), (.int (1 : Int32)), (.int (1 : Int32)), (.int (1 : Int32)), (.int (1 : Int32)), (.int (1 : Int32)), (.int (1 : Int32)), (.int (0 : Int32)), (.int (0 : Int32)), (.int (0 : Int32)), (.int (0 : Int32)), (.int (0 : Int32)), (.int (0 : Int32))] (.int (0 : Int32)) := Arv.set r47 q47 t47 u47 y47h y47g (fits_nar_bool _) W47 10 rfl (Nat.le_of_ble_eq_true rfl)
  show own_Wp p e below _ T47 (mkF m 172 #[.val (.int p0), .val (.ref b1), .unset, .unset] [(.ref b36)])
  refine own_step (fun _ k => XS.dup X47.here hx rfl (hb hby at_172) rfl rfl k) ?_
  show own_Wp p e below _ T47 (mkF m 173 #[.val (.int p0), .val (.ref b1), .unset, .unset] [(.ref b36), (.ref b36)])
  refine own_step (fun _ k => XS.bipush X47.here hx rfl (hb hby at_173) k) ?_
  show own_Wp p e below _ T47 (mkF m 175 #[.val (.int p0), .val (.ref b1), .unset, .unset] [(.int (11 : Int32)), (.ref b36), (.ref b36)])
  refine own_step (fun _ k => XS.iconst X47.here hx rfl (hb hby at_175) k) ?_
  show own_Wp p e below _ T47 (mkF m 176 #[.val (.int p0), .val (.ref b1), .unset, .unset] [(.int (1 : Int32)), (.int (11 : Int32)), (.ref b36), (.ref b36)])
  obtain ⟨c48, r48, q48, t48, u48, y48h, y48g⟩ := V47
  have i48 : ¬ ((11 : Int32) < 0 ∨ c48.slots.size ≤ ((11 : Int32)).toNatClampNeg) := inb_of t48 ⟨by decide, by decide⟩
  obtain ⟨T48, h48, X48, e48, W48, st48⟩ := stZ X47 hx hZ e47 r48 (j := (11 : Int32)) i48 (g := (mkF m 176 #[.val (.int p0), .val (.ref b1), .unset, .unset] [(.int (1 : Int32)), (.int (11 : Int32)), (.ref b36), (.ref b36)])) rfl rfl (hb hby at_176)
  refine own_step st48 ?_
  have N48 := Fr.snoc X48 N47 g36
  have O48 := O47.wr W48 g36
  have K48 : Keep h0 h48 [] := K47.wr W48 (Or.inr y36)
  have V48 : Arv Z h48 b36 k36 .boolean (17 : Int32) [(.int (0 : Int32)), (.int (0 : Int32)), (.int (1 : Int32)), (.int (1 : Int32)), (.int (1 : Int32)), (.int (1 : Int32)), (.int (1 : Int32)), (.int (1 : Int32)), (.int (1 : Int32)), (.int (1 : Int32)), (.int (1 : Int32)), (.int (1 : Int32)), (.int (0 : Int32)), (.int (0 : Int32)), (.int (0 : Int32)), (.int (0 : Int32)), (.int (0 : Int32))] (.int (0 : Int32)) := Arv.set r48 q48 t48 u48 y48h y48g (fits_nar_bool _) W48 11 rfl (Nat.le_of_ble_eq_true rfl)
  show own_Wp p e below _ T48 (mkF m 177 #[.val (.int p0), .val (.ref b1), .unset, .unset] [(.ref b36)])
  refine own_step (fun _ k => XS.dup X48.here hx rfl (hb hby at_177) rfl rfl k) ?_
  show own_Wp p e below _ T48 (mkF m 178 #[.val (.int p0), .val (.ref b1), .unset, .unset] [(.ref b36), (.ref b36)])
  refine own_step (fun _ k => XS.bipush X48.here hx rfl (hb hby at_178) k) ?_
  show own_Wp p e below _ T48 (mkF m 180 #[.val (.int p0), .val (.ref b1), .unset, .unset] [(.int (12 : Int32)), (.ref b36), (.ref b36)])
  refine own_step (fun _ k => XS.iconst X48.here hx rfl (hb hby at_180) k) ?_
  show own_Wp p e below _ T48 (mkF m 181 #[.val (.int p0), .val (.ref b1), .unset, .unset] [(.int (1 : Int32)), (.int (12 : Int32)), (.ref b36), (.ref b36)])
  obtain ⟨c49, r49, q49, t49, u49, y49h, y49g⟩ := V48
  have i49 : ¬ ((12 : Int32) < 0 ∨ c49.slots.size ≤ ((12 : Int32)).toNatClampNeg) := inb_of t49 ⟨by decide, by decide⟩
  obtain ⟨T49, h49, X49, e49, W49, st49⟩ := stZ X48 hx hZ e48 r49 (j := (12 : Int32)) i49 (g := (mkF m 181 #[.val (.int p0), .val (.ref b1), .unset, .unset] [(.int (1 : Int32)), (.int (12 : Int32)), (.ref b36), (.ref b36)])) rfl rfl (hb hby at_181)
  refine own_step st49 ?_
  have N49 := Fr.snoc X49 N48 g36
  have O49 := O48.wr W49 g36
  have K49 : Keep h0 h49 [] := K48.wr W49 (Or.inr y36)
  have V49 : Arv Z h49 b36 k36 .boolean (17 : Int32) [(.int (0 : Int32)), (.int (0 : Int32)), (.int (1 : Int32)), (.int (1 : Int32)), (.int (1 : Int32)), (.int (1 : Int32)), (.int (1 : Int32)), (.int (1 : Int32)), (.int (1 : Int32)), (.int (1 : Int32)), (.int (1 : Int32)), (.int (1 : Int32)), (.int (1 : Int32)), (.int (0 : Int32)), (.int (0 : Int32)), (.int (0 : Int32)), (.int (0 : Int32))] (.int (0 : Int32)) := Arv.set r49 q49 t49 u49 y49h y49g (fits_nar_bool _) W49 12 rfl (Nat.le_of_ble_eq_true rfl)
  show own_Wp p e below _ T49 (mkF m 182 #[.val (.int p0), .val (.ref b1), .unset, .unset] [(.ref b36)])
  refine own_step (fun _ k => XS.dup X49.here hx rfl (hb hby at_182) rfl rfl k) ?_
  show own_Wp p e below _ T49 (mkF m 183 #[.val (.int p0), .val (.ref b1), .unset, .unset] [(.ref b36), (.ref b36)])
  refine own_step (fun _ k => XS.bipush X49.here hx rfl (hb hby at_183) k) ?_
  show own_Wp p e below _ T49 (mkF m 185 #[.val (.int p0), .val (.ref b1), .unset, .unset] [(.int (13 : Int32)), (.ref b36), (.ref b36)])
  refine own_step (fun _ k => XS.iconst X49.here hx rfl (hb hby at_185) k) ?_
  show own_Wp p e below _ T49 (mkF m 186 #[.val (.int p0), .val (.ref b1), .unset, .unset] [(.int (1 : Int32)), (.int (13 : Int32)), (.ref b36), (.ref b36)])
  obtain ⟨c50, r50, q50, t50, u50, y50h, y50g⟩ := V49
  have i50 : ¬ ((13 : Int32) < 0 ∨ c50.slots.size ≤ ((13 : Int32)).toNatClampNeg) := inb_of t50 ⟨by decide, by decide⟩
  obtain ⟨T50, h50, X50, e50, W50, st50⟩ := stZ X49 hx hZ e49 r50 (j := (13 : Int32)) i50 (g := (mkF m 186 #[.val (.int p0), .val (.ref b1), .unset, .unset] [(.int (1 : Int32)), (.int (13 : Int32)), (.ref b36), (.ref b36)])) rfl rfl (hb hby at_186)
  refine own_step st50 ?_
  have N50 := Fr.snoc X50 N49 g36
  have O50 := O49.wr W50 g36
  have K50 : Keep h0 h50 [] := K49.wr W50 (Or.inr y36)
  have V50 : Arv Z h50 b36 k36 .boolean (17 : Int32) [(.int (0 : Int32)), (.int (0 : Int32)), (.int (1 : Int32)), (.int (1 : Int32)), (.int (1 : Int32)), (.int (1 : Int32)), (.int (1 : Int32)), (.int (1 : Int32)), (.int (1 : Int32)), (.int (1 : Int32)), (.int (1 : Int32)), (.int (1 : Int32)), (.int (1 : Int32)), (.int (1 : Int32)), (.int (0 : Int32)), (.int (0 : Int32)), (.int (0 : Int32))] (.int (0 : Int32)) := Arv.set r50 q50 t50 u50 y50h y50g (fits_nar_bool _) W50 13 rfl (Nat.le_of_ble_eq_true rfl)
  show own_Wp p e below _ T50 (mkF m 187 #[.val (.int p0), .val (.ref b1), .unset, .unset] [(.ref b36)])
  refine own_step (fun _ k => XS.dup X50.here hx rfl (hb hby at_187) rfl rfl k) ?_
  show own_Wp p e below _ T50 (mkF m 188 #[.val (.int p0), .val (.ref b1), .unset, .unset] [(.ref b36), (.ref b36)])
  refine own_step (fun _ k => XS.bipush X50.here hx rfl (hb hby at_188) k) ?_
  show own_Wp p e below _ T50 (mkF m 190 #[.val (.int p0), .val (.ref b1), .unset, .unset] [(.int (14 : Int32)), (.ref b36), (.ref b36)])
  refine own_step (fun _ k => XS.iconst X50.here hx rfl (hb hby at_190) k) ?_
  show own_Wp p e below _ T50 (mkF m 191 #[.val (.int p0), .val (.ref b1), .unset, .unset] [(.int (0 : Int32)), (.int (14 : Int32)), (.ref b36), (.ref b36)])
  obtain ⟨c51, r51, q51, t51, u51, y51h, y51g⟩ := V50
  have i51 : ¬ ((14 : Int32) < 0 ∨ c51.slots.size ≤ ((14 : Int32)).toNatClampNeg) := inb_of t51 ⟨by decide, by decide⟩
  obtain ⟨T51, h51, X51, e51, W51, st51⟩ := stZ X50 hx hZ e50 r51 (j := (14 : Int32)) i51 (g := (mkF m 191 #[.val (.int p0), .val (.ref b1), .unset, .unset] [(.int (0 : Int32)), (.int (14 : Int32)), (.ref b36), (.ref b36)])) rfl rfl (hb hby at_191)
  refine own_step st51 ?_
  have N51 := Fr.snoc X51 N50 g36
  have O51 := O50.wr W51 g36
  have K51 : Keep h0 h51 [] := K50.wr W51 (Or.inr y36)
  have V51 : Arv Z h51 b36 k36 .boolean (17 : Int32) [(.int (0 : Int32)), (.int (0 : Int32)), (.int (1 : Int32)), (.int (1 : Int32)), (.int (1 : Int32)), (.int (1 : Int32)), (.int (1 : Int32)), (.int (1 : Int32)), (.int (1 : Int32)), (.int (1 : Int32)), (.int (1 : Int32)), (.int (1 : Int32)), (.int (1 : Int32)), (.int (1 : Int32)), (.int (0 : Int32)), (.int (0 : Int32)), (.int (0 : Int32))] (.int (0 : Int32)) := Arv.set r51 q51 t51 u51 y51h y51g (fits_nar_bool _) W51 14 rfl (Nat.le_of_ble_eq_true rfl)
  show own_Wp p e below _ T51 (mkF m 192 #[.val (.int p0), .val (.ref b1), .unset, .unset] [(.ref b36)])
  refine own_step (fun _ k => XS.dup X51.here hx rfl (hb hby at_192) rfl rfl k) ?_
  show own_Wp p e below _ T51 (mkF m 193 #[.val (.int p0), .val (.ref b1), .unset, .unset] [(.ref b36), (.ref b36)])
  refine own_step (fun _ k => XS.bipush X51.here hx rfl (hb hby at_193) k) ?_
  show own_Wp p e below _ T51 (mkF m 195 #[.val (.int p0), .val (.ref b1), .unset, .unset] [(.int (15 : Int32)), (.ref b36), (.ref b36)])
  refine own_step (fun _ k => XS.iconst X51.here hx rfl (hb hby at_195) k) ?_
  show own_Wp p e below _ T51 (mkF m 196 #[.val (.int p0), .val (.ref b1), .unset, .unset] [(.int (0 : Int32)), (.int (15 : Int32)), (.ref b36), (.ref b36)])
  obtain ⟨c52, r52, q52, t52, u52, y52h, y52g⟩ := V51
  have i52 : ¬ ((15 : Int32) < 0 ∨ c52.slots.size ≤ ((15 : Int32)).toNatClampNeg) := inb_of t52 ⟨by decide, by decide⟩
  obtain ⟨T52, h52, X52, e52, W52, st52⟩ := stZ X51 hx hZ e51 r52 (j := (15 : Int32)) i52 (g := (mkF m 196 #[.val (.int p0), .val (.ref b1), .unset, .unset] [(.int (0 : Int32)), (.int (15 : Int32)), (.ref b36), (.ref b36)])) rfl rfl (hb hby at_196)
  refine own_step st52 ?_
  have N52 := Fr.snoc X52 N51 g36
  have O52 := O51.wr W52 g36
  have K52 : Keep h0 h52 [] := K51.wr W52 (Or.inr y36)
  have V52 : Arv Z h52 b36 k36 .boolean (17 : Int32) [(.int (0 : Int32)), (.int (0 : Int32)), (.int (1 : Int32)), (.int (1 : Int32)), (.int (1 : Int32)), (.int (1 : Int32)), (.int (1 : Int32)), (.int (1 : Int32)), (.int (1 : Int32)), (.int (1 : Int32)), (.int (1 : Int32)), (.int (1 : Int32)), (.int (1 : Int32)), (.int (1 : Int32)), (.int (0 : Int32)), (.int (0 : Int32)), (.int (0 : Int32))] (.int (0 : Int32)) := Arv.set r52 q52 t52 u52 y52h y52g (fits_nar_bool _) W52 15 rfl (Nat.le_of_ble_eq_true rfl)
  show own_Wp p e below _ T52 (mkF m 197 #[.val (.int p0), .val (.ref b1), .unset, .unset] [(.ref b36)])
  refine own_step (fun _ k => XS.dup X52.here hx rfl (hb hby at_197) rfl rfl k) ?_
  show own_Wp p e below _ T52 (mkF m 198 #[.val (.int p0), .val (.ref b1), .unset, .unset] [(.ref b36), (.ref b36)])
  refine own_step (fun _ k => XS.bipush X52.here hx rfl (hb hby at_198) k) ?_
  show own_Wp p e below _ T52 (mkF m 200 #[.val (.int p0), .val (.ref b1), .unset, .unset] [(.int (16 : Int32)), (.ref b36), (.ref b36)])
  refine own_step (fun _ k => XS.iconst X52.here hx rfl (hb hby at_200) k) ?_
  show own_Wp p e below _ T52 (mkF m 201 #[.val (.int p0), .val (.ref b1), .unset, .unset] [(.int (0 : Int32)), (.int (16 : Int32)), (.ref b36), (.ref b36)])
  obtain ⟨c53, r53, q53, t53, u53, y53h, y53g⟩ := V52
  have i53 : ¬ ((16 : Int32) < 0 ∨ c53.slots.size ≤ ((16 : Int32)).toNatClampNeg) := inb_of t53 ⟨by decide, by decide⟩
  obtain ⟨T53, h53, X53, e53, W53, st53⟩ := stZ X52 hx hZ e52 r53 (j := (16 : Int32)) i53 (g := (mkF m 201 #[.val (.int p0), .val (.ref b1), .unset, .unset] [(.int (0 : Int32)), (.int (16 : Int32)), (.ref b36), (.ref b36)])) rfl rfl (hb hby at_201)
  refine own_step st53 ?_
  have N53 := Fr.snoc X53 N52 g36
  have O53 := O52.wr W53 g36
  have K53 : Keep h0 h53 [] := K52.wr W53 (Or.inr y36)
  have V53 : Arv Z h53 b36 k36 .boolean (17 : Int32) [(.int (0 : Int32)), (.int (0 : Int32)), (.int (1 : Int32)), (.int (1 : Int32)), (.int (1 : Int32)), (.int (1 : Int32)), (.int (1 : Int32)), (.int (1 : Int32)), (.int (1 : Int32)), (.int (1 : Int32)), (.int (1 : Int32)), (.int (1 : Int32)), (.int (1 : Int32)), (.int (1 : Int32)), (.int (0 : Int32)), (.int (0 : Int32)), (.int (0 : Int32))] (.int (0 : Int32)) := Arv.set r53 q53 t53 u53 y53h y53g (fits_nar_bool _) W53 16 rfl (Nat.le_of_ble_eq_true rfl)
  show own_Wp p e below _ T53 (mkF m 202 #[.val (.int p0), .val (.ref b1), .unset, .unset] [(.ref b36)])
  refine own_step (fun _ k => XS.astoreN X53.here hx rfl (hb hby at_202) rfl rfl (l' := #[.val (.int p0), .val (.ref b1), .val (.ref b36), .unset]) rfl k) ?_
  show own_Wp p e below _ T53 (mkF m 203 #[.val (.int p0), .val (.ref b1), .val (.ref b36), .unset] [])
  refine own_step (fun _ k => XS.iloadN X53.here hx rfl (hb hby at_203) rfl k) ?_
  show own_Wp p e below _ T53 (mkF m 204 #[.val (.int p0), .val (.ref b1), .val (.ref b36), .unset] [(.int p0)])
  refine own_step (X53.ldcInt hx hown (mvT hZ (hw _ (List.mem_of_getElem? (i := 39) rfl))) (g := (mkF m 204 #[.val (.int p0), .val (.ref b1), .val (.ref b36), .unset] [(.int p0)])) rfl (hb hby at_204)) ?_
  show own_Wp p e below _ T53 (mkF m 206 #[.val (.int p0), .val (.ref b1), .val (.ref b36), .unset] [(.int (2147483647 : Int32)), (.int p0)])
  refine own_step (fun _ k => XS.iand X53.here hx rfl (hb hby at_206) rfl k) ?_
  show own_Wp p e below _ T53 (mkF m 207 #[.val (.int p0), .val (.ref b1), .val (.ref b36), .unset] [(.int (p0 &&& (2147483647 : Int32)))])
  refine own_step (fun _ k => XS.bipush X53.here hx rfl (hb hby at_207) k) ?_
  show own_Wp p e below _ T53 (mkF m 209 #[.val (.int p0), .val (.ref b1), .val (.ref b36), .unset] [(.int (17 : Int32)), (.int (p0 &&& (2147483647 : Int32)))])
  refine own_step (fun _ k => iremM (g := (mkF m 209 #[.val (.int p0), .val (.ref b1), .val (.ref b36), .unset] [(.int (17 : Int32)), (.int (p0 &&& (2147483647 : Int32)))])) X53 hx rfl (hb hby at_209) rfl (by decide) k) ?_
  show own_Wp p e below _ T53 (mkF m 210 #[.val (.int p0), .val (.ref b1), .val (.ref b36), .unset] [(.int ((p0 &&& (2147483647 : Int32)) % (17 : Int32)))])
  rcases own_mod17 p0 with hm | hm | hm | hm | hm | hm | hm | hm | hm | hm | hm | hm | hm | hm | hm | hm | hm
  · skip
    rw [hm]
    show own_Wp p e below _ T53 (mkF m 210 #[.val (.int p0), .val (.ref b1), .val (.ref b36), .unset] [(.int (0 : Int32))])
    refine own_step (fun _ k => XS.istoreN X53.here hx rfl (hb hby at_210) rfl (l' := #[.val (.int p0), .val (.ref b1), .val (.ref b36), .val (.int (0 : Int32))]) rfl k) ?_
    show own_Wp p e below _ T53 (mkF m 211 #[.val (.int p0), .val (.ref b1), .val (.ref b36), .val (.int (0 : Int32))] [])
    refine own_step (fun _ k => XS.aloadN X53.here hx rfl (hb hby at_211) rfl rfl k) ?_
    show own_Wp p e below _ T53 (mkF m 212 #[.val (.int p0), .val (.ref b1), .val (.ref b36), .val (.int (0 : Int32))] [(.ref b1)])
    refine own_step (fun _ k => XS.iloadN X53.here hx rfl (hb hby at_212) rfl k) ?_
    show own_Wp p e below _ T53 (mkF m 213 #[.val (.int p0), .val (.ref b1), .val (.ref b36), .val (.int (0 : Int32))] [(.int (0 : Int32)), (.ref b1)])
    have f54 := ((((((((((((((((((V35.ext E36).other W37 ne36_0).other W38 ne36_0).other W39 ne36_0).other W40 ne36_0).other W41 ne36_0).other W42 ne36_0).other W43 ne36_0).other W44 ne36_0).other W45 ne36_0).other W46 ne36_0).other W47 ne36_0).other W48 ne36_0).other W49 ne36_0).other W50 ne36_0).other W51 ne36_0).other W52 ne36_0).other W53 ne36_0)
    obtain ⟨c55, r55, q55, t55, u55, y55h, y55g⟩ := f54
    have i55 : ¬ ((0 : Int32) < 0 ∨ c55.slots.size ≤ ((0 : Int32)).toNatClampNeg) := inb_of t55 ⟨by decide, by decide⟩
    refine own_step (fun _ k => X53.aaload hx (j := (0 : Int32)) (v := (.ref (w0_DOUBLE Z))) (by rw [e53]; exact r55.1) (State.isArrayOf_alike hZ.alike r55.2.1) rfl r55.2.2 i55 (own_get t55 y55h i55 0 rfl) (g := (mkF m 213 #[.val (.int p0), .val (.ref b1), .val (.ref b36), .val (.int (0 : Int32))] [(.int (0 : Int32)), (.ref b1)])) rfl rfl (hb hby at_213) _ k) ?_
    show own_Wp p e below _ T53 (mkF m 214 #[.val (.int p0), .val (.ref b1), .val (.ref b36), .val (.int (0 : Int32))] [(.ref (w0_DOUBLE Z))])
    obtain ⟨_, T56, L56, X56, hQ56, st56⟩ := own_callV X53 hx hZ hown (hw _ (List.mem_of_getElem? (i := 40) rfl)) (hw _ (List.mem_of_getElem? (i := 41) rfl)) (notFace_of_selects (args := #[]) (mvT hZ (hw _ (List.mem_of_getElem? (i := 43) rfl)))) (hw _ (List.mem_of_getElem? (i := 43) rfl)) (hw _ (List.mem_of_getElem? (i := 42) rfl)) (hw _ (List.mem_of_getElem? (i := 3) rfl)) (hw _ (List.mem_of_getElem? (i := 44) rfl)) (by decide) ((ex_w0_DOUBLE hw hA).ext O53.2) (rm1_0 l Z a0 hw hA [] h53 n0 O53) (W := 0) (by decide) (by decide) [] rfl (lenOf pd1 rfl) (Ls := #[.val (.int p0), .val (.ref b1), .val (.ref b36), .val (.int (0 : Int32))]) (by rw [hml]; rfl) (rest := []) (Nat.le_of_eq rfl) (hb hby at_214) e53 (by decide) (by decide)
    refine st56 _ ?_
    obtain ⟨rfl, N56q, e56⟩ := hQ56
    have N56 := Fr.app N53 N56q
    show own_Wp p e below _ T56 (mkF m 217 #[.val (.int p0), .val (.ref b1), .val (.ref b36), .val (.int (0 : Int32))] [(.int (0 : Int32))])
    refine own_step (fun _ k => XS.aloadN X56.here hx rfl (hb hby at_217) rfl rfl k) ?_
    show own_Wp p e below _ T56 (mkF m 218 #[.val (.int p0), .val (.ref b1), .val (.ref b36), .val (.int (0 : Int32))] [(.ref b36), (.int (0 : Int32))])
    refine own_step (fun _ k => XS.iloadN X56.here hx rfl (hb hby at_218) rfl k) ?_
    show own_Wp p e below _ T56 (mkF m 219 #[.val (.int p0), .val (.ref b1), .val (.ref b36), .val (.int (0 : Int32))] [(.int (0 : Int32)), (.ref b36), (.int (0 : Int32))])
    obtain ⟨c57, r57, q57, t57, u57, y57h, y57g⟩ := V53
    have i57 : ¬ ((0 : Int32) < 0 ∨ c57.slots.size ≤ ((0 : Int32)).toNatClampNeg) := inb_of t57 ⟨by decide, by decide⟩
    refine own_step (fun _ k => X56.baloadBooleans hx (j := (0 : Int32)) (v := (.int (0 : Int32))) (by rw [e56]; exact r57.1) (State.isArrayOf_alike hZ.alike r57.2.1) r57.2.2 i57 (own_get t57 y57h i57 0 rfl) (g := (mkF m 219 #[.val (.int p0), .val (.ref b1), .val (.ref b36), .val (.int (0 : Int32))] [(.int (0 : Int32)), (.ref b36), (.int (0 : Int32))])) rfl rfl (hb hby at_219) _ k) ?_
    show own_Wp p e below _ T56 (mkF m 220 #[.val (.int p0), .val (.ref b1), .val (.ref b36), .val (.int (0 : Int32))] [(.int (0 : Int32)), (.int (0 : Int32))])
    refine own_step (fun _ k => XS.icmpNo X56.here hx rfl (hb hby at_220) rfl (by decide) k) ?_
    show own_Wp p e below _ T56 (mkF m 223 #[.val (.int p0), .val (.ref b1), .val (.ref b36), .val (.int (0 : Int32))] [])
    refine own_step (fun _ k => XS.iconst X56.here hx rfl (hb hby at_223) k) ?_
    show own_Wp p e below _ T56 (mkF m 224 #[.val (.int p0), .val (.ref b1), .val (.ref b36), .val (.int (0 : Int32))] [(.int (1 : Int32))])
    refine own_step (fun _ k => XS.goto X56.here hx rfl (pc0 := 224) (pc' := 228) rfl (hb hby at_224) (by decide) (by decide) k) ?_
    show own_Wp p e below _ T56 (mkF m 228 #[.val (.int p0), .val (.ref b1), .val (.ref b36), .val (.int (0 : Int32))] [(.int (1 : Int32))])
    exact own_retN X56 hx (t := .boolean) hret (by simp) hlk (hb hby at_228) (by decide) (by decide) ⟨rfl, N56⟩
  · skip
    rw [hm]
    show own_Wp p e below _ T53 (mkF m 210 #[.val (.int p0), .val (.ref b1), .val (.ref b36), .unset] [(.int (1 : Int32))])
    refine own_step (fun _ k => XS.istoreN X53.here hx rfl (hb hby at_210) rfl (l' := #[.val (.int p0), .val (.ref b1), .val (.ref b36), .val (.int (1 : Int32))]) rfl k) ?_
    show own_Wp p e below _ T53 (mkF m 211 #[.val (.int p0), .val (.ref b1), .val (.ref b36), .val (.int (1 : Int32))] [])
    refine own_step (fun _ k => XS.aloadN X53.here hx rfl (hb hby at_211) rfl rfl k) ?_
    show own_Wp p e below _ T53 (mkF m 212 #[.val (.int p0), .val (.ref b1), .val (.ref b36), .val (.int (1 : Int32))] [(.ref b1)])
    refine own_step (fun _ k => XS.iloadN X53.here hx rfl (hb hby at_212) rfl k) ?_
    show own_Wp p e below _ T53 (mkF m 213 #[.val (.int p0), .val (.ref b1), .val (.ref b36), .val (.int (1 : Int32))] [(.int (1 : Int32)), (.ref b1)])
    have f58 := ((((((((((((((((((V35.ext E36).other W37 ne36_0).other W38 ne36_0).other W39 ne36_0).other W40 ne36_0).other W41 ne36_0).other W42 ne36_0).other W43 ne36_0).other W44 ne36_0).other W45 ne36_0).other W46 ne36_0).other W47 ne36_0).other W48 ne36_0).other W49 ne36_0).other W50 ne36_0).other W51 ne36_0).other W52 ne36_0).other W53 ne36_0)
    obtain ⟨c59, r59, q59, t59, u59, y59h, y59g⟩ := f58
    have i59 : ¬ ((1 : Int32) < 0 ∨ c59.slots.size ≤ ((1 : Int32)).toNatClampNeg) := inb_of t59 ⟨by decide, by decide⟩
    refine own_step (fun _ k => X53.aaload hx (j := (1 : Int32)) (v := (.ref (w1_FLOAT Z))) (by rw [e53]; exact r59.1) (State.isArrayOf_alike hZ.alike r59.2.1) rfl r59.2.2 i59 (own_get t59 y59h i59 1 rfl) (g := (mkF m 213 #[.val (.int p0), .val (.ref b1), .val (.ref b36), .val (.int (1 : Int32))] [(.int (1 : Int32)), (.ref b1)])) rfl rfl (hb hby at_213) _ k) ?_
    show own_Wp p e below _ T53 (mkF m 214 #[.val (.int p0), .val (.ref b1), .val (.ref b36), .val (.int (1 : Int32))] [(.ref (w1_FLOAT Z))])
    obtain ⟨_, T60, L60, X60, hQ60, st60⟩ := own_callV X53 hx hZ hown (hw _ (List.mem_of_getElem? (i := 40) rfl)) (hw _ (List.mem_of_getElem? (i := 41) rfl)) (notFace_of_selects (args := #[]) (mvT hZ (hw _ (List.mem_of_getElem? (i := 43) rfl)))) (hw _ (List.mem_of_getElem? (i := 43) rfl)) (hw _ (List.mem_of_getElem? (i := 42) rfl)) (hw _ (List.mem_of_getElem? (i := 3) rfl)) (hw _ (List.mem_of_getElem? (i := 44) rfl)) (by decide) ((ex_w1_FLOAT hw hA).ext O53.2) (rm1_1 l Z a0 hw hA [] h53 n0 O53) (W := 0) (by decide) (by decide) [] rfl (lenOf pd1 rfl) (Ls := #[.val (.int p0), .val (.ref b1), .val (.ref b36), .val (.int (1 : Int32))]) (by rw [hml]; rfl) (rest := []) (Nat.le_of_eq rfl) (hb hby at_214) e53 (by decide) (by decide)
    refine st60 _ ?_
    obtain ⟨rfl, N60q, e60⟩ := hQ60
    have N60 := Fr.app N53 N60q
    show own_Wp p e below _ T60 (mkF m 217 #[.val (.int p0), .val (.ref b1), .val (.ref b36), .val (.int (1 : Int32))] [(.int (0 : Int32))])
    refine own_step (fun _ k => XS.aloadN X60.here hx rfl (hb hby at_217) rfl rfl k) ?_
    show own_Wp p e below _ T60 (mkF m 218 #[.val (.int p0), .val (.ref b1), .val (.ref b36), .val (.int (1 : Int32))] [(.ref b36), (.int (0 : Int32))])
    refine own_step (fun _ k => XS.iloadN X60.here hx rfl (hb hby at_218) rfl k) ?_
    show own_Wp p e below _ T60 (mkF m 219 #[.val (.int p0), .val (.ref b1), .val (.ref b36), .val (.int (1 : Int32))] [(.int (1 : Int32)), (.ref b36), (.int (0 : Int32))])
    obtain ⟨c61, r61, q61, t61, u61, y61h, y61g⟩ := V53
    have i61 : ¬ ((1 : Int32) < 0 ∨ c61.slots.size ≤ ((1 : Int32)).toNatClampNeg) := inb_of t61 ⟨by decide, by decide⟩
    refine own_step (fun _ k => X60.baloadBooleans hx (j := (1 : Int32)) (v := (.int (0 : Int32))) (by rw [e60]; exact r61.1) (State.isArrayOf_alike hZ.alike r61.2.1) r61.2.2 i61 (own_get t61 y61h i61 1 rfl) (g := (mkF m 219 #[.val (.int p0), .val (.ref b1), .val (.ref b36), .val (.int (1 : Int32))] [(.int (1 : Int32)), (.ref b36), (.int (0 : Int32))])) rfl rfl (hb hby at_219) _ k) ?_
    show own_Wp p e below _ T60 (mkF m 220 #[.val (.int p0), .val (.ref b1), .val (.ref b36), .val (.int (1 : Int32))] [(.int (0 : Int32)), (.int (0 : Int32))])
    refine own_step (fun _ k => XS.icmpNo X60.here hx rfl (hb hby at_220) rfl (by decide) k) ?_
    show own_Wp p e below _ T60 (mkF m 223 #[.val (.int p0), .val (.ref b1), .val (.ref b36), .val (.int (1 : Int32))] [])
    refine own_step (fun _ k => XS.iconst X60.here hx rfl (hb hby at_223) k) ?_
    show own_Wp p e below _ T60 (mkF m 224 #[.val (.int p0), .val (.ref b1), .val (.ref b36), .val (.int (1 : Int32))] [(.int (1 : Int32))])
    refine own_step (fun _ k => XS.goto X60.here hx rfl (pc0 := 224) (pc' := 228) rfl (hb hby at_224) (by decide) (by decide) k) ?_
    show own_Wp p e below _ T60 (mkF m 228 #[.val (.int p0), .val (.ref b1), .val (.ref b36), .val (.int (1 : Int32))] [(.int (1 : Int32))])
    exact own_retN X60 hx (t := .boolean) hret (by simp) hlk (hb hby at_228) (by decide) (by decide) ⟨rfl, N60⟩
  · skip
    rw [hm]
    show own_Wp p e below _ T53 (mkF m 210 #[.val (.int p0), .val (.ref b1), .val (.ref b36), .unset] [(.int (2 : Int32))])
    refine own_step (fun _ k => XS.istoreN X53.here hx rfl (hb hby at_210) rfl (l' := #[.val (.int p0), .val (.ref b1), .val (.ref b36), .val (.int (2 : Int32))]) rfl k) ?_
    show own_Wp p e below _ T53 (mkF m 211 #[.val (.int p0), .val (.ref b1), .val (.ref b36), .val (.int (2 : Int32))] [])
    refine own_step (fun _ k => XS.aloadN X53.here hx rfl (hb hby at_211) rfl rfl k) ?_
    show own_Wp p e below _ T53 (mkF m 212 #[.val (.int p0), .val (.ref b1), .val (.ref b36), .val (.int (2 : Int32))] [(.ref b1)])
    refine own_step (fun _ k => XS.iloadN X53.here hx rfl (hb hby at_212) rfl k) ?_
    show own_Wp p e below _ T53 (mkF m 213 #[.val (.int p0), .val (.ref b1), .val (.ref b36), .val (.int (2 : Int32))] [(.int (2 : Int32)), (.ref b1)])
    have f62 := ((((((((((((((((((V35.ext E36).other W37 ne36_0).other W38 ne36_0).other W39 ne36_0).other W40 ne36_0).other W41 ne36_0).other W42 ne36_0).other W43 ne36_0).other W44 ne36_0).other W45 ne36_0).other W46 ne36_0).other W47 ne36_0).other W48 ne36_0).other W49 ne36_0).other W50 ne36_0).other W51 ne36_0).other W52 ne36_0).other W53 ne36_0)
    obtain ⟨c63, r63, q63, t63, u63, y63h, y63g⟩ := f62
    have i63 : ¬ ((2 : Int32) < 0 ∨ c63.slots.size ≤ ((2 : Int32)).toNatClampNeg) := inb_of t63 ⟨by decide, by decide⟩
    refine own_step (fun _ k => X53.aaload hx (j := (2 : Int32)) (v := (.ref (w2_INT32 Z))) (by rw [e53]; exact r63.1) (State.isArrayOf_alike hZ.alike r63.2.1) rfl r63.2.2 i63 (own_get t63 y63h i63 2 rfl) (g := (mkF m 213 #[.val (.int p0), .val (.ref b1), .val (.ref b36), .val (.int (2 : Int32))] [(.int (2 : Int32)), (.ref b1)])) rfl rfl (hb hby at_213) _ k) ?_
    show own_Wp p e below _ T53 (mkF m 214 #[.val (.int p0), .val (.ref b1), .val (.ref b36), .val (.int (2 : Int32))] [(.ref (w2_INT32 Z))])
    obtain ⟨_, T64, L64, X64, hQ64, st64⟩ := own_callV X53 hx hZ hown (hw _ (List.mem_of_getElem? (i := 40) rfl)) (hw _ (List.mem_of_getElem? (i := 41) rfl)) (notFace_of_selects (args := #[]) (mvT hZ (hw _ (List.mem_of_getElem? (i := 43) rfl)))) (hw _ (List.mem_of_getElem? (i := 43) rfl)) (hw _ (List.mem_of_getElem? (i := 42) rfl)) (hw _ (List.mem_of_getElem? (i := 3) rfl)) (hw _ (List.mem_of_getElem? (i := 44) rfl)) (by decide) ((ex_w2_INT32 hw hA).ext O53.2) (rm1_2 l Z a0 hw hA [] (w2_INT32 Z) h53 n0 O53 (fl14 hw hA) (Fld.ne (fl15 hw hA) (fl3 hw hA) (by decide)) (Fld.ne (fl15 hw hA) (fl4 hw hA) (by decide)) (Fld.ne (fl15 hw hA) (fl5 hw hA) (by decide))) (W := 0) (by decide) (by decide) [] rfl (lenOf pd1 rfl) (Ls := #[.val (.int p0), .val (.ref b1), .val (.ref b36), .val (.int (2 : Int32))]) (by rw [hml]; rfl) (rest := []) (Nat.le_of_eq rfl) (hb hby at_214) e53 (by decide) (by decide)
    refine st64 _ ?_
    obtain ⟨rfl, N64q, e64⟩ := hQ64
    have N64 := Fr.app N53 N64q
    show own_Wp p e below _ T64 (mkF m 217 #[.val (.int p0), .val (.ref b1), .val (.ref b36), .val (.int (2 : Int32))] [(.int (1 : Int32))])
    refine own_step (fun _ k => XS.aloadN X64.here hx rfl (hb hby at_217) rfl rfl k) ?_
    show own_Wp p e below _ T64 (mkF m 218 #[.val (.int p0), .val (.ref b1), .val (.ref b36), .val (.int (2 : Int32))] [(.ref b36), (.int (1 : Int32))])
    refine own_step (fun _ k => XS.iloadN X64.here hx rfl (hb hby at_218) rfl k) ?_
    show own_Wp p e below _ T64 (mkF m 219 #[.val (.int p0), .val (.ref b1), .val (.ref b36), .val (.int (2 : Int32))] [(.int (2 : Int32)), (.ref b36), (.int (1 : Int32))])
    obtain ⟨c65, r65, q65, t65, u65, y65h, y65g⟩ := V53
    have i65 : ¬ ((2 : Int32) < 0 ∨ c65.slots.size ≤ ((2 : Int32)).toNatClampNeg) := inb_of t65 ⟨by decide, by decide⟩
    refine own_step (fun _ k => X64.baloadBooleans hx (j := (2 : Int32)) (v := (.int (1 : Int32))) (by rw [e64]; exact r65.1) (State.isArrayOf_alike hZ.alike r65.2.1) r65.2.2 i65 (own_get t65 y65h i65 2 rfl) (g := (mkF m 219 #[.val (.int p0), .val (.ref b1), .val (.ref b36), .val (.int (2 : Int32))] [(.int (2 : Int32)), (.ref b36), (.int (1 : Int32))])) rfl rfl (hb hby at_219) _ k) ?_
    show own_Wp p e below _ T64 (mkF m 220 #[.val (.int p0), .val (.ref b1), .val (.ref b36), .val (.int (2 : Int32))] [(.int (1 : Int32)), (.int (1 : Int32))])
    refine own_step (fun _ k => XS.icmpNo X64.here hx rfl (hb hby at_220) rfl (by decide) k) ?_
    show own_Wp p e below _ T64 (mkF m 223 #[.val (.int p0), .val (.ref b1), .val (.ref b36), .val (.int (2 : Int32))] [])
    refine own_step (fun _ k => XS.iconst X64.here hx rfl (hb hby at_223) k) ?_
    show own_Wp p e below _ T64 (mkF m 224 #[.val (.int p0), .val (.ref b1), .val (.ref b36), .val (.int (2 : Int32))] [(.int (1 : Int32))])
    refine own_step (fun _ k => XS.goto X64.here hx rfl (pc0 := 224) (pc' := 228) rfl (hb hby at_224) (by decide) (by decide) k) ?_
    show own_Wp p e below _ T64 (mkF m 228 #[.val (.int p0), .val (.ref b1), .val (.ref b36), .val (.int (2 : Int32))] [(.int (1 : Int32))])
    exact own_retN X64 hx (t := .boolean) hret (by simp) hlk (hb hby at_228) (by decide) (by decide) ⟨rfl, N64⟩
  · skip
    rw [hm]
    show own_Wp p e below _ T53 (mkF m 210 #[.val (.int p0), .val (.ref b1), .val (.ref b36), .unset] [(.int (3 : Int32))])
    refine own_step (fun _ k => XS.istoreN X53.here hx rfl (hb hby at_210) rfl (l' := #[.val (.int p0), .val (.ref b1), .val (.ref b36), .val (.int (3 : Int32))]) rfl k) ?_
    show own_Wp p e below _ T53 (mkF m 211 #[.val (.int p0), .val (.ref b1), .val (.ref b36), .val (.int (3 : Int32))] [])
    refine own_step (fun _ k => XS.aloadN X53.here hx rfl (hb hby at_211) rfl rfl k) ?_
    show own_Wp p e below _ T53 (mkF m 212 #[.val (.int p0), .val (.ref b1), .val (.ref b36), .val (.int (3 : Int32))] [(.ref b1)])
    refine own_step (fun _ k => XS.iloadN X53.here hx rfl (hb hby at_212) rfl k) ?_
    show own_Wp p e below _ T53 (mkF m 213 #[.val (.int p0), .val (.ref b1), .val (.ref b36), .val (.int (3 : Int32))] [(.int (3 : Int32)), (.ref b1)])
    have f66 := ((((((((((((((((((V35.ext E36).other W37 ne36_0).other W38 ne36_0).other W39 ne36_0).other W40 ne36_0).other W41 ne36_0).other W42 ne36_0).other W43 ne36_0).other W44 ne36_0).other W45 ne36_0).other W46 ne36_0).other W47 ne36_0).other W48 ne36_0).other W49 ne36_0).other W50 ne36_0).other W51 ne36_0).other W52 ne36_0).other W53 ne36_0)
    obtain ⟨c67, r67, q67, t67, u67, y67h, y67g⟩ := f66
    have i67 : ¬ ((3 : Int32) < 0 ∨ c67.slots.size ≤ ((3 : Int32)).toNatClampNeg) := inb_of t67 ⟨by decide, by decide⟩
    refine own_step (fun _ k => X53.aaload hx (j := (3 : Int32)) (v := (.ref (w3_INT64 Z))) (by rw [e53]; exact r67.1) (State.isArrayOf_alike hZ.alike r67.2.1) rfl r67.2.2 i67 (own_get t67 y67h i67 3 rfl) (g := (mkF m 213 #[.val (.int p0), .val (.ref b1), .val (.ref b36), .val (.int (3 : Int32))] [(.int (3 : Int32)), (.ref b1)])) rfl rfl (hb hby at_213) _ k) ?_
    show own_Wp p e below _ T53 (mkF m 214 #[.val (.int p0), .val (.ref b1), .val (.ref b36), .val (.int (3 : Int32))] [(.ref (w3_INT64 Z))])
    obtain ⟨_, T68, L68, X68, hQ68, st68⟩ := own_callV X53 hx hZ hown (hw _ (List.mem_of_getElem? (i := 40) rfl)) (hw _ (List.mem_of_getElem? (i := 41) rfl)) (notFace_of_selects (args := #[]) (mvT hZ (hw _ (List.mem_of_getElem? (i := 43) rfl)))) (hw _ (List.mem_of_getElem? (i := 43) rfl)) (hw _ (List.mem_of_getElem? (i := 42) rfl)) (hw _ (List.mem_of_getElem? (i := 3) rfl)) (hw _ (List.mem_of_getElem? (i := 44) rfl)) (by decide) ((ex_w3_INT64 hw hA).ext O53.2) (rm1_3 l Z a0 hw hA [] (w3_INT64 Z) h53 n0 O53 (fl1 hw hA) (Fld.ne (fl2 hw hA) (fl3 hw hA) (by decide)) (Fld.ne (fl2 hw hA) (fl4 hw hA) (by decide)) (Fld.ne (fl2 hw hA) (fl5 hw hA) (by decide))) (W := 0) (by decide) (by decide) [] rfl (lenOf pd1 rfl) (Ls := #[.val (.int p0), .val (.ref b1), .val (.ref b36), .val (.int (3 : Int32))]) (by rw [hml]; rfl) (rest := []) (Nat.le_of_eq rfl) (hb hby at_214) e53 (by decide) (by decide)
    refine st68 _ ?_
    obtain ⟨rfl, N68q, e68⟩ := hQ68
    have N68 := Fr.app N53 N68q
    show own_Wp p e below _ T68 (mkF m 217 #[.val (.int p0), .val (.ref b1), .val (.ref b36), .val (.int (3 : Int32))] [(.int (1 : Int32))])
    refine own_step (fun _ k => XS.aloadN X68.here hx rfl (hb hby at_217) rfl rfl k) ?_
    show own_Wp p e below _ T68 (mkF m 218 #[.val (.int p0), .val (.ref b1), .val (.ref b36), .val (.int (3 : Int32))] [(.ref b36), (.int (1 : Int32))])
    refine own_step (fun _ k => XS.iloadN X68.here hx rfl (hb hby at_218) rfl k) ?_
    show own_Wp p e below _ T68 (mkF m 219 #[.val (.int p0), .val (.ref b1), .val (.ref b36), .val (.int (3 : Int32))] [(.int (3 : Int32)), (.ref b36), (.int (1 : Int32))])
    obtain ⟨c69, r69, q69, t69, u69, y69h, y69g⟩ := V53
    have i69 : ¬ ((3 : Int32) < 0 ∨ c69.slots.size ≤ ((3 : Int32)).toNatClampNeg) := inb_of t69 ⟨by decide, by decide⟩
    refine own_step (fun _ k => X68.baloadBooleans hx (j := (3 : Int32)) (v := (.int (1 : Int32))) (by rw [e68]; exact r69.1) (State.isArrayOf_alike hZ.alike r69.2.1) r69.2.2 i69 (own_get t69 y69h i69 3 rfl) (g := (mkF m 219 #[.val (.int p0), .val (.ref b1), .val (.ref b36), .val (.int (3 : Int32))] [(.int (3 : Int32)), (.ref b36), (.int (1 : Int32))])) rfl rfl (hb hby at_219) _ k) ?_
    show own_Wp p e below _ T68 (mkF m 220 #[.val (.int p0), .val (.ref b1), .val (.ref b36), .val (.int (3 : Int32))] [(.int (1 : Int32)), (.int (1 : Int32))])
    refine own_step (fun _ k => XS.icmpNo X68.here hx rfl (hb hby at_220) rfl (by decide) k) ?_
    show own_Wp p e below _ T68 (mkF m 223 #[.val (.int p0), .val (.ref b1), .val (.ref b36), .val (.int (3 : Int32))] [])
    refine own_step (fun _ k => XS.iconst X68.here hx rfl (hb hby at_223) k) ?_
    show own_Wp p e below _ T68 (mkF m 224 #[.val (.int p0), .val (.ref b1), .val (.ref b36), .val (.int (3 : Int32))] [(.int (1 : Int32))])
    refine own_step (fun _ k => XS.goto X68.here hx rfl (pc0 := 224) (pc' := 228) rfl (hb hby at_224) (by decide) (by decide) k) ?_
    show own_Wp p e below _ T68 (mkF m 228 #[.val (.int p0), .val (.ref b1), .val (.ref b36), .val (.int (3 : Int32))] [(.int (1 : Int32))])
    exact own_retN X68 hx (t := .boolean) hret (by simp) hlk (hb hby at_228) (by decide) (by decide) ⟨rfl, N68⟩
  · skip
    rw [hm]
    show own_Wp p e below _ T53 (mkF m 210 #[.val (.int p0), .val (.ref b1), .val (.ref b36), .unset] [(.int (4 : Int32))])
    refine own_step (fun _ k => XS.istoreN X53.here hx rfl (hb hby at_210) rfl (l' := #[.val (.int p0), .val (.ref b1), .val (.ref b36), .val (.int (4 : Int32))]) rfl k) ?_
    show own_Wp p e below _ T53 (mkF m 211 #[.val (.int p0), .val (.ref b1), .val (.ref b36), .val (.int (4 : Int32))] [])
    refine own_step (fun _ k => XS.aloadN X53.here hx rfl (hb hby at_211) rfl rfl k) ?_
    show own_Wp p e below _ T53 (mkF m 212 #[.val (.int p0), .val (.ref b1), .val (.ref b36), .val (.int (4 : Int32))] [(.ref b1)])
    refine own_step (fun _ k => XS.iloadN X53.here hx rfl (hb hby at_212) rfl k) ?_
    show own_Wp p e below _ T53 (mkF m 213 #[.val (.int p0), .val (.ref b1), .val (.ref b36), .val (.int (4 : Int32))] [(.int (4 : Int32)), (.ref b1)])
    have f70 := ((((((((((((((((((V35.ext E36).other W37 ne36_0).other W38 ne36_0).other W39 ne36_0).other W40 ne36_0).other W41 ne36_0).other W42 ne36_0).other W43 ne36_0).other W44 ne36_0).other W45 ne36_0).other W46 ne36_0).other W47 ne36_0).other W48 ne36_0).other W49 ne36_0).other W50 ne36_0).other W51 ne36_0).other W52 ne36_0).other W53 ne36_0)
    obtain ⟨c71, r71, q71, t71, u71, y71h, y71g⟩ := f70
    have i71 : ¬ ((4 : Int32) < 0 ∨ c71.slots.size ≤ ((4 : Int32)).toNatClampNeg) := inb_of t71 ⟨by decide, by decide⟩
    refine own_step (fun _ k => X53.aaload hx (j := (4 : Int32)) (v := (.ref (w4_UINT32 Z))) (by rw [e53]; exact r71.1) (State.isArrayOf_alike hZ.alike r71.2.1) rfl r71.2.2 i71 (own_get t71 y71h i71 4 rfl) (g := (mkF m 213 #[.val (.int p0), .val (.ref b1), .val (.ref b36), .val (.int (4 : Int32))] [(.int (4 : Int32)), (.ref b1)])) rfl rfl (hb hby at_213) _ k) ?_
    show own_Wp p e below _ T53 (mkF m 214 #[.val (.int p0), .val (.ref b1), .val (.ref b36), .val (.int (4 : Int32))] [(.ref (w4_UINT32 Z))])
    obtain ⟨_, T72, L72, X72, hQ72, st72⟩ := own_callV X53 hx hZ hown (hw _ (List.mem_of_getElem? (i := 40) rfl)) (hw _ (List.mem_of_getElem? (i := 41) rfl)) (notFace_of_selects (args := #[]) (mvT hZ (hw _ (List.mem_of_getElem? (i := 43) rfl)))) (hw _ (List.mem_of_getElem? (i := 43) rfl)) (hw _ (List.mem_of_getElem? (i := 42) rfl)) (hw _ (List.mem_of_getElem? (i := 3) rfl)) (hw _ (List.mem_of_getElem? (i := 44) rfl)) (by decide) ((ex_w4_UINT32 hw hA).ext O53.2) (rm1_4 l Z a0 hw hA [] (w4_UINT32 Z) h53 n0 O53 (fl21 hw hA) (Fld.ne (fl22 hw hA) (fl3 hw hA) (by decide)) (Fld.ne (fl22 hw hA) (fl4 hw hA) (by decide)) (Fld.ne (fl22 hw hA) (fl5 hw hA) (by decide))) (W := 0) (by decide) (by decide) [] rfl (lenOf pd1 rfl) (Ls := #[.val (.int p0), .val (.ref b1), .val (.ref b36), .val (.int (4 : Int32))]) (by rw [hml]; rfl) (rest := []) (Nat.le_of_eq rfl) (hb hby at_214) e53 (by decide) (by decide)
    refine st72 _ ?_
    obtain ⟨rfl, N72q, e72⟩ := hQ72
    have N72 := Fr.app N53 N72q
    show own_Wp p e below _ T72 (mkF m 217 #[.val (.int p0), .val (.ref b1), .val (.ref b36), .val (.int (4 : Int32))] [(.int (1 : Int32))])
    refine own_step (fun _ k => XS.aloadN X72.here hx rfl (hb hby at_217) rfl rfl k) ?_
    show own_Wp p e below _ T72 (mkF m 218 #[.val (.int p0), .val (.ref b1), .val (.ref b36), .val (.int (4 : Int32))] [(.ref b36), (.int (1 : Int32))])
    refine own_step (fun _ k => XS.iloadN X72.here hx rfl (hb hby at_218) rfl k) ?_
    show own_Wp p e below _ T72 (mkF m 219 #[.val (.int p0), .val (.ref b1), .val (.ref b36), .val (.int (4 : Int32))] [(.int (4 : Int32)), (.ref b36), (.int (1 : Int32))])
    obtain ⟨c73, r73, q73, t73, u73, y73h, y73g⟩ := V53
    have i73 : ¬ ((4 : Int32) < 0 ∨ c73.slots.size ≤ ((4 : Int32)).toNatClampNeg) := inb_of t73 ⟨by decide, by decide⟩
    refine own_step (fun _ k => X72.baloadBooleans hx (j := (4 : Int32)) (v := (.int (1 : Int32))) (by rw [e72]; exact r73.1) (State.isArrayOf_alike hZ.alike r73.2.1) r73.2.2 i73 (own_get t73 y73h i73 4 rfl) (g := (mkF m 219 #[.val (.int p0), .val (.ref b1), .val (.ref b36), .val (.int (4 : Int32))] [(.int (4 : Int32)), (.ref b36), (.int (1 : Int32))])) rfl rfl (hb hby at_219) _ k) ?_
    show own_Wp p e below _ T72 (mkF m 220 #[.val (.int p0), .val (.ref b1), .val (.ref b36), .val (.int (4 : Int32))] [(.int (1 : Int32)), (.int (1 : Int32))])
    refine own_step (fun _ k => XS.icmpNo X72.here hx rfl (hb hby at_220) rfl (by decide) k) ?_
    show own_Wp p e below _ T72 (mkF m 223 #[.val (.int p0), .val (.ref b1), .val (.ref b36), .val (.int (4 : Int32))] [])
    refine own_step (fun _ k => XS.iconst X72.here hx rfl (hb hby at_223) k) ?_
    show own_Wp p e below _ T72 (mkF m 224 #[.val (.int p0), .val (.ref b1), .val (.ref b36), .val (.int (4 : Int32))] [(.int (1 : Int32))])
    refine own_step (fun _ k => XS.goto X72.here hx rfl (pc0 := 224) (pc' := 228) rfl (hb hby at_224) (by decide) (by decide) k) ?_
    show own_Wp p e below _ T72 (mkF m 228 #[.val (.int p0), .val (.ref b1), .val (.ref b36), .val (.int (4 : Int32))] [(.int (1 : Int32))])
    exact own_retN X72 hx (t := .boolean) hret (by simp) hlk (hb hby at_228) (by decide) (by decide) ⟨rfl, N72⟩
  · skip
    rw [hm]
    show own_Wp p e below _ T53 (mkF m 210 #[.val (.int p0), .val (.ref b1), .val (.ref b36), .unset] [(.int (5 : Int32))])
    refine own_step (fun _ k => XS.istoreN X53.here hx rfl (hb hby at_210) rfl (l' := #[.val (.int p0), .val (.ref b1), .val (.ref b36), .val (.int (5 : Int32))]) rfl k) ?_
    show own_Wp p e below _ T53 (mkF m 211 #[.val (.int p0), .val (.ref b1), .val (.ref b36), .val (.int (5 : Int32))] [])
    refine own_step (fun _ k => XS.aloadN X53.here hx rfl (hb hby at_211) rfl rfl k) ?_
    show own_Wp p e below _ T53 (mkF m 212 #[.val (.int p0), .val (.ref b1), .val (.ref b36), .val (.int (5 : Int32))] [(.ref b1)])
    refine own_step (fun _ k => XS.iloadN X53.here hx rfl (hb hby at_212) rfl k) ?_
    show own_Wp p e below _ T53 (mkF m 213 #[.val (.int p0), .val (.ref b1), .val (.ref b36), .val (.int (5 : Int32))] [(.int (5 : Int32)), (.ref b1)])
    have f74 := ((((((((((((((((((V35.ext E36).other W37 ne36_0).other W38 ne36_0).other W39 ne36_0).other W40 ne36_0).other W41 ne36_0).other W42 ne36_0).other W43 ne36_0).other W44 ne36_0).other W45 ne36_0).other W46 ne36_0).other W47 ne36_0).other W48 ne36_0).other W49 ne36_0).other W50 ne36_0).other W51 ne36_0).other W52 ne36_0).other W53 ne36_0)
    obtain ⟨c75, r75, q75, t75, u75, y75h, y75g⟩ := f74
    have i75 : ¬ ((5 : Int32) < 0 ∨ c75.slots.size ≤ ((5 : Int32)).toNatClampNeg) := inb_of t75 ⟨by decide, by decide⟩
    refine own_step (fun _ k => X53.aaload hx (j := (5 : Int32)) (v := (.ref (w5_UINT64 Z))) (by rw [e53]; exact r75.1) (State.isArrayOf_alike hZ.alike r75.2.1) rfl r75.2.2 i75 (own_get t75 y75h i75 5 rfl) (g := (mkF m 213 #[.val (.int p0), .val (.ref b1), .val (.ref b36), .val (.int (5 : Int32))] [(.int (5 : Int32)), (.ref b1)])) rfl rfl (hb hby at_213) _ k) ?_
    show own_Wp p e below _ T53 (mkF m 214 #[.val (.int p0), .val (.ref b1), .val (.ref b36), .val (.int (5 : Int32))] [(.ref (w5_UINT64 Z))])
    obtain ⟨_, T76, L76, X76, hQ76, st76⟩ := own_callV X53 hx hZ hown (hw _ (List.mem_of_getElem? (i := 40) rfl)) (hw _ (List.mem_of_getElem? (i := 41) rfl)) (notFace_of_selects (args := #[]) (mvT hZ (hw _ (List.mem_of_getElem? (i := 43) rfl)))) (hw _ (List.mem_of_getElem? (i := 43) rfl)) (hw _ (List.mem_of_getElem? (i := 42) rfl)) (hw _ (List.mem_of_getElem? (i := 3) rfl)) (hw _ (List.mem_of_getElem? (i := 44) rfl)) (by decide) ((ex_w5_UINT64 hw hA).ext O53.2) (rm1_5 l Z a0 hw hA [] (w5_UINT64 Z) h53 n0 O53 (fl27 hw hA) (Fld.ne (fl28 hw hA) (fl3 hw hA) (by decide)) (Fld.ne (fl28 hw hA) (fl4 hw hA) (by decide)) (Fld.ne (fl28 hw hA) (fl5 hw hA) (by decide))) (W := 0) (by decide) (by decide) [] rfl (lenOf pd1 rfl) (Ls := #[.val (.int p0), .val (.ref b1), .val (.ref b36), .val (.int (5 : Int32))]) (by rw [hml]; rfl) (rest := []) (Nat.le_of_eq rfl) (hb hby at_214) e53 (by decide) (by decide)
    refine st76 _ ?_
    obtain ⟨rfl, N76q, e76⟩ := hQ76
    have N76 := Fr.app N53 N76q
    show own_Wp p e below _ T76 (mkF m 217 #[.val (.int p0), .val (.ref b1), .val (.ref b36), .val (.int (5 : Int32))] [(.int (1 : Int32))])
    refine own_step (fun _ k => XS.aloadN X76.here hx rfl (hb hby at_217) rfl rfl k) ?_
    show own_Wp p e below _ T76 (mkF m 218 #[.val (.int p0), .val (.ref b1), .val (.ref b36), .val (.int (5 : Int32))] [(.ref b36), (.int (1 : Int32))])
    refine own_step (fun _ k => XS.iloadN X76.here hx rfl (hb hby at_218) rfl k) ?_
    show own_Wp p e below _ T76 (mkF m 219 #[.val (.int p0), .val (.ref b1), .val (.ref b36), .val (.int (5 : Int32))] [(.int (5 : Int32)), (.ref b36), (.int (1 : Int32))])
    obtain ⟨c77, r77, q77, t77, u77, y77h, y77g⟩ := V53
    have i77 : ¬ ((5 : Int32) < 0 ∨ c77.slots.size ≤ ((5 : Int32)).toNatClampNeg) := inb_of t77 ⟨by decide, by decide⟩
    refine own_step (fun _ k => X76.baloadBooleans hx (j := (5 : Int32)) (v := (.int (1 : Int32))) (by rw [e76]; exact r77.1) (State.isArrayOf_alike hZ.alike r77.2.1) r77.2.2 i77 (own_get t77 y77h i77 5 rfl) (g := (mkF m 219 #[.val (.int p0), .val (.ref b1), .val (.ref b36), .val (.int (5 : Int32))] [(.int (5 : Int32)), (.ref b36), (.int (1 : Int32))])) rfl rfl (hb hby at_219) _ k) ?_
    show own_Wp p e below _ T76 (mkF m 220 #[.val (.int p0), .val (.ref b1), .val (.ref b36), .val (.int (5 : Int32))] [(.int (1 : Int32)), (.int (1 : Int32))])
    refine own_step (fun _ k => XS.icmpNo X76.here hx rfl (hb hby at_220) rfl (by decide) k) ?_
    show own_Wp p e below _ T76 (mkF m 223 #[.val (.int p0), .val (.ref b1), .val (.ref b36), .val (.int (5 : Int32))] [])
    refine own_step (fun _ k => XS.iconst X76.here hx rfl (hb hby at_223) k) ?_
    show own_Wp p e below _ T76 (mkF m 224 #[.val (.int p0), .val (.ref b1), .val (.ref b36), .val (.int (5 : Int32))] [(.int (1 : Int32))])
    refine own_step (fun _ k => XS.goto X76.here hx rfl (pc0 := 224) (pc' := 228) rfl (hb hby at_224) (by decide) (by decide) k) ?_
    show own_Wp p e below _ T76 (mkF m 228 #[.val (.int p0), .val (.ref b1), .val (.ref b36), .val (.int (5 : Int32))] [(.int (1 : Int32))])
    exact own_retN X76 hx (t := .boolean) hret (by simp) hlk (hb hby at_228) (by decide) (by decide) ⟨rfl, N76⟩
  · skip
    rw [hm]
    show own_Wp p e below _ T53 (mkF m 210 #[.val (.int p0), .val (.ref b1), .val (.ref b36), .unset] [(.int (6 : Int32))])
    refine own_step (fun _ k => XS.istoreN X53.here hx rfl (hb hby at_210) rfl (l' := #[.val (.int p0), .val (.ref b1), .val (.ref b36), .val (.int (6 : Int32))]) rfl k) ?_
    show own_Wp p e below _ T53 (mkF m 211 #[.val (.int p0), .val (.ref b1), .val (.ref b36), .val (.int (6 : Int32))] [])
    refine own_step (fun _ k => XS.aloadN X53.here hx rfl (hb hby at_211) rfl rfl k) ?_
    show own_Wp p e below _ T53 (mkF m 212 #[.val (.int p0), .val (.ref b1), .val (.ref b36), .val (.int (6 : Int32))] [(.ref b1)])
    refine own_step (fun _ k => XS.iloadN X53.here hx rfl (hb hby at_212) rfl k) ?_
    show own_Wp p e below _ T53 (mkF m 213 #[.val (.int p0), .val (.ref b1), .val (.ref b36), .val (.int (6 : Int32))] [(.int (6 : Int32)), (.ref b1)])
    have f78 := ((((((((((((((((((V35.ext E36).other W37 ne36_0).other W38 ne36_0).other W39 ne36_0).other W40 ne36_0).other W41 ne36_0).other W42 ne36_0).other W43 ne36_0).other W44 ne36_0).other W45 ne36_0).other W46 ne36_0).other W47 ne36_0).other W48 ne36_0).other W49 ne36_0).other W50 ne36_0).other W51 ne36_0).other W52 ne36_0).other W53 ne36_0)
    obtain ⟨c79, r79, q79, t79, u79, y79h, y79g⟩ := f78
    have i79 : ¬ ((6 : Int32) < 0 ∨ c79.slots.size ≤ ((6 : Int32)).toNatClampNeg) := inb_of t79 ⟨by decide, by decide⟩
    refine own_step (fun _ k => X53.aaload hx (j := (6 : Int32)) (v := (.ref (w6_SINT32 Z))) (by rw [e53]; exact r79.1) (State.isArrayOf_alike hZ.alike r79.2.1) rfl r79.2.2 i79 (own_get t79 y79h i79 6 rfl) (g := (mkF m 213 #[.val (.int p0), .val (.ref b1), .val (.ref b36), .val (.int (6 : Int32))] [(.int (6 : Int32)), (.ref b1)])) rfl rfl (hb hby at_213) _ k) ?_
    show own_Wp p e below _ T53 (mkF m 214 #[.val (.int p0), .val (.ref b1), .val (.ref b36), .val (.int (6 : Int32))] [(.ref (w6_SINT32 Z))])
    obtain ⟨_, T80, L80, X80, hQ80, st80⟩ := own_callV X53 hx hZ hown (hw _ (List.mem_of_getElem? (i := 40) rfl)) (hw _ (List.mem_of_getElem? (i := 41) rfl)) (notFace_of_selects (args := #[]) (mvT hZ (hw _ (List.mem_of_getElem? (i := 43) rfl)))) (hw _ (List.mem_of_getElem? (i := 43) rfl)) (hw _ (List.mem_of_getElem? (i := 42) rfl)) (hw _ (List.mem_of_getElem? (i := 3) rfl)) (hw _ (List.mem_of_getElem? (i := 44) rfl)) (by decide) ((ex_w6_SINT32 hw hA).ext O53.2) (rm1_6 l Z a0 hw hA [] (w6_SINT32 Z) h53 n0 O53 (fl10 hw hA) (Fld.ne (fl11 hw hA) (fl3 hw hA) (by decide)) (Fld.ne (fl11 hw hA) (fl4 hw hA) (by decide)) (Fld.ne (fl11 hw hA) (fl5 hw hA) (by decide))) (W := 0) (by decide) (by decide) [] rfl (lenOf pd1 rfl) (Ls := #[.val (.int p0), .val (.ref b1), .val (.ref b36), .val (.int (6 : Int32))]) (by rw [hml]; rfl) (rest := []) (Nat.le_of_eq rfl) (hb hby at_214) e53 (by decide) (by decide)
    refine st80 _ ?_
    obtain ⟨rfl, N80q, e80⟩ := hQ80
    have N80 := Fr.app N53 N80q
    show own_Wp p e below _ T80 (mkF m 217 #[.val (.int p0), .val (.ref b1), .val (.ref b36), .val (.int (6 : Int32))] [(.int (1 : Int32))])
    refine own_step (fun _ k => XS.aloadN X80.here hx rfl (hb hby at_217) rfl rfl k) ?_
    show own_Wp p e below _ T80 (mkF m 218 #[.val (.int p0), .val (.ref b1), .val (.ref b36), .val (.int (6 : Int32))] [(.ref b36), (.int (1 : Int32))])
    refine own_step (fun _ k => XS.iloadN X80.here hx rfl (hb hby at_218) rfl k) ?_
    show own_Wp p e below _ T80 (mkF m 219 #[.val (.int p0), .val (.ref b1), .val (.ref b36), .val (.int (6 : Int32))] [(.int (6 : Int32)), (.ref b36), (.int (1 : Int32))])
    obtain ⟨c81, r81, q81, t81, u81, y81h, y81g⟩ := V53
    have i81 : ¬ ((6 : Int32) < 0 ∨ c81.slots.size ≤ ((6 : Int32)).toNatClampNeg) := inb_of t81 ⟨by decide, by decide⟩
    refine own_step (fun _ k => X80.baloadBooleans hx (j := (6 : Int32)) (v := (.int (1 : Int32))) (by rw [e80]; exact r81.1) (State.isArrayOf_alike hZ.alike r81.2.1) r81.2.2 i81 (own_get t81 y81h i81 6 rfl) (g := (mkF m 219 #[.val (.int p0), .val (.ref b1), .val (.ref b36), .val (.int (6 : Int32))] [(.int (6 : Int32)), (.ref b36), (.int (1 : Int32))])) rfl rfl (hb hby at_219) _ k) ?_
    show own_Wp p e below _ T80 (mkF m 220 #[.val (.int p0), .val (.ref b1), .val (.ref b36), .val (.int (6 : Int32))] [(.int (1 : Int32)), (.int (1 : Int32))])
    refine own_step (fun _ k => XS.icmpNo X80.here hx rfl (hb hby at_220) rfl (by decide) k) ?_
    show own_Wp p e below _ T80 (mkF m 223 #[.val (.int p0), .val (.ref b1), .val (.ref b36), .val (.int (6 : Int32))] [])
    refine own_step (fun _ k => XS.iconst X80.here hx rfl (hb hby at_223) k) ?_
    show own_Wp p e below _ T80 (mkF m 224 #[.val (.int p0), .val (.ref b1), .val (.ref b36), .val (.int (6 : Int32))] [(.int (1 : Int32))])
    refine own_step (fun _ k => XS.goto X80.here hx rfl (pc0 := 224) (pc' := 228) rfl (hb hby at_224) (by decide) (by decide) k) ?_
    show own_Wp p e below _ T80 (mkF m 228 #[.val (.int p0), .val (.ref b1), .val (.ref b36), .val (.int (6 : Int32))] [(.int (1 : Int32))])
    exact own_retN X80 hx (t := .boolean) hret (by simp) hlk (hb hby at_228) (by decide) (by decide) ⟨rfl, N80⟩
  · skip
    rw [hm]
    show own_Wp p e below _ T53 (mkF m 210 #[.val (.int p0), .val (.ref b1), .val (.ref b36), .unset] [(.int (7 : Int32))])
    refine own_step (fun _ k => XS.istoreN X53.here hx rfl (hb hby at_210) rfl (l' := #[.val (.int p0), .val (.ref b1), .val (.ref b36), .val (.int (7 : Int32))]) rfl k) ?_
    show own_Wp p e below _ T53 (mkF m 211 #[.val (.int p0), .val (.ref b1), .val (.ref b36), .val (.int (7 : Int32))] [])
    refine own_step (fun _ k => XS.aloadN X53.here hx rfl (hb hby at_211) rfl rfl k) ?_
    show own_Wp p e below _ T53 (mkF m 212 #[.val (.int p0), .val (.ref b1), .val (.ref b36), .val (.int (7 : Int32))] [(.ref b1)])
    refine own_step (fun _ k => XS.iloadN X53.here hx rfl (hb hby at_212) rfl k) ?_
    show own_Wp p e below _ T53 (mkF m 213 #[.val (.int p0), .val (.ref b1), .val (.ref b36), .val (.int (7 : Int32))] [(.int (7 : Int32)), (.ref b1)])
    have f82 := ((((((((((((((((((V35.ext E36).other W37 ne36_0).other W38 ne36_0).other W39 ne36_0).other W40 ne36_0).other W41 ne36_0).other W42 ne36_0).other W43 ne36_0).other W44 ne36_0).other W45 ne36_0).other W46 ne36_0).other W47 ne36_0).other W48 ne36_0).other W49 ne36_0).other W50 ne36_0).other W51 ne36_0).other W52 ne36_0).other W53 ne36_0)
    obtain ⟨c83, r83, q83, t83, u83, y83h, y83g⟩ := f82
    have i83 : ¬ ((7 : Int32) < 0 ∨ c83.slots.size ≤ ((7 : Int32)).toNatClampNeg) := inb_of t83 ⟨by decide, by decide⟩
    refine own_step (fun _ k => X53.aaload hx (j := (7 : Int32)) (v := (.ref (w7_SINT64 Z))) (by rw [e53]; exact r83.1) (State.isArrayOf_alike hZ.alike r83.2.1) rfl r83.2.2 i83 (own_get t83 y83h i83 7 rfl) (g := (mkF m 213 #[.val (.int p0), .val (.ref b1), .val (.ref b36), .val (.int (7 : Int32))] [(.int (7 : Int32)), (.ref b1)])) rfl rfl (hb hby at_213) _ k) ?_
    show own_Wp p e below _ T53 (mkF m 214 #[.val (.int p0), .val (.ref b1), .val (.ref b36), .val (.int (7 : Int32))] [(.ref (w7_SINT64 Z))])
    obtain ⟨_, T84, L84, X84, hQ84, st84⟩ := own_callV X53 hx hZ hown (hw _ (List.mem_of_getElem? (i := 40) rfl)) (hw _ (List.mem_of_getElem? (i := 41) rfl)) (notFace_of_selects (args := #[]) (mvT hZ (hw _ (List.mem_of_getElem? (i := 43) rfl)))) (hw _ (List.mem_of_getElem? (i := 43) rfl)) (hw _ (List.mem_of_getElem? (i := 42) rfl)) (hw _ (List.mem_of_getElem? (i := 3) rfl)) (hw _ (List.mem_of_getElem? (i := 44) rfl)) (by decide) ((ex_w7_SINT64 hw hA).ext O53.2) (rm1_7 l Z a0 hw hA [] (w7_SINT64 Z) h53 n0 O53 (fl12 hw hA) (Fld.ne (fl13 hw hA) (fl3 hw hA) (by decide)) (Fld.ne (fl13 hw hA) (fl4 hw hA) (by decide)) (Fld.ne (fl13 hw hA) (fl5 hw hA) (by decide))) (W := 0) (by decide) (by decide) [] rfl (lenOf pd1 rfl) (Ls := #[.val (.int p0), .val (.ref b1), .val (.ref b36), .val (.int (7 : Int32))]) (by rw [hml]; rfl) (rest := []) (Nat.le_of_eq rfl) (hb hby at_214) e53 (by decide) (by decide)
    refine st84 _ ?_
    obtain ⟨rfl, N84q, e84⟩ := hQ84
    have N84 := Fr.app N53 N84q
    show own_Wp p e below _ T84 (mkF m 217 #[.val (.int p0), .val (.ref b1), .val (.ref b36), .val (.int (7 : Int32))] [(.int (1 : Int32))])
    refine own_step (fun _ k => XS.aloadN X84.here hx rfl (hb hby at_217) rfl rfl k) ?_
    show own_Wp p e below _ T84 (mkF m 218 #[.val (.int p0), .val (.ref b1), .val (.ref b36), .val (.int (7 : Int32))] [(.ref b36), (.int (1 : Int32))])
    refine own_step (fun _ k => XS.iloadN X84.here hx rfl (hb hby at_218) rfl k) ?_
    show own_Wp p e below _ T84 (mkF m 219 #[.val (.int p0), .val (.ref b1), .val (.ref b36), .val (.int (7 : Int32))] [(.int (7 : Int32)), (.ref b36), (.int (1 : Int32))])
    obtain ⟨c85, r85, q85, t85, u85, y85h, y85g⟩ := V53
    have i85 : ¬ ((7 : Int32) < 0 ∨ c85.slots.size ≤ ((7 : Int32)).toNatClampNeg) := inb_of t85 ⟨by decide, by decide⟩
    refine own_step (fun _ k => X84.baloadBooleans hx (j := (7 : Int32)) (v := (.int (1 : Int32))) (by rw [e84]; exact r85.1) (State.isArrayOf_alike hZ.alike r85.2.1) r85.2.2 i85 (own_get t85 y85h i85 7 rfl) (g := (mkF m 219 #[.val (.int p0), .val (.ref b1), .val (.ref b36), .val (.int (7 : Int32))] [(.int (7 : Int32)), (.ref b36), (.int (1 : Int32))])) rfl rfl (hb hby at_219) _ k) ?_
    show own_Wp p e below _ T84 (mkF m 220 #[.val (.int p0), .val (.ref b1), .val (.ref b36), .val (.int (7 : Int32))] [(.int (1 : Int32)), (.int (1 : Int32))])
    refine own_step (fun _ k => XS.icmpNo X84.here hx rfl (hb hby at_220) rfl (by decide) k) ?_
    show own_Wp p e below _ T84 (mkF m 223 #[.val (.int p0), .val (.ref b1), .val (.ref b36), .val (.int (7 : Int32))] [])
    refine own_step (fun _ k => XS.iconst X84.here hx rfl (hb hby at_223) k) ?_
    show own_Wp p e below _ T84 (mkF m 224 #[.val (.int p0), .val (.ref b1), .val (.ref b36), .val (.int (7 : Int32))] [(.int (1 : Int32))])
    refine own_step (fun _ k => XS.goto X84.here hx rfl (pc0 := 224) (pc' := 228) rfl (hb hby at_224) (by decide) (by decide) k) ?_
    show own_Wp p e below _ T84 (mkF m 228 #[.val (.int p0), .val (.ref b1), .val (.ref b36), .val (.int (7 : Int32))] [(.int (1 : Int32))])
    exact own_retN X84 hx (t := .boolean) hret (by simp) hlk (hb hby at_228) (by decide) (by decide) ⟨rfl, N84⟩
  · skip
    rw [hm]
    show own_Wp p e below _ T53 (mkF m 210 #[.val (.int p0), .val (.ref b1), .val (.ref b36), .unset] [(.int (8 : Int32))])
    refine own_step (fun _ k => XS.istoreN X53.here hx rfl (hb hby at_210) rfl (l' := #[.val (.int p0), .val (.ref b1), .val (.ref b36), .val (.int (8 : Int32))]) rfl k) ?_
    show own_Wp p e below _ T53 (mkF m 211 #[.val (.int p0), .val (.ref b1), .val (.ref b36), .val (.int (8 : Int32))] [])
    refine own_step (fun _ k => XS.aloadN X53.here hx rfl (hb hby at_211) rfl rfl k) ?_
    show own_Wp p e below _ T53 (mkF m 212 #[.val (.int p0), .val (.ref b1), .val (.ref b36), .val (.int (8 : Int32))] [(.ref b1)])
    refine own_step (fun _ k => XS.iloadN X53.here hx rfl (hb hby at_212) rfl k) ?_
    show own_Wp p e below _ T53 (mkF m 213 #[.val (.int p0), .val (.ref b1), .val (.ref b36), .val (.int (8 : Int32))] [(.int (8 : Int32)), (.ref b1)])
    have f86 := ((((((((((((((((((V35.ext E36).other W37 ne36_0).other W38 ne36_0).other W39 ne36_0).other W40 ne36_0).other W41 ne36_0).other W42 ne36_0).other W43 ne36_0).other W44 ne36_0).other W45 ne36_0).other W46 ne36_0).other W47 ne36_0).other W48 ne36_0).other W49 ne36_0).other W50 ne36_0).other W51 ne36_0).other W52 ne36_0).other W53 ne36_0)
    obtain ⟨c87, r87, q87, t87, u87, y87h, y87g⟩ := f86
    have i87 : ¬ ((8 : Int32) < 0 ∨ c87.slots.size ≤ ((8 : Int32)).toNatClampNeg) := inb_of t87 ⟨by decide, by decide⟩
    refine own_step (fun _ k => X53.aaload hx (j := (8 : Int32)) (v := (.ref (w8_FIXED32 Z))) (by rw [e53]; exact r87.1) (State.isArrayOf_alike hZ.alike r87.2.1) rfl r87.2.2 i87 (own_get t87 y87h i87 8 rfl) (g := (mkF m 213 #[.val (.int p0), .val (.ref b1), .val (.ref b36), .val (.int (8 : Int32))] [(.int (8 : Int32)), (.ref b1)])) rfl rfl (hb hby at_213) _ k) ?_
    show own_Wp p e below _ T53 (mkF m 214 #[.val (.int p0), .val (.ref b1), .val (.ref b36), .val (.int (8 : Int32))] [(.ref (w8_FIXED32 Z))])
    obtain ⟨_, T88, L88, X88, hQ88, st88⟩ := own_callV X53 hx hZ hown (hw _ (List.mem_of_getElem? (i := 40) rfl)) (hw _ (List.mem_of_getElem? (i := 41) rfl)) (notFace_of_selects (args := #[]) (mvT hZ (hw _ (List.mem_of_getElem? (i := 43) rfl)))) (hw _ (List.mem_of_getElem? (i := 43) rfl)) (hw _ (List.mem_of_getElem? (i := 42) rfl)) (hw _ (List.mem_of_getElem? (i := 3) rfl)) (hw _ (List.mem_of_getElem? (i := 44) rfl)) (by decide) ((ex_w8_FIXED32 hw hA).ext O53.2) (rm1_8 l Z a0 hw hA [] (w8_FIXED32 Z) h53 n0 O53 (fl6 hw hA) (Fld.ne (fl7 hw hA) (fl3 hw hA) (by decide)) (Fld.ne (fl7 hw hA) (fl4 hw hA) (by decide)) (Fld.ne (fl7 hw hA) (fl5 hw hA) (by decide))) (W := 0) (by decide) (by decide) [] rfl (lenOf pd1 rfl) (Ls := #[.val (.int p0), .val (.ref b1), .val (.ref b36), .val (.int (8 : Int32))]) (by rw [hml]; rfl) (rest := []) (Nat.le_of_eq rfl) (hb hby at_214) e53 (by decide) (by decide)
    refine st88 _ ?_
    obtain ⟨rfl, N88q, e88⟩ := hQ88
    have N88 := Fr.app N53 N88q
    show own_Wp p e below _ T88 (mkF m 217 #[.val (.int p0), .val (.ref b1), .val (.ref b36), .val (.int (8 : Int32))] [(.int (1 : Int32))])
    refine own_step (fun _ k => XS.aloadN X88.here hx rfl (hb hby at_217) rfl rfl k) ?_
    show own_Wp p e below _ T88 (mkF m 218 #[.val (.int p0), .val (.ref b1), .val (.ref b36), .val (.int (8 : Int32))] [(.ref b36), (.int (1 : Int32))])
    refine own_step (fun _ k => XS.iloadN X88.here hx rfl (hb hby at_218) rfl k) ?_
    show own_Wp p e below _ T88 (mkF m 219 #[.val (.int p0), .val (.ref b1), .val (.ref b36), .val (.int (8 : Int32))] [(.int (8 : Int32)), (.ref b36), (.int (1 : Int32))])
    obtain ⟨c89, r89, q89, t89, u89, y89h, y89g⟩ := V53
    have i89 : ¬ ((8 : Int32) < 0 ∨ c89.slots.size ≤ ((8 : Int32)).toNatClampNeg) := inb_of t89 ⟨by decide, by decide⟩
    refine own_step (fun _ k => X88.baloadBooleans hx (j := (8 : Int32)) (v := (.int (1 : Int32))) (by rw [e88]; exact r89.1) (State.isArrayOf_alike hZ.alike r89.2.1) r89.2.2 i89 (own_get t89 y89h i89 8 rfl) (g := (mkF m 219 #[.val (.int p0), .val (.ref b1), .val (.ref b36), .val (.int (8 : Int32))] [(.int (8 : Int32)), (.ref b36), (.int (1 : Int32))])) rfl rfl (hb hby at_219) _ k) ?_
    show own_Wp p e below _ T88 (mkF m 220 #[.val (.int p0), .val (.ref b1), .val (.ref b36), .val (.int (8 : Int32))] [(.int (1 : Int32)), (.int (1 : Int32))])
    refine own_step (fun _ k => XS.icmpNo X88.here hx rfl (hb hby at_220) rfl (by decide) k) ?_
    show own_Wp p e below _ T88 (mkF m 223 #[.val (.int p0), .val (.ref b1), .val (.ref b36), .val (.int (8 : Int32))] [])
    refine own_step (fun _ k => XS.iconst X88.here hx rfl (hb hby at_223) k) ?_
    show own_Wp p e below _ T88 (mkF m 224 #[.val (.int p0), .val (.ref b1), .val (.ref b36), .val (.int (8 : Int32))] [(.int (1 : Int32))])
    refine own_step (fun _ k => XS.goto X88.here hx rfl (pc0 := 224) (pc' := 228) rfl (hb hby at_224) (by decide) (by decide) k) ?_
    show own_Wp p e below _ T88 (mkF m 228 #[.val (.int p0), .val (.ref b1), .val (.ref b36), .val (.int (8 : Int32))] [(.int (1 : Int32))])
    exact own_retN X88 hx (t := .boolean) hret (by simp) hlk (hb hby at_228) (by decide) (by decide) ⟨rfl, N88⟩
  · skip
    rw [hm]
    show own_Wp p e below _ T53 (mkF m 210 #[.val (.int p0), .val (.ref b1), .val (.ref b36), .unset] [(.int (9 : Int32))])
    refine own_step (fun _ k => XS.istoreN X53.here hx rfl (hb hby at_210) rfl (l' := #[.val (.int p0), .val (.ref b1), .val (.ref b36), .val (.int (9 : Int32))]) rfl k) ?_
    show own_Wp p e below _ T53 (mkF m 211 #[.val (.int p0), .val (.ref b1), .val (.ref b36), .val (.int (9 : Int32))] [])
    refine own_step (fun _ k => XS.aloadN X53.here hx rfl (hb hby at_211) rfl rfl k) ?_
    show own_Wp p e below _ T53 (mkF m 212 #[.val (.int p0), .val (.ref b1), .val (.ref b36), .val (.int (9 : Int32))] [(.ref b1)])
    refine own_step (fun _ k => XS.iloadN X53.here hx rfl (hb hby at_212) rfl k) ?_
    show own_Wp p e below _ T53 (mkF m 213 #[.val (.int p0), .val (.ref b1), .val (.ref b36), .val (.int (9 : Int32))] [(.int (9 : Int32)), (.ref b1)])
    have f90 := ((((((((((((((((((V35.ext E36).other W37 ne36_0).other W38 ne36_0).other W39 ne36_0).other W40 ne36_0).other W41 ne36_0).other W42 ne36_0).other W43 ne36_0).other W44 ne36_0).other W45 ne36_0).other W46 ne36_0).other W47 ne36_0).other W48 ne36_0).other W49 ne36_0).other W50 ne36_0).other W51 ne36_0).other W52 ne36_0).other W53 ne36_0)
    obtain ⟨c91, r91, q91, t91, u91, y91h, y91g⟩ := f90
    have i91 : ¬ ((9 : Int32) < 0 ∨ c91.slots.size ≤ ((9 : Int32)).toNatClampNeg) := inb_of t91 ⟨by decide, by decide⟩
    refine own_step (fun _ k => X53.aaload hx (j := (9 : Int32)) (v := (.ref (w9_FIXED64 Z))) (by rw [e53]; exact r91.1) (State.isArrayOf_alike hZ.alike r91.2.1) rfl r91.2.2 i91 (own_get t91 y91h i91 9 rfl) (g := (mkF m 213 #[.val (.int p0), .val (.ref b1), .val (.ref b36), .val (.int (9 : Int32))] [(.int (9 : Int32)), (.ref b1)])) rfl rfl (hb hby at_213) _ k) ?_
    show own_Wp p e below _ T53 (mkF m 214 #[.val (.int p0), .val (.ref b1), .val (.ref b36), .val (.int (9 : Int32))] [(.ref (w9_FIXED64 Z))])
    obtain ⟨_, T92, L92, X92, hQ92, st92⟩ := own_callV X53 hx hZ hown (hw _ (List.mem_of_getElem? (i := 40) rfl)) (hw _ (List.mem_of_getElem? (i := 41) rfl)) (notFace_of_selects (args := #[]) (mvT hZ (hw _ (List.mem_of_getElem? (i := 43) rfl)))) (hw _ (List.mem_of_getElem? (i := 43) rfl)) (hw _ (List.mem_of_getElem? (i := 42) rfl)) (hw _ (List.mem_of_getElem? (i := 3) rfl)) (hw _ (List.mem_of_getElem? (i := 44) rfl)) (by decide) ((ex_w9_FIXED64 hw hA).ext O53.2) (rm1_9 l Z a0 hw hA [] (w9_FIXED64 Z) h53 n0 O53 (fl8 hw hA) (Fld.ne (fl9 hw hA) (fl3 hw hA) (by decide)) (Fld.ne (fl9 hw hA) (fl4 hw hA) (by decide)) (Fld.ne (fl9 hw hA) (fl5 hw hA) (by decide))) (W := 0) (by decide) (by decide) [] rfl (lenOf pd1 rfl) (Ls := #[.val (.int p0), .val (.ref b1), .val (.ref b36), .val (.int (9 : Int32))]) (by rw [hml]; rfl) (rest := []) (Nat.le_of_eq rfl) (hb hby at_214) e53 (by decide) (by decide)
    refine st92 _ ?_
    obtain ⟨rfl, N92q, e92⟩ := hQ92
    have N92 := Fr.app N53 N92q
    show own_Wp p e below _ T92 (mkF m 217 #[.val (.int p0), .val (.ref b1), .val (.ref b36), .val (.int (9 : Int32))] [(.int (1 : Int32))])
    refine own_step (fun _ k => XS.aloadN X92.here hx rfl (hb hby at_217) rfl rfl k) ?_
    show own_Wp p e below _ T92 (mkF m 218 #[.val (.int p0), .val (.ref b1), .val (.ref b36), .val (.int (9 : Int32))] [(.ref b36), (.int (1 : Int32))])
    refine own_step (fun _ k => XS.iloadN X92.here hx rfl (hb hby at_218) rfl k) ?_
    show own_Wp p e below _ T92 (mkF m 219 #[.val (.int p0), .val (.ref b1), .val (.ref b36), .val (.int (9 : Int32))] [(.int (9 : Int32)), (.ref b36), (.int (1 : Int32))])
    obtain ⟨c93, r93, q93, t93, u93, y93h, y93g⟩ := V53
    have i93 : ¬ ((9 : Int32) < 0 ∨ c93.slots.size ≤ ((9 : Int32)).toNatClampNeg) := inb_of t93 ⟨by decide, by decide⟩
    refine own_step (fun _ k => X92.baloadBooleans hx (j := (9 : Int32)) (v := (.int (1 : Int32))) (by rw [e92]; exact r93.1) (State.isArrayOf_alike hZ.alike r93.2.1) r93.2.2 i93 (own_get t93 y93h i93 9 rfl) (g := (mkF m 219 #[.val (.int p0), .val (.ref b1), .val (.ref b36), .val (.int (9 : Int32))] [(.int (9 : Int32)), (.ref b36), (.int (1 : Int32))])) rfl rfl (hb hby at_219) _ k) ?_
    show own_Wp p e below _ T92 (mkF m 220 #[.val (.int p0), .val (.ref b1), .val (.ref b36), .val (.int (9 : Int32))] [(.int (1 : Int32)), (.int (1 : Int32))])
    refine own_step (fun _ k => XS.icmpNo X92.here hx rfl (hb hby at_220) rfl (by decide) k) ?_
    show own_Wp p e below _ T92 (mkF m 223 #[.val (.int p0), .val (.ref b1), .val (.ref b36), .val (.int (9 : Int32))] [])
    refine own_step (fun _ k => XS.iconst X92.here hx rfl (hb hby at_223) k) ?_
    show own_Wp p e below _ T92 (mkF m 224 #[.val (.int p0), .val (.ref b1), .val (.ref b36), .val (.int (9 : Int32))] [(.int (1 : Int32))])
    refine own_step (fun _ k => XS.goto X92.here hx rfl (pc0 := 224) (pc' := 228) rfl (hb hby at_224) (by decide) (by decide) k) ?_
    show own_Wp p e below _ T92 (mkF m 228 #[.val (.int p0), .val (.ref b1), .val (.ref b36), .val (.int (9 : Int32))] [(.int (1 : Int32))])
    exact own_retN X92 hx (t := .boolean) hret (by simp) hlk (hb hby at_228) (by decide) (by decide) ⟨rfl, N92⟩
  · skip
    rw [hm]
    show own_Wp p e below _ T53 (mkF m 210 #[.val (.int p0), .val (.ref b1), .val (.ref b36), .unset] [(.int (10 : Int32))])
    refine own_step (fun _ k => XS.istoreN X53.here hx rfl (hb hby at_210) rfl (l' := #[.val (.int p0), .val (.ref b1), .val (.ref b36), .val (.int (10 : Int32))]) rfl k) ?_
    show own_Wp p e below _ T53 (mkF m 211 #[.val (.int p0), .val (.ref b1), .val (.ref b36), .val (.int (10 : Int32))] [])
    refine own_step (fun _ k => XS.aloadN X53.here hx rfl (hb hby at_211) rfl rfl k) ?_
    show own_Wp p e below _ T53 (mkF m 212 #[.val (.int p0), .val (.ref b1), .val (.ref b36), .val (.int (10 : Int32))] [(.ref b1)])
    refine own_step (fun _ k => XS.iloadN X53.here hx rfl (hb hby at_212) rfl k) ?_
    show own_Wp p e below _ T53 (mkF m 213 #[.val (.int p0), .val (.ref b1), .val (.ref b36), .val (.int (10 : Int32))] [(.int (10 : Int32)), (.ref b1)])
    have f94 := ((((((((((((((((((V35.ext E36).other W37 ne36_0).other W38 ne36_0).other W39 ne36_0).other W40 ne36_0).other W41 ne36_0).other W42 ne36_0).other W43 ne36_0).other W44 ne36_0).other W45 ne36_0).other W46 ne36_0).other W47 ne36_0).other W48 ne36_0).other W49 ne36_0).other W50 ne36_0).other W51 ne36_0).other W52 ne36_0).other W53 ne36_0)
    obtain ⟨c95, r95, q95, t95, u95, y95h, y95g⟩ := f94
    have i95 : ¬ ((10 : Int32) < 0 ∨ c95.slots.size ≤ ((10 : Int32)).toNatClampNeg) := inb_of t95 ⟨by decide, by decide⟩
    refine own_step (fun _ k => X53.aaload hx (j := (10 : Int32)) (v := (.ref (w10_SFIXED32 Z))) (by rw [e53]; exact r95.1) (State.isArrayOf_alike hZ.alike r95.2.1) rfl r95.2.2 i95 (own_get t95 y95h i95 10 rfl) (g := (mkF m 213 #[.val (.int p0), .val (.ref b1), .val (.ref b36), .val (.int (10 : Int32))] [(.int (10 : Int32)), (.ref b1)])) rfl rfl (hb hby at_213) _ k) ?_
    show own_Wp p e below _ T53 (mkF m 214 #[.val (.int p0), .val (.ref b1), .val (.ref b36), .val (.int (10 : Int32))] [(.ref (w10_SFIXED32 Z))])
    obtain ⟨_, T96, L96, X96, hQ96, st96⟩ := own_callV X53 hx hZ hown (hw _ (List.mem_of_getElem? (i := 40) rfl)) (hw _ (List.mem_of_getElem? (i := 41) rfl)) (notFace_of_selects (args := #[]) (mvT hZ (hw _ (List.mem_of_getElem? (i := 43) rfl)))) (hw _ (List.mem_of_getElem? (i := 43) rfl)) (hw _ (List.mem_of_getElem? (i := 42) rfl)) (hw _ (List.mem_of_getElem? (i := 3) rfl)) (hw _ (List.mem_of_getElem? (i := 44) rfl)) (by decide) ((ex_w10_SFIXED32 hw hA).ext O53.2) (rm1_10 l Z a0 hw hA [] (w10_SFIXED32 Z) h53 n0 O53 (fl23 hw hA) (Fld.ne (fl24 hw hA) (fl3 hw hA) (by decide)) (Fld.ne (fl24 hw hA) (fl4 hw hA) (by decide)) (Fld.ne (fl24 hw hA) (fl5 hw hA) (by decide))) (W := 0) (by decide) (by decide) [] rfl (lenOf pd1 rfl) (Ls := #[.val (.int p0), .val (.ref b1), .val (.ref b36), .val (.int (10 : Int32))]) (by rw [hml]; rfl) (rest := []) (Nat.le_of_eq rfl) (hb hby at_214) e53 (by decide) (by decide)
    refine st96 _ ?_
    obtain ⟨rfl, N96q, e96⟩ := hQ96
    have N96 := Fr.app N53 N96q
    show own_Wp p e below _ T96 (mkF m 217 #[.val (.int p0), .val (.ref b1), .val (.ref b36), .val (.int (10 : Int32))] [(.int (1 : Int32))])
    refine own_step (fun _ k => XS.aloadN X96.here hx rfl (hb hby at_217) rfl rfl k) ?_
    show own_Wp p e below _ T96 (mkF m 218 #[.val (.int p0), .val (.ref b1), .val (.ref b36), .val (.int (10 : Int32))] [(.ref b36), (.int (1 : Int32))])
    refine own_step (fun _ k => XS.iloadN X96.here hx rfl (hb hby at_218) rfl k) ?_
    show own_Wp p e below _ T96 (mkF m 219 #[.val (.int p0), .val (.ref b1), .val (.ref b36), .val (.int (10 : Int32))] [(.int (10 : Int32)), (.ref b36), (.int (1 : Int32))])
    obtain ⟨c97, r97, q97, t97, u97, y97h, y97g⟩ := V53
    have i97 : ¬ ((10 : Int32) < 0 ∨ c97.slots.size ≤ ((10 : Int32)).toNatClampNeg) := inb_of t97 ⟨by decide, by decide⟩
    refine own_step (fun _ k => X96.baloadBooleans hx (j := (10 : Int32)) (v := (.int (1 : Int32))) (by rw [e96]; exact r97.1) (State.isArrayOf_alike hZ.alike r97.2.1) r97.2.2 i97 (own_get t97 y97h i97 10 rfl) (g := (mkF m 219 #[.val (.int p0), .val (.ref b1), .val (.ref b36), .val (.int (10 : Int32))] [(.int (10 : Int32)), (.ref b36), (.int (1 : Int32))])) rfl rfl (hb hby at_219) _ k) ?_
    show own_Wp p e below _ T96 (mkF m 220 #[.val (.int p0), .val (.ref b1), .val (.ref b36), .val (.int (10 : Int32))] [(.int (1 : Int32)), (.int (1 : Int32))])
    refine own_step (fun _ k => XS.icmpNo X96.here hx rfl (hb hby at_220) rfl (by decide) k) ?_
    show own_Wp p e below _ T96 (mkF m 223 #[.val (.int p0), .val (.ref b1), .val (.ref b36), .val (.int (10 : Int32))] [])
    refine own_step (fun _ k => XS.iconst X96.here hx rfl (hb hby at_223) k) ?_
    show own_Wp p e below _ T96 (mkF m 224 #[.val (.int p0), .val (.ref b1), .val (.ref b36), .val (.int (10 : Int32))] [(.int (1 : Int32))])
    refine own_step (fun _ k => XS.goto X96.here hx rfl (pc0 := 224) (pc' := 228) rfl (hb hby at_224) (by decide) (by decide) k) ?_
    show own_Wp p e below _ T96 (mkF m 228 #[.val (.int p0), .val (.ref b1), .val (.ref b36), .val (.int (10 : Int32))] [(.int (1 : Int32))])
    exact own_retN X96 hx (t := .boolean) hret (by simp) hlk (hb hby at_228) (by decide) (by decide) ⟨rfl, N96⟩
  · skip
    rw [hm]
    show own_Wp p e below _ T53 (mkF m 210 #[.val (.int p0), .val (.ref b1), .val (.ref b36), .unset] [(.int (11 : Int32))])
    refine own_step (fun _ k => XS.istoreN X53.here hx rfl (hb hby at_210) rfl (l' := #[.val (.int p0), .val (.ref b1), .val (.ref b36), .val (.int (11 : Int32))]) rfl k) ?_
    show own_Wp p e below _ T53 (mkF m 211 #[.val (.int p0), .val (.ref b1), .val (.ref b36), .val (.int (11 : Int32))] [])
    refine own_step (fun _ k => XS.aloadN X53.here hx rfl (hb hby at_211) rfl rfl k) ?_
    show own_Wp p e below _ T53 (mkF m 212 #[.val (.int p0), .val (.ref b1), .val (.ref b36), .val (.int (11 : Int32))] [(.ref b1)])
    refine own_step (fun _ k => XS.iloadN X53.here hx rfl (hb hby at_212) rfl k) ?_
    show own_Wp p e below _ T53 (mkF m 213 #[.val (.int p0), .val (.ref b1), .val (.ref b36), .val (.int (11 : Int32))] [(.int (11 : Int32)), (.ref b1)])
    have f98 := ((((((((((((((((((V35.ext E36).other W37 ne36_0).other W38 ne36_0).other W39 ne36_0).other W40 ne36_0).other W41 ne36_0).other W42 ne36_0).other W43 ne36_0).other W44 ne36_0).other W45 ne36_0).other W46 ne36_0).other W47 ne36_0).other W48 ne36_0).other W49 ne36_0).other W50 ne36_0).other W51 ne36_0).other W52 ne36_0).other W53 ne36_0)
    obtain ⟨c99, r99, q99, t99, u99, y99h, y99g⟩ := f98
    have i99 : ¬ ((11 : Int32) < 0 ∨ c99.slots.size ≤ ((11 : Int32)).toNatClampNeg) := inb_of t99 ⟨by decide, by decide⟩
    refine own_step (fun _ k => X53.aaload hx (j := (11 : Int32)) (v := (.ref (w11_SFIXED64 Z))) (by rw [e53]; exact r99.1) (State.isArrayOf_alike hZ.alike r99.2.1) rfl r99.2.2 i99 (own_get t99 y99h i99 11 rfl) (g := (mkF m 213 #[.val (.int p0), .val (.ref b1), .val (.ref b36), .val (.int (11 : Int32))] [(.int (11 : Int32)), (.ref b1)])) rfl rfl (hb hby at_213) _ k) ?_
    show own_Wp p e below _ T53 (mkF m 214 #[.val (.int p0), .val (.ref b1), .val (.ref b36), .val (.int (11 : Int32))] [(.ref (w11_SFIXED64 Z))])
    obtain ⟨_, T100, L100, X100, hQ100, st100⟩ := own_callV X53 hx hZ hown (hw _ (List.mem_of_getElem? (i := 40) rfl)) (hw _ (List.mem_of_getElem? (i := 41) rfl)) (notFace_of_selects (args := #[]) (mvT hZ (hw _ (List.mem_of_getElem? (i := 43) rfl)))) (hw _ (List.mem_of_getElem? (i := 43) rfl)) (hw _ (List.mem_of_getElem? (i := 42) rfl)) (hw _ (List.mem_of_getElem? (i := 3) rfl)) (hw _ (List.mem_of_getElem? (i := 44) rfl)) (by decide) ((ex_w11_SFIXED64 hw hA).ext O53.2) (rm1_11 l Z a0 hw hA [] (w11_SFIXED64 Z) h53 n0 O53 (fl16 hw hA) (Fld.ne (fl17 hw hA) (fl3 hw hA) (by decide)) (Fld.ne (fl17 hw hA) (fl4 hw hA) (by decide)) (Fld.ne (fl17 hw hA) (fl5 hw hA) (by decide))) (W := 0) (by decide) (by decide) [] rfl (lenOf pd1 rfl) (Ls := #[.val (.int p0), .val (.ref b1), .val (.ref b36), .val (.int (11 : Int32))]) (by rw [hml]; rfl) (rest := []) (Nat.le_of_eq rfl) (hb hby at_214) e53 (by decide) (by decide)
    refine st100 _ ?_
    obtain ⟨rfl, N100q, e100⟩ := hQ100
    have N100 := Fr.app N53 N100q
    show own_Wp p e below _ T100 (mkF m 217 #[.val (.int p0), .val (.ref b1), .val (.ref b36), .val (.int (11 : Int32))] [(.int (1 : Int32))])
    refine own_step (fun _ k => XS.aloadN X100.here hx rfl (hb hby at_217) rfl rfl k) ?_
    show own_Wp p e below _ T100 (mkF m 218 #[.val (.int p0), .val (.ref b1), .val (.ref b36), .val (.int (11 : Int32))] [(.ref b36), (.int (1 : Int32))])
    refine own_step (fun _ k => XS.iloadN X100.here hx rfl (hb hby at_218) rfl k) ?_
    show own_Wp p e below _ T100 (mkF m 219 #[.val (.int p0), .val (.ref b1), .val (.ref b36), .val (.int (11 : Int32))] [(.int (11 : Int32)), (.ref b36), (.int (1 : Int32))])
    obtain ⟨c101, r101, q101, t101, u101, y101h, y101g⟩ := V53
    have i101 : ¬ ((11 : Int32) < 0 ∨ c101.slots.size ≤ ((11 : Int32)).toNatClampNeg) := inb_of t101 ⟨by decide, by decide⟩
    refine own_step (fun _ k => X100.baloadBooleans hx (j := (11 : Int32)) (v := (.int (1 : Int32))) (by rw [e100]; exact r101.1) (State.isArrayOf_alike hZ.alike r101.2.1) r101.2.2 i101 (own_get t101 y101h i101 11 rfl) (g := (mkF m 219 #[.val (.int p0), .val (.ref b1), .val (.ref b36), .val (.int (11 : Int32))] [(.int (11 : Int32)), (.ref b36), (.int (1 : Int32))])) rfl rfl (hb hby at_219) _ k) ?_
    show own_Wp p e below _ T100 (mkF m 220 #[.val (.int p0), .val (.ref b1), .val (.ref b36), .val (.int (11 : Int32))] [(.int (1 : Int32)), (.int (1 : Int32))])
    refine own_step (fun _ k => XS.icmpNo X100.here hx rfl (hb hby at_220) rfl (by decide) k) ?_
    show own_Wp p e below _ T100 (mkF m 223 #[.val (.int p0), .val (.ref b1), .val (.ref b36), .val (.int (11 : Int32))] [])
    refine own_step (fun _ k => XS.iconst X100.here hx rfl (hb hby at_223) k) ?_
    show own_Wp p e below _ T100 (mkF m 224 #[.val (.int p0), .val (.ref b1), .val (.ref b36), .val (.int (11 : Int32))] [(.int (1 : Int32))])
    refine own_step (fun _ k => XS.goto X100.here hx rfl (pc0 := 224) (pc' := 228) rfl (hb hby at_224) (by decide) (by decide) k) ?_
    show own_Wp p e below _ T100 (mkF m 228 #[.val (.int p0), .val (.ref b1), .val (.ref b36), .val (.int (11 : Int32))] [(.int (1 : Int32))])
    exact own_retN X100 hx (t := .boolean) hret (by simp) hlk (hb hby at_228) (by decide) (by decide) ⟨rfl, N100⟩
  · skip
    rw [hm]
    show own_Wp p e below _ T53 (mkF m 210 #[.val (.int p0), .val (.ref b1), .val (.ref b36), .unset] [(.int (12 : Int32))])
    refine own_step (fun _ k => XS.istoreN X53.here hx rfl (hb hby at_210) rfl (l' := #[.val (.int p0), .val (.ref b1), .val (.ref b36), .val (.int (12 : Int32))]) rfl k) ?_
    show own_Wp p e below _ T53 (mkF m 211 #[.val (.int p0), .val (.ref b1), .val (.ref b36), .val (.int (12 : Int32))] [])
    refine own_step (fun _ k => XS.aloadN X53.here hx rfl (hb hby at_211) rfl rfl k) ?_
    show own_Wp p e below _ T53 (mkF m 212 #[.val (.int p0), .val (.ref b1), .val (.ref b36), .val (.int (12 : Int32))] [(.ref b1)])
    refine own_step (fun _ k => XS.iloadN X53.here hx rfl (hb hby at_212) rfl k) ?_
    show own_Wp p e below _ T53 (mkF m 213 #[.val (.int p0), .val (.ref b1), .val (.ref b36), .val (.int (12 : Int32))] [(.int (12 : Int32)), (.ref b1)])
    have f102 := ((((((((((((((((((V35.ext E36).other W37 ne36_0).other W38 ne36_0).other W39 ne36_0).other W40 ne36_0).other W41 ne36_0).other W42 ne36_0).other W43 ne36_0).other W44 ne36_0).other W45 ne36_0).other W46 ne36_0).other W47 ne36_0).other W48 ne36_0).other W49 ne36_0).other W50 ne36_0).other W51 ne36_0).other W52 ne36_0).other W53 ne36_0)
    obtain ⟨c103, r103, q103, t103, u103, y103h, y103g⟩ := f102
    have i103 : ¬ ((12 : Int32) < 0 ∨ c103.slots.size ≤ ((12 : Int32)).toNatClampNeg) := inb_of t103 ⟨by decide, by decide⟩
    refine own_step (fun _ k => X53.aaload hx (j := (12 : Int32)) (v := (.ref (w12_BOOL Z))) (by rw [e53]; exact r103.1) (State.isArrayOf_alike hZ.alike r103.2.1) rfl r103.2.2 i103 (own_get t103 y103h i103 12 rfl) (g := (mkF m 213 #[.val (.int p0), .val (.ref b1), .val (.ref b36), .val (.int (12 : Int32))] [(.int (12 : Int32)), (.ref b1)])) rfl rfl (hb hby at_213) _ k) ?_
    show own_Wp p e below _ T53 (mkF m 214 #[.val (.int p0), .val (.ref b1), .val (.ref b36), .val (.int (12 : Int32))] [(.ref (w12_BOOL Z))])
    obtain ⟨_, T104, L104, X104, hQ104, st104⟩ := own_callV X53 hx hZ hown (hw _ (List.mem_of_getElem? (i := 40) rfl)) (hw _ (List.mem_of_getElem? (i := 41) rfl)) (notFace_of_selects (args := #[]) (mvT hZ (hw _ (List.mem_of_getElem? (i := 43) rfl)))) (hw _ (List.mem_of_getElem? (i := 43) rfl)) (hw _ (List.mem_of_getElem? (i := 42) rfl)) (hw _ (List.mem_of_getElem? (i := 3) rfl)) (hw _ (List.mem_of_getElem? (i := 44) rfl)) (by decide) ((ex_w12_BOOL hw hA).ext O53.2) (rm1_12 l Z a0 hw hA [] (w12_BOOL Z) h53 n0 O53 (fl30 hw hA) (Fld.ne (fl31 hw hA) (fl3 hw hA) (by decide)) (Fld.ne (fl31 hw hA) (fl4 hw hA) (by decide)) (Fld.ne (fl31 hw hA) (fl5 hw hA) (by decide))) (W := 0) (by decide) (by decide) [] rfl (lenOf pd1 rfl) (Ls := #[.val (.int p0), .val (.ref b1), .val (.ref b36), .val (.int (12 : Int32))]) (by rw [hml]; rfl) (rest := []) (Nat.le_of_eq rfl) (hb hby at_214) e53 (by decide) (by decide)
    refine st104 _ ?_
    obtain ⟨rfl, N104q, e104⟩ := hQ104
    have N104 := Fr.app N53 N104q
    show own_Wp p e below _ T104 (mkF m 217 #[.val (.int p0), .val (.ref b1), .val (.ref b36), .val (.int (12 : Int32))] [(.int (1 : Int32))])
    refine own_step (fun _ k => XS.aloadN X104.here hx rfl (hb hby at_217) rfl rfl k) ?_
    show own_Wp p e below _ T104 (mkF m 218 #[.val (.int p0), .val (.ref b1), .val (.ref b36), .val (.int (12 : Int32))] [(.ref b36), (.int (1 : Int32))])
    refine own_step (fun _ k => XS.iloadN X104.here hx rfl (hb hby at_218) rfl k) ?_
    show own_Wp p e below _ T104 (mkF m 219 #[.val (.int p0), .val (.ref b1), .val (.ref b36), .val (.int (12 : Int32))] [(.int (12 : Int32)), (.ref b36), (.int (1 : Int32))])
    obtain ⟨c105, r105, q105, t105, u105, y105h, y105g⟩ := V53
    have i105 : ¬ ((12 : Int32) < 0 ∨ c105.slots.size ≤ ((12 : Int32)).toNatClampNeg) := inb_of t105 ⟨by decide, by decide⟩
    refine own_step (fun _ k => X104.baloadBooleans hx (j := (12 : Int32)) (v := (.int (1 : Int32))) (by rw [e104]; exact r105.1) (State.isArrayOf_alike hZ.alike r105.2.1) r105.2.2 i105 (own_get t105 y105h i105 12 rfl) (g := (mkF m 219 #[.val (.int p0), .val (.ref b1), .val (.ref b36), .val (.int (12 : Int32))] [(.int (12 : Int32)), (.ref b36), (.int (1 : Int32))])) rfl rfl (hb hby at_219) _ k) ?_
    show own_Wp p e below _ T104 (mkF m 220 #[.val (.int p0), .val (.ref b1), .val (.ref b36), .val (.int (12 : Int32))] [(.int (1 : Int32)), (.int (1 : Int32))])
    refine own_step (fun _ k => XS.icmpNo X104.here hx rfl (hb hby at_220) rfl (by decide) k) ?_
    show own_Wp p e below _ T104 (mkF m 223 #[.val (.int p0), .val (.ref b1), .val (.ref b36), .val (.int (12 : Int32))] [])
    refine own_step (fun _ k => XS.iconst X104.here hx rfl (hb hby at_223) k) ?_
    show own_Wp p e below _ T104 (mkF m 224 #[.val (.int p0), .val (.ref b1), .val (.ref b36), .val (.int (12 : Int32))] [(.int (1 : Int32))])
    refine own_step (fun _ k => XS.goto X104.here hx rfl (pc0 := 224) (pc' := 228) rfl (hb hby at_224) (by decide) (by decide) k) ?_
    show own_Wp p e below _ T104 (mkF m 228 #[.val (.int p0), .val (.ref b1), .val (.ref b36), .val (.int (12 : Int32))] [(.int (1 : Int32))])
    exact own_retN X104 hx (t := .boolean) hret (by simp) hlk (hb hby at_228) (by decide) (by decide) ⟨rfl, N104⟩
  · skip
    rw [hm]
    show own_Wp p e below _ T53 (mkF m 210 #[.val (.int p0), .val (.ref b1), .val (.ref b36), .unset] [(.int (13 : Int32))])
    refine own_step (fun _ k => XS.istoreN X53.here hx rfl (hb hby at_210) rfl (l' := #[.val (.int p0), .val (.ref b1), .val (.ref b36), .val (.int (13 : Int32))]) rfl k) ?_
    show own_Wp p e below _ T53 (mkF m 211 #[.val (.int p0), .val (.ref b1), .val (.ref b36), .val (.int (13 : Int32))] [])
    refine own_step (fun _ k => XS.aloadN X53.here hx rfl (hb hby at_211) rfl rfl k) ?_
    show own_Wp p e below _ T53 (mkF m 212 #[.val (.int p0), .val (.ref b1), .val (.ref b36), .val (.int (13 : Int32))] [(.ref b1)])
    refine own_step (fun _ k => XS.iloadN X53.here hx rfl (hb hby at_212) rfl k) ?_
    show own_Wp p e below _ T53 (mkF m 213 #[.val (.int p0), .val (.ref b1), .val (.ref b36), .val (.int (13 : Int32))] [(.int (13 : Int32)), (.ref b1)])
    have f106 := ((((((((((((((((((V35.ext E36).other W37 ne36_0).other W38 ne36_0).other W39 ne36_0).other W40 ne36_0).other W41 ne36_0).other W42 ne36_0).other W43 ne36_0).other W44 ne36_0).other W45 ne36_0).other W46 ne36_0).other W47 ne36_0).other W48 ne36_0).other W49 ne36_0).other W50 ne36_0).other W51 ne36_0).other W52 ne36_0).other W53 ne36_0)
    obtain ⟨c107, r107, q107, t107, u107, y107h, y107g⟩ := f106
    have i107 : ¬ ((13 : Int32) < 0 ∨ c107.slots.size ≤ ((13 : Int32)).toNatClampNeg) := inb_of t107 ⟨by decide, by decide⟩
    refine own_step (fun _ k => X53.aaload hx (j := (13 : Int32)) (v := (.ref (w13_STRING Z))) (by rw [e53]; exact r107.1) (State.isArrayOf_alike hZ.alike r107.2.1) rfl r107.2.2 i107 (own_get t107 y107h i107 13 rfl) (g := (mkF m 213 #[.val (.int p0), .val (.ref b1), .val (.ref b36), .val (.int (13 : Int32))] [(.int (13 : Int32)), (.ref b1)])) rfl rfl (hb hby at_213) _ k) ?_
    show own_Wp p e below _ T53 (mkF m 214 #[.val (.int p0), .val (.ref b1), .val (.ref b36), .val (.int (13 : Int32))] [(.ref (w13_STRING Z))])
    obtain ⟨_, T108, L108, X108, hQ108, st108⟩ := own_callV X53 hx hZ hown (hw _ (List.mem_of_getElem? (i := 40) rfl)) (hw _ (List.mem_of_getElem? (i := 41) rfl)) (notFace_of_selects (args := #[]) (mvT hZ (hw _ (List.mem_of_getElem? (i := 43) rfl)))) (hw _ (List.mem_of_getElem? (i := 43) rfl)) (hw _ (List.mem_of_getElem? (i := 42) rfl)) (hw _ (List.mem_of_getElem? (i := 3) rfl)) (hw _ (List.mem_of_getElem? (i := 44) rfl)) (by decide) ((ex_w13_STRING hw hA).ext O53.2) (rm1_13 l Z a0 hw hA [] (w13_STRING Z) h53 n0 O53 (fl19 hw hA) (Fld.ne (fl20 hw hA) (fl3 hw hA) (by decide)) (Fld.ne (fl20 hw hA) (fl4 hw hA) (by decide)) (Fld.ne (fl20 hw hA) (fl5 hw hA) (by decide))) (W := 0) (by decide) (by decide) [] rfl (lenOf pd1 rfl) (Ls := #[.val (.int p0), .val (.ref b1), .val (.ref b36), .val (.int (13 : Int32))]) (by rw [hml]; rfl) (rest := []) (Nat.le_of_eq rfl) (hb hby at_214) e53 (by decide) (by decide)
    refine st108 _ ?_
    obtain ⟨rfl, N108q, e108⟩ := hQ108
    have N108 := Fr.app N53 N108q
    show own_Wp p e below _ T108 (mkF m 217 #[.val (.int p0), .val (.ref b1), .val (.ref b36), .val (.int (13 : Int32))] [(.int (1 : Int32))])
    refine own_step (fun _ k => XS.aloadN X108.here hx rfl (hb hby at_217) rfl rfl k) ?_
    show own_Wp p e below _ T108 (mkF m 218 #[.val (.int p0), .val (.ref b1), .val (.ref b36), .val (.int (13 : Int32))] [(.ref b36), (.int (1 : Int32))])
    refine own_step (fun _ k => XS.iloadN X108.here hx rfl (hb hby at_218) rfl k) ?_
    show own_Wp p e below _ T108 (mkF m 219 #[.val (.int p0), .val (.ref b1), .val (.ref b36), .val (.int (13 : Int32))] [(.int (13 : Int32)), (.ref b36), (.int (1 : Int32))])
    obtain ⟨c109, r109, q109, t109, u109, y109h, y109g⟩ := V53
    have i109 : ¬ ((13 : Int32) < 0 ∨ c109.slots.size ≤ ((13 : Int32)).toNatClampNeg) := inb_of t109 ⟨by decide, by decide⟩
    refine own_step (fun _ k => X108.baloadBooleans hx (j := (13 : Int32)) (v := (.int (1 : Int32))) (by rw [e108]; exact r109.1) (State.isArrayOf_alike hZ.alike r109.2.1) r109.2.2 i109 (own_get t109 y109h i109 13 rfl) (g := (mkF m 219 #[.val (.int p0), .val (.ref b1), .val (.ref b36), .val (.int (13 : Int32))] [(.int (13 : Int32)), (.ref b36), (.int (1 : Int32))])) rfl rfl (hb hby at_219) _ k) ?_
    show own_Wp p e below _ T108 (mkF m 220 #[.val (.int p0), .val (.ref b1), .val (.ref b36), .val (.int (13 : Int32))] [(.int (1 : Int32)), (.int (1 : Int32))])
    refine own_step (fun _ k => XS.icmpNo X108.here hx rfl (hb hby at_220) rfl (by decide) k) ?_
    show own_Wp p e below _ T108 (mkF m 223 #[.val (.int p0), .val (.ref b1), .val (.ref b36), .val (.int (13 : Int32))] [])
    refine own_step (fun _ k => XS.iconst X108.here hx rfl (hb hby at_223) k) ?_
    show own_Wp p e below _ T108 (mkF m 224 #[.val (.int p0), .val (.ref b1), .val (.ref b36), .val (.int (13 : Int32))] [(.int (1 : Int32))])
    refine own_step (fun _ k => XS.goto X108.here hx rfl (pc0 := 224) (pc' := 228) rfl (hb hby at_224) (by decide) (by decide) k) ?_
    show own_Wp p e below _ T108 (mkF m 228 #[.val (.int p0), .val (.ref b1), .val (.ref b36), .val (.int (13 : Int32))] [(.int (1 : Int32))])
    exact own_retN X108 hx (t := .boolean) hret (by simp) hlk (hb hby at_228) (by decide) (by decide) ⟨rfl, N108⟩
  · skip
    rw [hm]
    show own_Wp p e below _ T53 (mkF m 210 #[.val (.int p0), .val (.ref b1), .val (.ref b36), .unset] [(.int (14 : Int32))])
    refine own_step (fun _ k => XS.istoreN X53.here hx rfl (hb hby at_210) rfl (l' := #[.val (.int p0), .val (.ref b1), .val (.ref b36), .val (.int (14 : Int32))]) rfl k) ?_
    show own_Wp p e below _ T53 (mkF m 211 #[.val (.int p0), .val (.ref b1), .val (.ref b36), .val (.int (14 : Int32))] [])
    refine own_step (fun _ k => XS.aloadN X53.here hx rfl (hb hby at_211) rfl rfl k) ?_
    show own_Wp p e below _ T53 (mkF m 212 #[.val (.int p0), .val (.ref b1), .val (.ref b36), .val (.int (14 : Int32))] [(.ref b1)])
    refine own_step (fun _ k => XS.iloadN X53.here hx rfl (hb hby at_212) rfl k) ?_
    show own_Wp p e below _ T53 (mkF m 213 #[.val (.int p0), .val (.ref b1), .val (.ref b36), .val (.int (14 : Int32))] [(.int (14 : Int32)), (.ref b1)])
    have f110 := ((((((((((((((((((V35.ext E36).other W37 ne36_0).other W38 ne36_0).other W39 ne36_0).other W40 ne36_0).other W41 ne36_0).other W42 ne36_0).other W43 ne36_0).other W44 ne36_0).other W45 ne36_0).other W46 ne36_0).other W47 ne36_0).other W48 ne36_0).other W49 ne36_0).other W50 ne36_0).other W51 ne36_0).other W52 ne36_0).other W53 ne36_0)
    obtain ⟨c111, r111, q111, t111, u111, y111h, y111g⟩ := f110
    have i111 : ¬ ((14 : Int32) < 0 ∨ c111.slots.size ≤ ((14 : Int32)).toNatClampNeg) := inb_of t111 ⟨by decide, by decide⟩
    refine own_step (fun _ k => X53.aaload hx (j := (14 : Int32)) (v := (.ref (w14_BYTES Z))) (by rw [e53]; exact r111.1) (State.isArrayOf_alike hZ.alike r111.2.1) rfl r111.2.2 i111 (own_get t111 y111h i111 14 rfl) (g := (mkF m 213 #[.val (.int p0), .val (.ref b1), .val (.ref b36), .val (.int (14 : Int32))] [(.int (14 : Int32)), (.ref b1)])) rfl rfl (hb hby at_213) _ k) ?_
    show own_Wp p e below _ T53 (mkF m 214 #[.val (.int p0), .val (.ref b1), .val (.ref b36), .val (.int (14 : Int32))] [(.ref (w14_BYTES Z))])
    obtain ⟨_, T112, L112, X112, hQ112, st112⟩ := own_callV X53 hx hZ hown (hw _ (List.mem_of_getElem? (i := 40) rfl)) (hw _ (List.mem_of_getElem? (i := 41) rfl)) (notFace_of_selects (args := #[]) (mvT hZ (hw _ (List.mem_of_getElem? (i := 43) rfl)))) (hw _ (List.mem_of_getElem? (i := 43) rfl)) (hw _ (List.mem_of_getElem? (i := 42) rfl)) (hw _ (List.mem_of_getElem? (i := 3) rfl)) (hw _ (List.mem_of_getElem? (i := 44) rfl)) (by decide) ((ex_w14_BYTES hw hA).ext O53.2) (rm1_14 l Z a0 hw hA [] h53 n0 O53) (W := 0) (by decide) (by decide) [] rfl (lenOf pd1 rfl) (Ls := #[.val (.int p0), .val (.ref b1), .val (.ref b36), .val (.int (14 : Int32))]) (by rw [hml]; rfl) (rest := []) (Nat.le_of_eq rfl) (hb hby at_214) e53 (by decide) (by decide)
    refine st112 _ ?_
    obtain ⟨rfl, N112q, e112⟩ := hQ112
    have N112 := Fr.app N53 N112q
    show own_Wp p e below _ T112 (mkF m 217 #[.val (.int p0), .val (.ref b1), .val (.ref b36), .val (.int (14 : Int32))] [(.int (0 : Int32))])
    refine own_step (fun _ k => XS.aloadN X112.here hx rfl (hb hby at_217) rfl rfl k) ?_
    show own_Wp p e below _ T112 (mkF m 218 #[.val (.int p0), .val (.ref b1), .val (.ref b36), .val (.int (14 : Int32))] [(.ref b36), (.int (0 : Int32))])
    refine own_step (fun _ k => XS.iloadN X112.here hx rfl (hb hby at_218) rfl k) ?_
    show own_Wp p e below _ T112 (mkF m 219 #[.val (.int p0), .val (.ref b1), .val (.ref b36), .val (.int (14 : Int32))] [(.int (14 : Int32)), (.ref b36), (.int (0 : Int32))])
    obtain ⟨c113, r113, q113, t113, u113, y113h, y113g⟩ := V53
    have i113 : ¬ ((14 : Int32) < 0 ∨ c113.slots.size ≤ ((14 : Int32)).toNatClampNeg) := inb_of t113 ⟨by decide, by decide⟩
    refine own_step (fun _ k => X112.baloadBooleans hx (j := (14 : Int32)) (v := (.int (0 : Int32))) (by rw [e112]; exact r113.1) (State.isArrayOf_alike hZ.alike r113.2.1) r113.2.2 i113 (own_get t113 y113h i113 14 rfl) (g := (mkF m 219 #[.val (.int p0), .val (.ref b1), .val (.ref b36), .val (.int (14 : Int32))] [(.int (14 : Int32)), (.ref b36), (.int (0 : Int32))])) rfl rfl (hb hby at_219) _ k) ?_
    show own_Wp p e below _ T112 (mkF m 220 #[.val (.int p0), .val (.ref b1), .val (.ref b36), .val (.int (14 : Int32))] [(.int (0 : Int32)), (.int (0 : Int32))])
    refine own_step (fun _ k => XS.icmpNo X112.here hx rfl (hb hby at_220) rfl (by decide) k) ?_
    show own_Wp p e below _ T112 (mkF m 223 #[.val (.int p0), .val (.ref b1), .val (.ref b36), .val (.int (14 : Int32))] [])
    refine own_step (fun _ k => XS.iconst X112.here hx rfl (hb hby at_223) k) ?_
    show own_Wp p e below _ T112 (mkF m 224 #[.val (.int p0), .val (.ref b1), .val (.ref b36), .val (.int (14 : Int32))] [(.int (1 : Int32))])
    refine own_step (fun _ k => XS.goto X112.here hx rfl (pc0 := 224) (pc' := 228) rfl (hb hby at_224) (by decide) (by decide) k) ?_
    show own_Wp p e below _ T112 (mkF m 228 #[.val (.int p0), .val (.ref b1), .val (.ref b36), .val (.int (14 : Int32))] [(.int (1 : Int32))])
    exact own_retN X112 hx (t := .boolean) hret (by simp) hlk (hb hby at_228) (by decide) (by decide) ⟨rfl, N112⟩
  · skip
    rw [hm]
    show own_Wp p e below _ T53 (mkF m 210 #[.val (.int p0), .val (.ref b1), .val (.ref b36), .unset] [(.int (15 : Int32))])
    refine own_step (fun _ k => XS.istoreN X53.here hx rfl (hb hby at_210) rfl (l' := #[.val (.int p0), .val (.ref b1), .val (.ref b36), .val (.int (15 : Int32))]) rfl k) ?_
    show own_Wp p e below _ T53 (mkF m 211 #[.val (.int p0), .val (.ref b1), .val (.ref b36), .val (.int (15 : Int32))] [])
    refine own_step (fun _ k => XS.aloadN X53.here hx rfl (hb hby at_211) rfl rfl k) ?_
    show own_Wp p e below _ T53 (mkF m 212 #[.val (.int p0), .val (.ref b1), .val (.ref b36), .val (.int (15 : Int32))] [(.ref b1)])
    refine own_step (fun _ k => XS.iloadN X53.here hx rfl (hb hby at_212) rfl k) ?_
    show own_Wp p e below _ T53 (mkF m 213 #[.val (.int p0), .val (.ref b1), .val (.ref b36), .val (.int (15 : Int32))] [(.int (15 : Int32)), (.ref b1)])
    have f114 := ((((((((((((((((((V35.ext E36).other W37 ne36_0).other W38 ne36_0).other W39 ne36_0).other W40 ne36_0).other W41 ne36_0).other W42 ne36_0).other W43 ne36_0).other W44 ne36_0).other W45 ne36_0).other W46 ne36_0).other W47 ne36_0).other W48 ne36_0).other W49 ne36_0).other W50 ne36_0).other W51 ne36_0).other W52 ne36_0).other W53 ne36_0)
    obtain ⟨c115, r115, q115, t115, u115, y115h, y115g⟩ := f114
    have i115 : ¬ ((15 : Int32) < 0 ∨ c115.slots.size ≤ ((15 : Int32)).toNatClampNeg) := inb_of t115 ⟨by decide, by decide⟩
    refine own_step (fun _ k => X53.aaload hx (j := (15 : Int32)) (v := (.ref (w15_ENUM Z))) (by rw [e53]; exact r115.1) (State.isArrayOf_alike hZ.alike r115.2.1) rfl r115.2.2 i115 (own_get t115 y115h i115 15 rfl) (g := (mkF m 213 #[.val (.int p0), .val (.ref b1), .val (.ref b36), .val (.int (15 : Int32))] [(.int (15 : Int32)), (.ref b1)])) rfl rfl (hb hby at_213) _ k) ?_
    show own_Wp p e below _ T53 (mkF m 214 #[.val (.int p0), .val (.ref b1), .val (.ref b36), .val (.int (15 : Int32))] [(.ref (w15_ENUM Z))])
    obtain ⟨_, T116, L116, X116, hQ116, st116⟩ := own_callV X53 hx hZ hown (hw _ (List.mem_of_getElem? (i := 40) rfl)) (hw _ (List.mem_of_getElem? (i := 41) rfl)) (notFace_of_selects (args := #[]) (mvT hZ (hw _ (List.mem_of_getElem? (i := 43) rfl)))) (hw _ (List.mem_of_getElem? (i := 43) rfl)) (hw _ (List.mem_of_getElem? (i := 42) rfl)) (hw _ (List.mem_of_getElem? (i := 3) rfl)) (hw _ (List.mem_of_getElem? (i := 44) rfl)) (by decide) ((ex_w15_ENUM hw hA).ext O53.2) (rm1_15 l Z a0 hw hA [] (w15_ENUM Z) h53 n0 O53 (fl26 hw hA)) (W := 0) (by decide) (by decide) [] rfl (lenOf pd1 rfl) (Ls := #[.val (.int p0), .val (.ref b1), .val (.ref b36), .val (.int (15 : Int32))]) (by rw [hml]; rfl) (rest := []) (Nat.le_of_eq rfl) (hb hby at_214) e53 (by decide) (by decide)
    refine st116 _ ?_
    obtain ⟨rfl, N116q, e116⟩ := hQ116
    have N116 := Fr.app N53 N116q
    show own_Wp p e below _ T116 (mkF m 217 #[.val (.int p0), .val (.ref b1), .val (.ref b36), .val (.int (15 : Int32))] [(.int (0 : Int32))])
    refine own_step (fun _ k => XS.aloadN X116.here hx rfl (hb hby at_217) rfl rfl k) ?_
    show own_Wp p e below _ T116 (mkF m 218 #[.val (.int p0), .val (.ref b1), .val (.ref b36), .val (.int (15 : Int32))] [(.ref b36), (.int (0 : Int32))])
    refine own_step (fun _ k => XS.iloadN X116.here hx rfl (hb hby at_218) rfl k) ?_
    show own_Wp p e below _ T116 (mkF m 219 #[.val (.int p0), .val (.ref b1), .val (.ref b36), .val (.int (15 : Int32))] [(.int (15 : Int32)), (.ref b36), (.int (0 : Int32))])
    obtain ⟨c117, r117, q117, t117, u117, y117h, y117g⟩ := V53
    have i117 : ¬ ((15 : Int32) < 0 ∨ c117.slots.size ≤ ((15 : Int32)).toNatClampNeg) := inb_of t117 ⟨by decide, by decide⟩
    refine own_step (fun _ k => X116.baloadBooleans hx (j := (15 : Int32)) (v := (.int (0 : Int32))) (by rw [e116]; exact r117.1) (State.isArrayOf_alike hZ.alike r117.2.1) r117.2.2 i117 (own_get t117 y117h i117 15 rfl) (g := (mkF m 219 #[.val (.int p0), .val (.ref b1), .val (.ref b36), .val (.int (15 : Int32))] [(.int (15 : Int32)), (.ref b36), (.int (0 : Int32))])) rfl rfl (hb hby at_219) _ k) ?_
    show own_Wp p e below _ T116 (mkF m 220 #[.val (.int p0), .val (.ref b1), .val (.ref b36), .val (.int (15 : Int32))] [(.int (0 : Int32)), (.int (0 : Int32))])
    refine own_step (fun _ k => XS.icmpNo X116.here hx rfl (hb hby at_220) rfl (by decide) k) ?_
    show own_Wp p e below _ T116 (mkF m 223 #[.val (.int p0), .val (.ref b1), .val (.ref b36), .val (.int (15 : Int32))] [])
    refine own_step (fun _ k => XS.iconst X116.here hx rfl (hb hby at_223) k) ?_
    show own_Wp p e below _ T116 (mkF m 224 #[.val (.int p0), .val (.ref b1), .val (.ref b36), .val (.int (15 : Int32))] [(.int (1 : Int32))])
    refine own_step (fun _ k => XS.goto X116.here hx rfl (pc0 := 224) (pc' := 228) rfl (hb hby at_224) (by decide) (by decide) k) ?_
    show own_Wp p e below _ T116 (mkF m 228 #[.val (.int p0), .val (.ref b1), .val (.ref b36), .val (.int (15 : Int32))] [(.int (1 : Int32))])
    exact own_retN X116 hx (t := .boolean) hret (by simp) hlk (hb hby at_228) (by decide) (by decide) ⟨rfl, N116⟩
  · skip
    rw [hm]
    show own_Wp p e below _ T53 (mkF m 210 #[.val (.int p0), .val (.ref b1), .val (.ref b36), .unset] [(.int (16 : Int32))])
    refine own_step (fun _ k => XS.istoreN X53.here hx rfl (hb hby at_210) rfl (l' := #[.val (.int p0), .val (.ref b1), .val (.ref b36), .val (.int (16 : Int32))]) rfl k) ?_
    show own_Wp p e below _ T53 (mkF m 211 #[.val (.int p0), .val (.ref b1), .val (.ref b36), .val (.int (16 : Int32))] [])
    refine own_step (fun _ k => XS.aloadN X53.here hx rfl (hb hby at_211) rfl rfl k) ?_
    show own_Wp p e below _ T53 (mkF m 212 #[.val (.int p0), .val (.ref b1), .val (.ref b36), .val (.int (16 : Int32))] [(.ref b1)])
    refine own_step (fun _ k => XS.iloadN X53.here hx rfl (hb hby at_212) rfl k) ?_
    show own_Wp p e below _ T53 (mkF m 213 #[.val (.int p0), .val (.ref b1), .val (.ref b36), .val (.int (16 : Int32))] [(.int (16 : Int32)), (.ref b1)])
    have f118 := ((((((((((((((((((V35.ext E36).other W37 ne36_0).other W38 ne36_0).other W39 ne36_0).other W40 ne36_0).other W41 ne36_0).other W42 ne36_0).other W43 ne36_0).other W44 ne36_0).other W45 ne36_0).other W46 ne36_0).other W47 ne36_0).other W48 ne36_0).other W49 ne36_0).other W50 ne36_0).other W51 ne36_0).other W52 ne36_0).other W53 ne36_0)
    obtain ⟨c119, r119, q119, t119, u119, y119h, y119g⟩ := f118
    have i119 : ¬ ((16 : Int32) < 0 ∨ c119.slots.size ≤ ((16 : Int32)).toNatClampNeg) := inb_of t119 ⟨by decide, by decide⟩
    refine own_step (fun _ k => X53.aaload hx (j := (16 : Int32)) (v := (.ref (w16_MESSAGE Z))) (by rw [e53]; exact r119.1) (State.isArrayOf_alike hZ.alike r119.2.1) rfl r119.2.2 i119 (own_get t119 y119h i119 16 rfl) (g := (mkF m 213 #[.val (.int p0), .val (.ref b1), .val (.ref b36), .val (.int (16 : Int32))] [(.int (16 : Int32)), (.ref b1)])) rfl rfl (hb hby at_213) _ k) ?_
    show own_Wp p e below _ T53 (mkF m 214 #[.val (.int p0), .val (.ref b1), .val (.ref b36), .val (.int (16 : Int32))] [(.ref (w16_MESSAGE Z))])
    obtain ⟨_, T120, L120, X120, hQ120, st120⟩ := own_callV X53 hx hZ hown (hw _ (List.mem_of_getElem? (i := 40) rfl)) (hw _ (List.mem_of_getElem? (i := 41) rfl)) (notFace_of_selects (args := #[]) (mvT hZ (hw _ (List.mem_of_getElem? (i := 43) rfl)))) (hw _ (List.mem_of_getElem? (i := 43) rfl)) (hw _ (List.mem_of_getElem? (i := 42) rfl)) (hw _ (List.mem_of_getElem? (i := 3) rfl)) (hw _ (List.mem_of_getElem? (i := 44) rfl)) (by decide) ((ex_w16_MESSAGE hw hA).ext O53.2) (rm1_15 l Z a0 hw hA [] (w16_MESSAGE Z) h53 n0 O53 (fl25 hw hA)) (W := 0) (by decide) (by decide) [] rfl (lenOf pd1 rfl) (Ls := #[.val (.int p0), .val (.ref b1), .val (.ref b36), .val (.int (16 : Int32))]) (by rw [hml]; rfl) (rest := []) (Nat.le_of_eq rfl) (hb hby at_214) e53 (by decide) (by decide)
    refine st120 _ ?_
    obtain ⟨rfl, N120q, e120⟩ := hQ120
    have N120 := Fr.app N53 N120q
    show own_Wp p e below _ T120 (mkF m 217 #[.val (.int p0), .val (.ref b1), .val (.ref b36), .val (.int (16 : Int32))] [(.int (0 : Int32))])
    refine own_step (fun _ k => XS.aloadN X120.here hx rfl (hb hby at_217) rfl rfl k) ?_
    show own_Wp p e below _ T120 (mkF m 218 #[.val (.int p0), .val (.ref b1), .val (.ref b36), .val (.int (16 : Int32))] [(.ref b36), (.int (0 : Int32))])
    refine own_step (fun _ k => XS.iloadN X120.here hx rfl (hb hby at_218) rfl k) ?_
    show own_Wp p e below _ T120 (mkF m 219 #[.val (.int p0), .val (.ref b1), .val (.ref b36), .val (.int (16 : Int32))] [(.int (16 : Int32)), (.ref b36), (.int (0 : Int32))])
    obtain ⟨c121, r121, q121, t121, u121, y121h, y121g⟩ := V53
    have i121 : ¬ ((16 : Int32) < 0 ∨ c121.slots.size ≤ ((16 : Int32)).toNatClampNeg) := inb_of t121 ⟨by decide, by decide⟩
    refine own_step (fun _ k => X120.baloadBooleans hx (j := (16 : Int32)) (v := (.int (0 : Int32))) (by rw [e120]; exact r121.1) (State.isArrayOf_alike hZ.alike r121.2.1) r121.2.2 i121 (own_get t121 y121h i121 16 rfl) (g := (mkF m 219 #[.val (.int p0), .val (.ref b1), .val (.ref b36), .val (.int (16 : Int32))] [(.int (16 : Int32)), (.ref b36), (.int (0 : Int32))])) rfl rfl (hb hby at_219) _ k) ?_
    show own_Wp p e below _ T120 (mkF m 220 #[.val (.int p0), .val (.ref b1), .val (.ref b36), .val (.int (16 : Int32))] [(.int (0 : Int32)), (.int (0 : Int32))])
    refine own_step (fun _ k => XS.icmpNo X120.here hx rfl (hb hby at_220) rfl (by decide) k) ?_
    show own_Wp p e below _ T120 (mkF m 223 #[.val (.int p0), .val (.ref b1), .val (.ref b36), .val (.int (16 : Int32))] [])
    refine own_step (fun _ k => XS.iconst X120.here hx rfl (hb hby at_223) k) ?_
    show own_Wp p e below _ T120 (mkF m 224 #[.val (.int p0), .val (.ref b1), .val (.ref b36), .val (.int (16 : Int32))] [(.int (1 : Int32))])
    refine own_step (fun _ k => XS.goto X120.here hx rfl (pc0 := 224) (pc' := 228) rfl (hb hby at_224) (by decide) (by decide) k) ?_
    show own_Wp p e below _ T120 (mkF m 228 #[.val (.int p0), .val (.ref b1), .val (.ref b36), .val (.int (16 : Int32))] [(.int (1 : Int32))])
    exact own_retN X120 hx (t := .boolean) hret (by simp) hlk (hb hby at_228) (by decide) (by decide) ⟨rfl, N120⟩
set_option maxRecDepth 65536 in
set_option maxHeartbeats 40000000 in
theorem comes_1 {Post : Tables → Env → Array Value → State → Outcome → State → Prop} (hpost : ∀ tb e args s v u, (limb_1_1.after args s (.returned v) u = true ∧ limb_1_2.after args s (.returned v) u = true ∧ True) → FrameEnd s (.returned v) u (Jvm.fieldLocs frame_1_writes args s ++ Jvm.arrayLocs frame_1_arrays args s ++ Jvm.staticLocs frame_1_statics s) 16 192 → Post tb e args s (.returned v) u) :
    ArmFor flags0 classFile x code maxLocals ret World_1 tables_1 room_1 Calls_1 rest_1 Pre_1 Post := by
  intro l hfl _ _ p e ha hc hk s m args below hf hA hF happ hP
  obtain ⟨hcalls, hrest, hpre⟩ := hP
  obtain ⟨-, -, -, hnamed, -, -, -, hat⟩ := (Spec.applies_iff hf).mp happ
  obtain ⟨hg, hn⟩ := and_e (Cond.before_iff.mp (show (Jvm.Cond.and given_1 narrow_1).before args s = true from hpre))
  obtain ⟨gg1, gg2⟩ := and_e hg
  obtain ⟨w0, rfl⟩ : ∃ w0 : Value, args = #[w0] := by
    have hs : args.size = 1 := by simpa [Cond.value, given_1] using gg1
    obtain ⟨L⟩ := args
    match L, hs with
    | [w0], _ => exact ⟨w0, rfl⟩
  have hw := fun d (hd : d ∈ tables_1) => atoms_spec (ws := Jvm.Cond.code x code maxLocals ret :: tables_1) hat d (List.mem_cons_of_mem _ hd)
  have hfit : Fit s := fun {y c} hc i hi => by
    obtain ⟨ha, rfl⟩ := Array.getElem?_eq_some_iff.mp hc
    have q := List.all_eq_true.mp ((Array.all_eq_true_iff_forall_mem.mp hF) _ (Array.getElem_mem ha)) i (List.mem_range.mpr hi)
    simpa [Array.getElem?_eq_getElem hi] using q
  obtain ⟨i0, ei0⟩ := is_v gg2
  obtain rfl : w0 = (.int i0) := Option.some.inj ei0
  obtain ⟨n, o, h1, h2, h3, _, L, rfl, ⟨rfl, N⟩, hq⟩ := rm0 l s _ hw (own_mem narrow_1 hn) tables_1 i0 s.heap s.heap.size (Old.start s) p e ha hc hk s m _ below hf ((Spec.applies_iff_loose hf).mp happ).1 ⟨rfl, State.Warmed39.refl s, rfl⟩ trivial
  refine ⟨n, _, h1, h2, h3, hpost _ _ _ _ _ _ ⟨Cond.after_iff.mpr rfl, Cond.after_iff.mpr (eq_i res_at (Term.int_eval (1)) rfl), trivial⟩ ⟨hq.1, hq.2.1, (hq.2.2.sift fun y hy => Or.inr (N y hy)).mono (by decide) (by decide)⟩⟩
theorem main_1_1 : Claimed_1_1 := comes_1 fun _ _ _ _ _ _ h hF => ⟨h.1, hF⟩
theorem main_1_2 : Claimed_1_2 := comes_1 fun _ _ _ _ _ _ h hF => ⟨h.2.1, hF⟩

end Jvm.Pilot.@@N@@
namespace Jvm.Pilot.@@N@@
open Jvm Jvm.ClassFile Sem Op Lib Jvm.Free Jvm.Stand Jvm.Pilot.@@N@@.Jvm.D
/-! MADE BY PROGRAM (witnessworld.py) out of the Statement's table words and the real class files: 18 classes; the members and pool entries that the words name. The judged class is class 1, her method 1. -/
namespace start1
open Jvm.ClassFile
def u (s : String) : CpInfo := .utf8 (stringToUtf16 s)
/-- a pool by its gaps: so many unusable entries, then the entry; so many at the end -/
def gap : Nat → List CpInfo → List CpInfo
  | 0, r => r
  | n + 1, r => .unusable :: gap n r
def poolList (es : List (Nat × CpInfo)) (last : Nat) : List CpInfo := es.foldr (fun e r => gap e.1 (e.2 :: r)) (gap last [])
def pool (es : List (Nat × CpInfo)) (last : Nat) : Array CpInfo := ⟨poolList es last⟩
def fileOf (pool : Array CpInfo) (this : Nat) (attrs : Array Attribute := #[]) (ms : Array MethodInfo := #[]) (fl : Nat := 33) (sup : Nat := 0) (ifs : Array Nat := #[]) (fds : Array FieldInfo := #[]) : ClassFile where
  minorVersion := 0
  majorVersion := 65
  constantPool := pool
  accessFlags := fl
  thisClass := this
  superClass := sup
  interfaces := ifs
  fields := fds
  methods := ms
  attributes := attrs
def plain (name : String) (sup : Option ClassId) : Class where
  name := name
  kind := .ordinary
  loader := none
  accessFlags := 33
  super := sup
  interfaces := #[]
  cf := none
  fields := #[]
  methods := #[]
  instanceTypes := #[]
  staticTypes := #[]
  resolved := #[]
  callSites := []
  init := .initialized
  statics := none
  mirror := none

def pool0 : Array CpInfo := pool [(5, u "<init>"), (0, u "()V"), (1, .class_ 10), (1, u "java/lang/Object")] 113

def k0m0 : Method := { name := "<init>", desc := "()V", sig := { parameters := [], returnType := none }, accessFlags := 1, code := none }
/-- java/lang/Object -/
def k0 : Class := { plain "java/lang/Object" none with
  accessFlags := 33
  interfaces := #[]
  cf := some (fileOf pool0 8 #[] #[{ accessFlags := 1, nameIndex := 5, descriptorIndex := 6, attributes := #[] }] 33 0 #[] #[])
  fields := #[]
  methods := #[k0m0]
  instanceTypes := #[]
  staticTypes := #[]
  resolved := Array.replicate 124 none
  statics := none }

def pool1 : Array CpInfo := pool [(2, .class_ 4), (1, u "java/lang/Object"), (0, u "<init>"), (0, u "()V"), (0, .class_ 8), (0, u "com/example/fieldnote/fieldnote/schema/FieldType"), (0, .fieldref 7 10), (0, .nameAndType 11 12), (0, u "DOUBLE"), (0, u "Lcom/example/fieldnote/fieldnote/schema/FieldType;"), (0, .fieldref 7 14), (0, .nameAndType 15 12), (0, u "FLOAT"), (0, .fieldref 7 17), (0, .nameAndType 18 12), (0, u "INT32"), (0, .fieldref 7 20), (0, .nameAndType 21 12), (0, u "INT64"), (0, .fieldref 7 23), (0, .nameAndType 24 12), (0, u "UINT32"), (0, .fieldref 7 26), (0, .nameAndType 27 12), (0, u "UINT64"), (0, .fieldref 7 29), (0, .nameAndType 30 12), (0, u "SINT32"), (0, .fieldref 7 32), (0, .nameAndType 33 12), (0, u "SINT64"), (0, .fieldref 7 35), (0, .nameAndType 36 12), (0, u "FIXED32"), (0, .fieldref 7 38), (0, .nameAndType 39 12), (0, u "FIXED64"), (0, .fieldref 7 41), (0, .nameAndType 42 12), (0, u "SFIXED32"), (0, .fieldref 7 44), (0, .nameAndType 45 12), (0, u "SFIXED64"), (0, .fieldref 7 47), (0, .nameAndType 48 12), (0, u "BOOL"), (0, .fieldref 7 50), (0, .nameAndType 51 12), (0, u "STRING"), (0, .fieldref 7 53), (0, .nameAndType 54 12), (0, u "BYTES"), (0, .fieldref 7 56), (0, .nameAndType 57 12), (0, u "ENUM"), (0, .fieldref 7 59), (0, .nameAndType 60 12), (0, u "MESSAGE"), (0, .integer 2147483647), (0, .methodref 7 63), (0, .nameAndType 64 65), (0, u "isMapKey"), (0, u "()Z"), (0, .class_ 67), (0, u "com/example/fieldnote/fieldnote/schema/FieldTypeIsMapKeyPinLaw"), (2, u "law"), (0, u "(I)Z")] 7

def k1m0 : Method := { name := "<init>", desc := "()V", sig := { parameters := [], returnType := none }, accessFlags := 1, code := none }
def k1c1 : Code := { maxStack := 4, maxLocals := 4, code := code, exceptionTable := #[], attributes := #[] }
def k1m1 : Method := { name := "law", desc := "(I)Z", sig := { parameters := [.int], returnType := some .boolean }, accessFlags := 9, code := some k1c1 }
/-- com/example/fieldnote/fieldnote/schema/FieldTypeIsMapKeyPinLaw -/
def k1 : Class := { plain "com/example/fieldnote/fieldnote/schema/FieldTypeIsMapKeyPinLaw" (some 0) with
  accessFlags := 49
  interfaces := #[]
  cf := some (fileOf pool1 66 #[] #[{ accessFlags := 1, nameIndex := 5, descriptorIndex := 6, attributes := #[] }, { accessFlags := 9, nameIndex := 70, descriptorIndex := 71, attributes := #[] }] 49 2 #[] #[])
  fields := #[]
  methods := #[k1m0, k1m1]
  instanceTypes := #[]
  staticTypes := #[]
  resolved := Array.replicate 79 none
  statics := none }

def pool2 : Array CpInfo := pool [(1, .class_ 2), (0, u "java/lang/constant/Constable"), (0, .class_ 4), (0, u "java/lang/Object")] 6

/-- java/lang/constant/Constable -/
def k2 : Class := { plain "java/lang/constant/Constable" (some 0) with
  accessFlags := 1537
  interfaces := #[]
  cf := some (fileOf pool2 1 #[] #[] 1537 3 #[] #[])
  fields := #[]
  methods := #[]
  instanceTypes := #[]
  staticTypes := #[]
  resolved := Array.replicate 11 none
  statics := none }

def pool3 : Array CpInfo := pool [(1, .class_ 2), (0, u "java/lang/Comparable"), (0, .class_ 4), (0, u "java/lang/Object")] 7

/-- java/lang/Comparable -/
def k3 : Class := { plain "java/lang/Comparable" (some 0) with
  accessFlags := 1537
  interfaces := #[]
  cf := some (fileOf pool3 1 #[] #[] 1537 3 #[] #[])
  fields := #[]
  methods := #[]
  instanceTypes := #[]
  staticTypes := #[]
  resolved := Array.replicate 12 none
  statics := none }

def pool4 : Array CpInfo := pool [(1, .class_ 2), (0, u "java/io/Serializable"), (0, .class_ 4), (0, u "java/lang/Object")] 2

/-- java/io/Serializable -/
def k4 : Class := { plain "java/io/Serializable" (some 0) with
  accessFlags := 1537
  interfaces := #[]
  cf := some (fileOf pool4 1 #[] #[] 1537 3 #[] #[])
  fields := #[]
  methods := #[]
  instanceTypes := #[]
  staticTypes := #[]
  resolved := Array.replicate 7 none
  statics := none }

def pool5 : Array CpInfo := pool [(2, .class_ 4), (1, u "java/lang/Enum"), (0, u "name"), (0, u "Ljava/lang/String;"), (2, u "ordinal"), (0, u "I"), (1, .class_ 14), (1, u "java/lang/Object"), (4, u "hash"), (86, .class_ 108), (1, u "java/lang/Enum$EnumDesc"), (2, .class_ 112), (0, u "java/lang/constant/Constable"), (0, .class_ 114), (0, u "java/lang/Comparable"), (0, .class_ 116), (0, u "java/io/Serializable")] 87

/-- java/lang/Enum -/
def k5 : Class := { plain "java/lang/Enum" (some 0) with
  accessFlags := 1057
  interfaces := #[2, 3, 4]
  cf := some (fileOf pool5 2 #[.nestMembers #[106]] #[] 1057 12 #[111, 113, 115] #[{ accessFlags := 18, nameIndex := 5, descriptorIndex := 6, attributes := #[] }, { accessFlags := 18, nameIndex := 9, descriptorIndex := 10, attributes := #[] }, { accessFlags := 2, nameIndex := 19, descriptorIndex := 10, attributes := #[] }])
  fields := #[{ name := "name", type := (.object "java/lang/String"), accessFlags := 18, slot := 0, constantValue := 0 }, { name := "ordinal", type := .int, accessFlags := 18, slot := 1, constantValue := 0 }, { name := "hash", type := .int, accessFlags := 2, slot := 2, constantValue := 0 }]
  methods := #[]
  instanceTypes := #[(.object "java/lang/String"), .int, .int]
  staticTypes := #[]
  resolved := Array.replicate 204 none
  statics := none }

def pool6 : Array CpInfo := pool [(1, .class_ 2), (0, u "com/example/fieldnote/fieldnote/schema/FieldType"), (0, .fieldref 1 4), (0, .nameAndType 5 6), (0, u "DOUBLE"), (0, u "Lcom/example/fieldnote/fieldnote/schema/FieldType;"), (0, .fieldref 1 8), (0, .nameAndType 9 6), (0, u "FLOAT"), (2, u "INT32"), (2, u "INT64"), (2, u "UINT32"), (2, u "UINT64"), (2, u "SINT32"), (2, u "SINT64"), (2, u "FIXED32"), (2, u "FIXED64"), (2, u "SFIXED32"), (2, u "SFIXED64"), (2, u "BOOL"), (2, u "STRING"), (0, .fieldref 1 47), (0, .nameAndType 48 6), (0, u "BYTES"), (2, u "ENUM"), (2, u "MESSAGE"), (2, u "$VALUES"), (0, u "[Lcom/example/fieldnote/fieldnote/schema/FieldType;"), (6, .class_ 67), (1, u "java/lang/Enum"), (6, .fieldref 1 75), (0, .nameAndType 76 77), (0, u "keyword"), (0, u "Ljava/lang/String;"), (2, u "javaType"), (0, u "Ljava/lang/Class;"), (95, u "()Z"), (1, u "isMapKey")] 8

def k6c0 : Code := { maxStack := 2, maxLocals := 1, code := prog_7_method_6_code, exceptionTable := #[], attributes := #[] }
def k6m0 : Method := { name := "isMapKey", desc := "()Z", sig := { parameters := [], returnType := some .boolean }, accessFlags := 1, code := some k6c0 }
/-- com/example/fieldnote/fieldnote/schema/FieldType -/
def k6 : Class := { plain "com/example/fieldnote/fieldnote/schema/FieldType" (some 5) with
  accessFlags := 16433
  interfaces := #[]
  cf := some (fileOf pool6 1 #[] #[{ accessFlags := 1, nameIndex := 179, descriptorIndex := 177, attributes := #[] }] 16433 65 #[] #[{ accessFlags := 16409, nameIndex := 5, descriptorIndex := 6, attributes := #[] }, { accessFlags := 16409, nameIndex := 9, descriptorIndex := 6, attributes := #[] }, { accessFlags := 16409, nameIndex := 12, descriptorIndex := 6, attributes := #[] }, { accessFlags := 16409, nameIndex := 15, descriptorIndex := 6, attributes := #[] }, { accessFlags := 16409, nameIndex := 18, descriptorIndex := 6, attributes := #[] }, { accessFlags := 16409, nameIndex := 21, descriptorIndex := 6, attributes := #[] }, { accessFlags := 16409, nameIndex := 24, descriptorIndex := 6, attributes := #[] }, { accessFlags := 16409, nameIndex := 27, descriptorIndex := 6, attributes := #[] }, { accessFlags := 16409, nameIndex := 30, descriptorIndex := 6, attributes := #[] }, { accessFlags := 16409, nameIndex := 33, descriptorIndex := 6, attributes := #[] }, { accessFlags := 16409, nameIndex := 36, descriptorIndex := 6, attributes := #[] }, { accessFlags := 16409, nameIndex := 39, descriptorIndex := 6, attributes := #[] }, { accessFlags := 16409, nameIndex := 42, descriptorIndex := 6, attributes := #[] }, { accessFlags := 16409, nameIndex := 45, descriptorIndex := 6, attributes := #[] }, { accessFlags := 16409, nameIndex := 48, descriptorIndex := 6, attributes := #[] }, { accessFlags := 16409, nameIndex := 51, descriptorIndex := 6, attributes := #[] }, { accessFlags := 16409, nameIndex := 54, descriptorIndex := 6, attributes := #[] }, { accessFlags := 18, nameIndex := 76, descriptorIndex := 77, attributes := #[] }, { accessFlags := 18, nameIndex := 80, descriptorIndex := 81, attributes := #[] }, { accessFlags := 4122, nameIndex := 57, descriptorIndex := 58, attributes := #[] }])
  fields := #[{ name := "DOUBLE", type := (.object "com/example/fieldnote/fieldnote/schema/FieldType"), accessFlags := 16409, slot := 0, constantValue := 0 }, { name := "FLOAT", type := (.object "com/example/fieldnote/fieldnote/schema/FieldType"), accessFlags := 16409, slot := 1, constantValue := 0 }, { name := "INT32", type := (.object "com/example/fieldnote/fieldnote/schema/FieldType"), accessFlags := 16409, slot := 2, constantValue := 0 }, { name := "INT64", type := (.object "com/example/fieldnote/fieldnote/schema/FieldType"), accessFlags := 16409, slot := 3, constantValue := 0 }, { name := "UINT32", type := (.object "com/example/fieldnote/fieldnote/schema/FieldType"), accessFlags := 16409, slot := 4, constantValue := 0 }, { name := "UINT64", type := (.object "com/example/fieldnote/fieldnote/schema/FieldType"), accessFlags := 16409, slot := 5, constantValue := 0 }, { name := "SINT32", type := (.object "com/example/fieldnote/fieldnote/schema/FieldType"), accessFlags := 16409, slot := 6, constantValue := 0 }, { name := "SINT64", type := (.object "com/example/fieldnote/fieldnote/schema/FieldType"), accessFlags := 16409, slot := 7, constantValue := 0 }, { name := "FIXED32", type := (.object "com/example/fieldnote/fieldnote/schema/FieldType"), accessFlags := 16409, slot := 8, constantValue := 0 }, { name := "FIXED64", type := (.object "com/example/fieldnote/fieldnote/schema/FieldType"), accessFlags := 16409, slot := 9, constantValue := 0 }, { name := "SFIXED32", type := (.object "com/example/fieldnote/fieldnote/schema/FieldType"), accessFlags := 16409, slot := 10, constantValue := 0 }, { name := "SFIXED64", type := (.object "com/example/fieldnote/fieldnote/schema/FieldType"), accessFlags := 16409, slot := 11, constantValue := 0 }, { name := "BOOL", type := (.object "com/example/fieldnote/fieldnote/schema/FieldType"), accessFlags := 16409, slot := 12, constantValue := 0 }, { name := "STRING", type := (.object "com/example/fieldnote/fieldnote/schema/FieldType"), accessFlags := 16409, slot := 13, constantValue := 0 }, { name := "BYTES", type := (.object "com/example/fieldnote/fieldnote/schema/FieldType"), accessFlags := 16409, slot := 14, constantValue := 0 }, { name := "ENUM", type := (.object "com/example/fieldnote/fieldnote/schema/FieldType"), accessFlags := 16409, slot := 15, constantValue := 0 }, { name := "MESSAGE", type := (.object "com/example/fieldnote/fieldnote/schema/FieldType"), accessFlags := 16409, slot := 16, constantValue := 0 }, { name := "keyword", type := (.object "java/lang/String"), accessFlags := 18, slot := 3, constantValue := 0 }, { name := "javaType", type := (.object "java/lang/Class"), accessFlags := 18, slot := 4, constantValue := 0 }, { name := "$VALUES", type := (.array (.object "com/example/fieldnote/fieldnote/schema/FieldType")), accessFlags := 4122, slot := 17, constantValue := 0 }]
  methods := #[k6m0]
  instanceTypes := #[(.object "java/lang/String"), .int, .int, (.object "java/lang/String"), (.object "java/lang/Class")]
  staticTypes := #[(.object "com/example/fieldnote/fieldnote/schema/FieldType"), (.object "com/example/fieldnote/fieldnote/schema/FieldType"), (.object "com/example/fieldnote/fieldnote/schema/FieldType"), (.object "com/example/fieldnote/fieldnote/schema/FieldType"), (.object "com/example/fieldnote/fieldnote/schema/FieldType"), (.object "com/example/fieldnote/fieldnote/schema/FieldType"), (.object "com/example/fieldnote/fieldnote/schema/FieldType"), (.object "com/example/fieldnote/fieldnote/schema/FieldType"), (.object "com/example/fieldnote/fieldnote/schema/FieldType"), (.object "com/example/fieldnote/fieldnote/schema/FieldType"), (.object "com/example/fieldnote/fieldnote/schema/FieldType"), (.object "com/example/fieldnote/fieldnote/schema/FieldType"), (.object "com/example/fieldnote/fieldnote/schema/FieldType"), (.object "com/example/fieldnote/fieldnote/schema/FieldType"), (.object "com/example/fieldnote/fieldnote/schema/FieldType"), (.object "com/example/fieldnote/fieldnote/schema/FieldType"), (.object "com/example/fieldnote/fieldnote/schema/FieldType"), (.array (.object "com/example/fieldnote/fieldnote/schema/FieldType"))]
  resolved := Array.replicate 188 none
  statics := some 0 }

def pool7 : Array CpInfo := pool [(2, .class_ 4), (1, u "java/lang/CharSequence"), (42, .class_ 48), (0, u "java/lang/CharSequence$1CodePointIterator"), (10, .class_ 60), (0, u "java/lang/CharSequence$1CharIterator"), (5, .class_ 67), (0, u "java/lang/Object")] 63

/-- java/lang/CharSequence -/
def k7 : Class := { plain "java/lang/CharSequence" (some 0) with
  accessFlags := 1537
  interfaces := #[]
  cf := some (fileOf pool7 2 #[.nestMembers #[47, 59]] #[] 1537 66 #[] #[])
  fields := #[]
  methods := #[]
  instanceTypes := #[]
  staticTypes := #[]
  resolved := Array.replicate 131 none
  statics := none }

def pool8 : Array CpInfo := pool [(1, .class_ 2), (0, u "java/lang/constant/ConstantDesc"), (0, .class_ 4), (0, u "java/lang/Object")] 32

/-- java/lang/constant/ConstantDesc -/
def k8 : Class := { plain "java/lang/constant/ConstantDesc" (some 0) with
  accessFlags := 1537
  interfaces := #[]
  cf := some (fileOf pool8 1 #[] #[] 1537 3 #[] #[])
  fields := #[]
  methods := #[]
  instanceTypes := #[]
  staticTypes := #[]
  resolved := Array.replicate 37 none
  statics := none }

def pool9 : Array CpInfo := pool [(2, .class_ 4), (1, u "java/lang/Object"), (0, u "<init>"), (0, u "()V"), (3, .class_ 12), (1, u "java/lang/String"), (0, u "value"), (0, u "[B"), (2, u "coder"), (0, u "B"), (2, u "hash"), (0, u "I"), (2, u "hashIsZero"), (0, u "Z"), (13, u "COMPACT_STRINGS"), (534, .class_ 576), (0, u "java/lang/CharSequence"), (22, u "CASE_INSENSITIVE_ORDER"), (0, u "Ljava/util/Comparator;"), (500, u "serialPersistentFields"), (0, u "[Ljava/io/ObjectStreamField;"), (0, .class_ 1104), (0, u "java/lang/String$CaseInsensitiveComparator"), (1, .class_ 1107), (0, u "java/io/Serializable"), (0, .class_ 1109), (0, u "java/lang/Comparable"), (0, .class_ 1111), (0, u "java/lang/constant/Constable"), (0, .class_ 1113), (0, u "java/lang/constant/ConstantDesc"), (2, u "serialVersionUID"), (0, u "J"), (3, u "REPL"), (0, u "C"), (2, u "LATIN1"), (1, u "UTF16")] 323

def k9m0 : Method := { name := "<init>", desc := "()V", sig := { parameters := [], returnType := none }, accessFlags := 1, code := none }
/-- java/lang/String -/
def k9 : Class := { plain "java/lang/String" (some 0) with
  accessFlags := 49
  interfaces := #[4, 3, 7, 2, 8]
  cf := some (fileOf pool9 10 #[.nestMembers #[1103]] #[{ accessFlags := 1, nameIndex := 5, descriptorIndex := 6, attributes := #[] }] 49 2 #[1106, 1108, 575, 1110, 1112] #[{ accessFlags := 18, nameIndex := 13, descriptorIndex := 14, attributes := #[] }, { accessFlags := 18, nameIndex := 17, descriptorIndex := 18, attributes := #[] }, { accessFlags := 2, nameIndex := 21, descriptorIndex := 22, attributes := #[] }, { accessFlags := 2, nameIndex := 25, descriptorIndex := 26, attributes := #[] }, { accessFlags := 26, nameIndex := 1116, descriptorIndex := 1117, attributes := #[] }, { accessFlags := 24, nameIndex := 40, descriptorIndex := 26, attributes := #[] }, { accessFlags := 26, nameIndex := 1101, descriptorIndex := 1102, attributes := #[] }, { accessFlags := 26, nameIndex := 1121, descriptorIndex := 1122, attributes := #[] }, { accessFlags := 25, nameIndex := 599, descriptorIndex := 600, attributes := #[] }, { accessFlags := 24, nameIndex := 1125, descriptorIndex := 18, attributes := #[] }, { accessFlags := 24, nameIndex := 1127, descriptorIndex := 18, attributes := #[] }])
  fields := #[{ name := "value", type := (.array .byte), accessFlags := 18, slot := 0, constantValue := 0 }, { name := "coder", type := .byte, accessFlags := 18, slot := 1, constantValue := 0 }, { name := "hash", type := .int, accessFlags := 2, slot := 2, constantValue := 0 }, { name := "hashIsZero", type := .boolean, accessFlags := 2, slot := 3, constantValue := 0 }, { name := "serialVersionUID", type := .long, accessFlags := 26, slot := 0, constantValue := 0 }, { name := "COMPACT_STRINGS", type := .boolean, accessFlags := 24, slot := 1, constantValue := 0 }, { name := "serialPersistentFields", type := (.array (.object "java/io/ObjectStreamField")), accessFlags := 26, slot := 2, constantValue := 0 }, { name := "REPL", type := .char, accessFlags := 26, slot := 3, constantValue := 0 }, { name := "CASE_INSENSITIVE_ORDER", type := (.object "java/util/Comparator"), accessFlags := 25, slot := 4, constantValue := 0 }, { name := "LATIN1", type := .byte, accessFlags := 24, slot := 5, constantValue := 0 }, { name := "UTF16", type := .byte, accessFlags := 24, slot := 6, constantValue := 0 }]
  methods := #[k9m0]
  instanceTypes := #[(.array .byte), .byte, .int, .boolean]
  staticTypes := #[.long, .boolean, (.array (.object "java/io/ObjectStreamField")), .char, (.object "java/util/Comparator"), .byte, .byte]
  resolved := Array.replicate 1451 none
  statics := none }

def pool10 : Array CpInfo := pool [(1, u "java/lang/Cloneable"), (0, .class_ 1), (0, u "java/lang/Object"), (0, .class_ 3)] 3

/-- java/lang/Cloneable -/
def k10 : Class := { plain "java/lang/Cloneable" (some 0) with
  accessFlags := 1537
  interfaces := #[]
  cf := some (fileOf pool10 2 #[] #[] 1537 4 #[] #[])
  fields := #[]
  methods := #[]
  instanceTypes := #[]
  staticTypes := #[]
  resolved := Array.replicate 8 none
  statics := none }

/-- the primitive boolean -/
def k11 : Class := { plain "boolean" none with kind := .primitive 'Z', accessFlags := 0x411 }
/-- [Z -/
def k12 : Class := { plain "[Z" (some 0) with kind := .array 11 .boolean, interfaces := #[10, 4], accessFlags := 1041 }

/-- the primitive byte -/
def k13 : Class := { plain "byte" none with kind := .primitive 'B', accessFlags := 0x411 }
/-- [B -/
def k14 : Class := { plain "[B" (some 0) with kind := .array 13 .byte, interfaces := #[10, 4], accessFlags := 1041 }

/-- the primitive int -/
def k15 : Class := { plain "int" none with kind := .primitive 'I', accessFlags := 0x411 }
/-- [I -/
def k16 : Class := { plain "[I" (some 0) with kind := .array 15 .int, interfaces := #[10, 4], accessFlags := 1041 }

/-- [Lcom/example/fieldnote/fieldnote/schema/FieldType; -/
def k17 : Class := { plain "[Lcom/example/fieldnote/fieldnote/schema/FieldType;" (some 0) with kind := .array 6 (.object "com/example/fieldnote/fieldnote/schema/FieldType"), interfaces := #[10, 4], accessFlags := 1041 }

def heap : Heap := #[{ cls := 6, slots := #[.ref 1, .ref 2, .ref 3, .ref 4, .ref 5, .ref 6, .ref 7, .ref 8, .ref 9, .ref 10, .ref 11, .ref 12, .ref 13, .ref 14, .ref 15, .ref 16, .ref 17, .null], vm := .statics 6 },
  { cls := 6, slots := #[.null, .int 0, .int 0, .ref 18, .null], vm := .none },
  { cls := 6, slots := #[.null, .int 1, .int 0, .ref 26, .null], vm := .none },
  { cls := 6, slots := #[.null, .int 2, .int 0, .ref 24, .null], vm := .none },
  { cls := 6, slots := #[.null, .int 3, .int 0, .ref 19, .null], vm := .none },
  { cls := 6, slots := #[.null, .int 4, .int 0, .ref 28, .null], vm := .none },
  { cls := 6, slots := #[.null, .int 5, .int 0, .ref 30, .null], vm := .none },
  { cls := 6, slots := #[.null, .int 6, .int 0, .ref 22, .null], vm := .none },
  { cls := 6, slots := #[.null, .int 7, .int 0, .ref 23, .null], vm := .none },
  { cls := 6, slots := #[.null, .int 8, .int 0, .ref 20, .null], vm := .none },
  { cls := 6, slots := #[.null, .int 9, .int 0, .ref 21, .null], vm := .none },
  { cls := 6, slots := #[.null, .int 10, .int 0, .ref 29, .null], vm := .none },
  { cls := 6, slots := #[.null, .int 11, .int 0, .ref 25, .null], vm := .none },
  { cls := 6, slots := #[.null, .int 12, .int 0, .ref 32, .null], vm := .none },
  { cls := 6, slots := #[.null, .int 13, .int 0, .ref 27, .null], vm := .none },
  { cls := 6, slots := #[.null, .int 14, .int 0, .ref 31, .null], vm := .none },
  { cls := 6, slots := #[.null, .int 0, .int 0, .null, .null], vm := .none },
  { cls := 6, slots := #[.null, .int 0, .int 0, .null, .null], vm := .none },
  { cls := 9, slots := #[.null, .int 0, .int 0, .int 0], vm := .none },
  { cls := 9, slots := #[.null, .int 0, .int 0, .int 0], vm := .none },
  { cls := 9, slots := #[.null, .int 0, .int 0, .int 0], vm := .none },
  { cls := 9, slots := #[.null, .int 0, .int 0, .int 0], vm := .none },
  { cls := 9, slots := #[.null, .int 0, .int 0, .int 0], vm := .none },
  { cls := 9, slots := #[.null, .int 0, .int 0, .int 0], vm := .none },
  { cls := 9, slots := #[.null, .int 0, .int 0, .int 0], vm := .none },
  { cls := 9, slots := #[.null, .int 0, .int 0, .int 0], vm := .none },
  { cls := 9, slots := #[.null, .int 0, .int 0, .int 0], vm := .none },
  { cls := 9, slots := #[.null, .int 0, .int 0, .int 0], vm := .none },
  { cls := 9, slots := #[.null, .int 0, .int 0, .int 0], vm := .none },
  { cls := 9, slots := #[.null, .int 0, .int 0, .int 0], vm := .none },
  { cls := 9, slots := #[.null, .int 0, .int 0, .int 0], vm := .none },
  { cls := 9, slots := #[.null, .int 0, .int 0, .int 0], vm := .none },
  { cls := 9, slots := #[.null, .int 0, .int 0, .int 0], vm := .none }]
def classes : Array Class := #[k0, k1, k2, k3, k4, k5, k6, k7, k8, k9, k10, k11, k12, k13, k14, k15, k16, k17]
def interned : List (Array UInt16 × Addr) := []
def slotsUsed : Nat := 163
def theMethod : MethodId := ⟨1, 1⟩
def args0 : Array Value := #[.int 5]
def aboutOver (below : List Frame) : State where
  vm := { classes := classes, interned := interned.toArray }
  heap := heap
  slotsUsed := slotsUsed
  threads := #[{ frames := .invoking theMethod args0 :: below }]
def below0 : List Frame := [.native { method := ⟨0, 0⟩, args := #[] }]
def about1 : State := aboutOver below0
def p0 : Program := .bare "" "" ""
def e0 : Env := launch0.env 0 0 0
theorem w_frames : about1.frames = Frame.invoking theMethod args0 :: below0 := rfl
set_option maxRecDepth 65536 in
theorem w_args : argsFit about1.vm theMethod args0 = true := by decide +kernel
set_option maxRecDepth 65536 in
theorem w_heap : heapFits about1 = true := by decide +kernel
set_option maxRecDepth 65536 in
theorem w_runnable : about1.curStatus? = some .runnable := by decide +kernel
set_option maxRecDepth 65536 in
theorem w_alone : about1.alone = true := by decide +kernel
set_option maxRecDepth 65536 in
theorem w_named : about1.methodNamed? x = some theMethod := by decide +kernel
set_option maxRecDepth 65536 in
theorem w_hears : about1.hears theMethod below0 = true := by decide +kernel
set_option maxRecDepth 65536 in
theorem w_ripe : about1.ripe theMethod args0 below0 = true := by decide +kernel
theorem w_running : about1.status = .running := rfl
set_option maxRecDepth 65536 in
theorem w_room : about1.hasRoom e0.platform room_1 = true :=
  launch0.hasRoom_least _ room_1 (by decide +kernel) (by decide +kernel) (by decide +kernel) (by decide +kernel) (by decide +kernel) (by decide +kernel)
theorem allAtoms_all (ts : List Jvm.Cond) (a : Array Jvm.Value) (st : Jvm.State) : (allAtoms ts).before a st = ts.all (fun c => c.before a st) := by
  induction ts with
  | nil => rfl
  | cons c t ih =>
    show (Jvm.Cond.and c (allAtoms t)).before a st = _
    rw [Jvm.Cond.before_and, ih, List.all_cons]
def words1 : List Jvm.Cond := Jvm.Cond.code x code maxLocals ret :: tables_1
/-- a 'code' word, met by the world's own term for the bytes: nothing is compared byte by byte -/
theorem code_word {y : MethodName} {bytes : ByteArray} {mx : Nat} {rt : Option FieldType} {a : Array Value} {s : State} {m : MethodId} {meth : Method} {c : Code} (h1 : s.methodNamed? y = some m) (h2 : s.vm.method? m = some meth) (h3 : meth.code = some c) (h4 : c.code = bytes)
    (h5 : (c.maxLocals == mx && c.exceptionTable.isEmpty && decide (c.maxStack ≤ mostOperands) && decide (meth.sig.returnType = rt) && !meth.locks && decide (parseMethodDescriptor y.desc = some meth.sig)) = true) : (Jvm.Cond.code y bytes mx rt).before a s = true := by
  simp only [Bool.and_eq_true, beq_iff_eq, Bool.not_eq_true', decide_eq_true_eq] at h5
  obtain ⟨⟨⟨⟨⟨g1, g2⟩, g3⟩, g4⟩, g5⟩, g6⟩ := h5
  simp [Cond.before, Cond.holds, Cond.value, h1, h2, h3, h4, g1, g2, g3, g4, g5, g6]
def isCode : Jvm.Cond → Bool
  | .code _ _ _ _ => true
  | _ => false
theorem all_split {L : List Jvm.Cond} {P : Jvm.Cond → Bool} (h1 : L.all (fun c => isCode c || P c) = true) (h2 : ∀ c ∈ L.filter isCode, P c = true) : L.all P = true := by
  refine List.all_eq_true.mpr fun c hc => ?_
  have h := List.all_eq_true.mp h1 c hc
  rcases Bool.eq_false_or_eq_true (isCode c) with hi | hi
  · exact h2 c (List.mem_filter.mpr ⟨hc, hi⟩)
  · simpa [hi] using h
set_option maxRecDepth 65536 in
theorem w_c0 : (Jvm.Cond.code x code maxLocals ret).before args0 about1 = true := code_word (m := ⟨1, 1⟩) (meth := k1m1) (c := k1c1) (by decide +kernel) rfl rfl rfl (by decide +kernel)
set_option maxRecDepth 65536 in
theorem w_c1 : (Jvm.Cond.code ({ cls := "com/example/fieldnote/fieldnote/schema/FieldType", name := "isMapKey", desc := "()Z" } : Jvm.MethodName) prog_7_method_6_code (1 : Nat) (Option.some Jvm.ClassFile.FieldType.boolean)).before args0 about1 = true := code_word (m := ⟨6, 0⟩) (meth := k6m0) (c := k6c0) (by decide +kernel) rfl rfl rfl (by decide +kernel)
def codes1 : List Jvm.Cond := [Jvm.Cond.code x code maxLocals ret, Jvm.Cond.code ({ cls := "com/example/fieldnote/fieldnote/schema/FieldType", name := "isMapKey", desc := "()Z" } : Jvm.MethodName) prog_7_method_6_code (1 : Nat) (Option.some Jvm.ClassFile.FieldType.boolean)]
set_option maxRecDepth 65536 in
theorem codes_eq : words1.filter isCode = codes1 := rfl
theorem w_codes : ∀ c ∈ words1.filter isCode, c.before args0 about1 = true := by
  rw [codes_eq]
  intro c hc
  simp only [codes1, List.mem_cons, List.not_mem_nil, or_false] at hc
  rcases hc with rfl | rfl
  · exact w_c0
  · exact w_c1
set_option maxRecDepth 65536 in
theorem w_t1 : (words1.take 24).all (fun c => isCode c || c.before args0 about1) = true := by decide +kernel
set_option maxRecDepth 65536 in
theorem w_t2 : ((words1.drop 24).take 24).all (fun c => isCode c || c.before args0 about1) = true := by decide +kernel
set_option maxRecDepth 65536 in
theorem w_t3 : ((words1.drop 24).drop 24).all (fun c => isCode c || c.before args0 about1) = true := by decide +kernel
theorem w_tables : (allAtoms (Jvm.Cond.code x code maxLocals ret :: tables_1)).before args0 about1 = true := by
  rw [allAtoms_all]
  show words1.all (fun c => c.before args0 about1) = true
  refine all_split ?_ w_codes
  rw [← List.take_append_drop 24 words1, List.all_append, w_t1, ← List.take_append_drop 24 (words1.drop 24), List.all_append, w_t2, w_t3]
  rfl
set_option maxRecDepth 65536 in
theorem w_case : (Jvm.Cond.and given_1 narrow_1).before args0 about1 = true := by decide +kernel
theorem w_applies : (headSpec (Jvm.Cond.code x code maxLocals ret :: tables_1) room_1).applies x e0.platform about1 = true :=
  (Spec.applies_iff w_frames).mpr ⟨w_running, w_runnable, w_alone, w_named, w_hears, w_ripe, w_room, w_tables⟩
theorem atStart : AtStart classFile x code maxLocals ret World_1 tables_1 room_1 Calls_1 rest_1 Pre_1 launch0 p0 e0 about1 theMethod args0 below0 :=
  ⟨lists_1, trivial, launch0.admits_env _ _ _, launch0.least_env, fairChoices_fair.cas, fairChoices_fair.clock, w_frames, w_args, w_heap, w_applies, trivial, trivial, w_case⟩
end start1
theorem witness_1 : WitnessClaimed_1 := ⟨start1.p0, start1.e0, start1.about1, start1.theMethod, start1.args0, start1.below0, start1.atStart⟩
end Jvm.Pilot.@@N@@
