import JvmDerived
import JvmDerived.Pilot.@@N@@Statement
import JvmDerived.Pilot.@@N@@Code
set_option linter.unusedVariables false
set_option linter.unusedSimpArgs false
@@BLOCK:Masks.lean.txt@@
@@BLOCK:NumsL.lean.txt@@
namespace Jvm.Pilot.@@N@@
open Jvm Jvm.ClassFile Sem Op Lib Jvm.Free Jvm.Stand Jvm.LawKit Jvm.RoadKit Bundle Jvm.Pilot.@@N@@.Jvm.D
/-! own layer: a walk as "from here the body comes to a good end" (own_Wp), so that a walk may fork in its middle -/
section OwnLayer
variable {p : Program} {l : Launch} {e : Env} {R : Room} {s : State} {m : MethodId} {args : Array Value} {below : List Frame} {meth : Method} {c : Code} {T T' : State} {locs : List Loc} {cells slots cs sl pc : Nat} {g g' : JFrame} {F : State → Outcome → Prop} {Q : Option Value → Heap → List Loc → Prop} {Ls : Array Slot} {rest : List Value} {Z : State} {a0 : Array Value} {h : Heap}
def own_Wp (p : Program) (e : Env) (below : List Frame) (F : State → Outcome → Prop) (T : State) (g : JFrame) : Prop := ∃ s₂ o, Steps p.tables e below (T.setTop g) s₂ ∧ F s₂ o
def own_Fin (below : List Frame) (s : State) (Q : Option Value → Heap → List Loc → Prop) (cs sl : Nat) (s₂ : State) (o : Outcome) : Prop := s₂.status = .running ∧ Ended s₂ below o ∧ ∃ v L, o = .returned v ∧ Q v s₂.heap L ∧ FrameEnd s o s₂ L cs sl
theorem own_step (st : ∀ target, Steps p.tables e below (T'.setTop g') target → Steps p.tables e below (T.setTop g) target) (k : own_Wp p e below F T' g') : own_Wp p e below F T g := by
  obtain ⟨a, b, h1, h2⟩ := k
  exact ⟨a, b, st _ h1, h2⟩
theorem own_cast (q : g = g') (k : own_Wp p e below F T g') : own_Wp p e below F T g := q ▸ k
theorem own_leave {v : Option Value} {fs : List Frame} (st : Steps p.tables e below (T.setTop g) (T.setFrames fs)) (hrun : (T.setFrames fs).status = .running) (hended : Ended (T.setFrames fs) below (.returned v)) (hW : s.WarmedH (T.setFrames fs).vm) (hsame : s.sameButNew ({ T.setFrames fs with vm := s.vm } : State) locs cells slots) (hc : cells ≤ cs) (hs : slots ≤ sl) (hQ : Q v T.heap locs) : own_Wp p e below (own_Fin below s Q cs sl) T g :=
  ⟨_, _, st, hrun, hended, v, locs, rfl, hQ, ⟨_, rfl⟩, hW, hsame.mono hc hs⟩
theorem own_retN (X : Stand p l e R s m args below meth c T locs cells slots) (hx : p.tables.exec = Jvm.exec) {t : FieldType} {z : Int32} (hret : meth.sig.returnType = some t) (ht : t = .boolean ∨ t = .byte ∨ t = .char ∨ t = .short) (hlocks : meth.locks = false) (hd : decode c.code pc = .ok (.ireturn, 1)) (hc : cells ≤ cs) (hs : slots ≤ sl) (hQ : Q (some (.int (nar t z))) T.heap locs) : own_Wp p e below (own_Fin below s Q cs sl) T (mkF m pc Ls (.int z :: rest)) := by
  obtain ⟨fs, hr, hrun, hended, hW, hsame⟩ := X.leave (v := some (.int (nar t z))) (fun h => by rw [hret] at h; cases h) hlocks
  exact own_leave (retN X hx hret ht hd hr) hrun hended hW hsame hc hs hQ
theorem own_retI (X : Stand p l e R s m args below meth c T locs cells slots) (hx : p.tables.exec = Jvm.exec) {z : Int32} (hret : meth.sig.returnType = some .int) (hlocks : meth.locks = false) (hd : decode c.code pc = .ok (.ireturn, 1)) (hc : cells ≤ cs) (hs : slots ≤ sl) (hQ : Q (some (.int z)) T.heap locs) : own_Wp p e below (own_Fin below s Q cs sl) T (mkF m pc Ls (.int z :: rest)) := by
  obtain ⟨fs, hr, hrun, hended, hW, hsame⟩ := X.leave (v := some (.int z)) (fun h => by rw [hret] at h; cases h) hlocks
  refine own_leave ?_ hrun hended hW hsame hc hs hQ
  have hm' : T.vm.method? m = some meth := X.method'
  have hn : narrow .int (.int z) = .int z := rfl
  show Steps p.tables e below (T.setTop { method := m, pc := pc, locals := Ls, stack := _ :: rest, locked := none }) _
  jvm_step X.here [X.here.top, hx, hd, hm', hret, hn]
  first | (intro acts; rw [hr _ acts rfl rfl rfl]) | rw [hr _ _ rfl rfl rfl]
  exact Steps.refl _
theorem own_retJ (X : Stand p l e R s m args below meth c T locs cells slots) (hx : p.tables.exec = Jvm.exec) {z : Int64} (hret : meth.sig.returnType = some .long) (hlocks : meth.locks = false) (hd : decode c.code pc = .ok (.lreturn, 1)) (hc : cells ≤ cs) (hs : slots ≤ sl) (hQ : Q (some (.long z)) T.heap locs) : own_Wp p e below (own_Fin below s Q cs sl) T (mkF m pc Ls (.long z :: rest)) := by
  obtain ⟨fs, hr, hrun, hended, hW, hsame⟩ := X.leave (v := some (.long z)) (fun h => by rw [hret] at h; cases h) hlocks
  refine own_leave ?_ hrun hended hW hsame hc hs hQ
  have hm' : T.vm.method? m = some meth := X.method'
  have hn : narrow .long (.long z) = .long z := rfl
  show Steps p.tables e below (T.setTop { method := m, pc := pc, locals := Ls, stack := _ :: rest, locked := none }) _
  jvm_step X.here [X.here.top, hx, hd, hm', hret, hn]
  first | (intro acts; rw [hr _ acts rfl rfl rfl]) | rw [hr _ _ rfl rfl rfl]
  exact Steps.refl _
theorem own_retA (X : Stand p l e R s m args below meth c T locs cells slots) (hx : p.tables.exec = Jvm.exec) {t : FieldType} {v : Value} (hret : meth.sig.returnType = some t) (ht : t.isReference = true) (hv : v.isRef = true) (hlocks : meth.locks = false) (hd : decode c.code pc = .ok (.areturn, 1)) (hc : cells ≤ cs) (hs : slots ≤ sl) (hQ : Q (some v) T.heap locs) : own_Wp p e below (own_Fin below s Q cs sl) T (mkF m pc Ls (v :: rest)) := by
  obtain ⟨fs, hr, hrun, hended, hW, hsame⟩ := X.leave (v := some v) (fun h => by rw [hret] at h; cases h) hlocks
  refine own_leave ?_ hrun hended hW hsame hc hs hQ
  have hm' : T.vm.method? m = some meth := X.method'
  rcases ref_cases hv with rfl | ⟨a, rfl⟩
  · show Steps p.tables e below (T.setTop { method := m, pc := pc, locals := Ls, stack := _ :: rest, locked := none }) _
    jvm_step X.here [X.here.top, hx, hd, hm', hret, Value.isRef, ht]
    first | (intro acts; rw [hr _ acts rfl rfl rfl]) | rw [hr _ _ rfl rfl rfl]
    exact Steps.refl _
  · show Steps p.tables e below (T.setTop { method := m, pc := pc, locals := Ls, stack := _ :: rest, locked := none }) _
    jvm_step X.here [X.here.top, hx, hd, hm', hret, Value.isRef, ht]
    first | (intro acts; rw [hr _ acts rfl rfl rfl]) | rw [hr _ _ rfl rfl rfl]
    exact Steps.refl _
theorem own_retV (X : Stand p l e R s m args below meth c T locs cells slots) (hx : p.tables.exec = Jvm.exec) (hret : meth.sig.returnType = none) (hlocks : meth.locks = false) (hd : decode c.code pc = .ok (.return_, 1)) (hc : cells ≤ cs) (hs : slots ≤ sl) (hQ : Q none T.heap locs) : own_Wp p e below (own_Fin below s Q cs sl) T (mkF m pc Ls []) := by
  obtain ⟨fs, hr, hrun, hended, hW, hsame⟩ := X.leave (v := none) (fun _ => rfl) hlocks
  exact own_leave (X.returnOut hx hret hd hr) hrun hended hW hsame hc hs hQ
/-- a contract, as every body of this text has one -/
def own_Met (l : Launch) (Z : State) (y : MethodName) (cd : Cond) (ws : List Cond) (rm : Room) (as' : Array Value) (h : Heap) (Q : Option Value → Heap → List Loc → Prop) : Prop :=
  MetFree l y (head1 (cd :: ws) rm) (fun a U => a = as' ∧ Z.Warmed39 U.vm ∧ U.heap = h) (fun _ _ _ _ _ => True) (fun _ U o U' => ∃ v L, o = .returned v ∧ Q v U'.heap L ∧ FrameEnd U o U' L rm.cells rm.slots)
theorem own_met {y : MethodName} {bytes : ByteArray} {maxL : Nat} {ret : Option FieldType} {ws : List Cond} {rm : Room} {as' : Array Value} {own : String} (hpl : plainFor y = true) (ho : y.cls = own)
    (body : ∀ p e s m below meth c s₁, p.tables.exec = Jvm.exec → c.code = bytes → c.maxLocals = maxL → s.vm.findClass own = some m.cls → meth.name = y.name → meth.sig.returnType = ret → meth.locks = false → Z.Warmed39 s.vm → s₁.heap = h →
      Stand p l e rm s m as' below meth c s₁ [] 0 0 → own_Wp p e below (own_Fin below s Q rm.cells rm.slots) s₁ (entryFrame m as' maxL)) : own_Met l Z y (Cond.code y bytes maxL ret) ws rm as' h Q := by
  refine MetFree.of_bodySF hpl hisR ?_
  intro p e s m args below meth c s₁ Bd hml0 hP hK
  obtain ⟨rfl, hZ, hh⟩ := hP
  exact body p e s m below meth c s₁ Bd.exec Bd.bytes hml0 (ho ▸ findClass_of_methodNamed Bd.named) (name_of_methodNamed Bd.named Bd.method).1 Bd.returns Bd.notSynchronized hZ (by rw [← hh, Bd.state]; rfl) (Stand.of_body Bd)
theorem own_callS (X : Stand p l e R s m args below meth c T locs cells slots) (hx : p.tables.exec = Jvm.exec) (hZ : Z.Warmed39 s.vm) {own : String} {index : Nat} {y : MethodName} {bytes : ByteArray} {maxL W : Nat} {ret : Option FieldType} {rm : Room} {as' : Array Value}
    (hown : s.vm.findClass own = some m.cls) (w1 : (Cond.methodLink own index y).before a0 Z = true) (w2 : (Cond.static y).before a0 Z = true) (w3 : (Cond.initialized y.cls).before a0 Z = true) (w4 : (Cond.code y bytes maxL ret).before a0 Z = true) (hy : y.cls ≠ "java/lang/invoke/MethodHandle" ∧ y.cls ≠ "java/lang/invoke/VarHandle")
    (hM : own_Met l Z y (Cond.code y bytes maxL ret) [] rm as' h Q) (hf : rm.frames + 1 ≤ R.frames) (hl : W + (maxL + 11) + rm.locals ≤ R.locals) (argsL : List Value) (ha : argsL.toArray = as') (hlen : ∀ sig, parseMethodDescriptor y.desc = some sig → argsL.length = sig.parameters.length)
    (hsz : Ls.size = c.maxLocals) (hW : (rest.map fun v => v.category).sum ≤ W) (hd : decode c.code pc = .ok (.invokestatic index, 3)) (eT : T.heap = h) (hc : cells + rm.cells ≤ R.cells) (hs : slots + rm.slots ≤ R.slots) :
    ∃ (v : Option Value) (T' : State) (L : List Loc), Stand p l e R s m args below meth c T' (locs ++ L) (cells + rm.cells) (slots + rm.slots) ∧ Q v T'.heap L ∧ ∀ F, own_Wp p e below F T' (mkF m (pc + 3) Ls (v.toList ++ rest)) → own_Wp p e below F T (mkF m pc Ls (argsL.reverse ++ rest)) := by
  obtain ⟨v, _, ⟨T1, L1, k1, n1⟩, -, X1, ⟨Lc, hQ, l1, y1, z1⟩, st⟩ := Jvm.LawKit.callS X hx (y := y) hown (mvT hZ w1) (mvT hZ w2) (mvT hZ w3) (mvT hZ w4) hy (backOf (W := W) hM hZ w4 w3 hf hl) (g := mkF m pc Ls (argsL.reverse ++ rest)) rfl hsz (argsL := argsL) (rest := rest) hlen rfl (by show 2 * 0 + _ ≤ _; omega) hd (fun _ _ => ⟨ha, eT, hc, hs⟩)
  dsimp only [Pt.U, Pt.locs, Pt.cells, Pt.slots] at X1 l1 y1 z1 st hQ
  subst l1 y1 z1
  exact ⟨v, T1, Lc, X1, hQ, fun F k => own_step st k⟩
theorem own_callV (X : Stand p l e R s m args below meth c T locs cells slots) (hx : p.tables.exec = Jvm.exec) (hZ : Z.Warmed39 s.vm) {own C : String} {index : Nat} {y z : MethodName} {bytes : ByteArray} {maxL W : Nat} {ret : Option FieldType} {rm : Room} {as' : Array Value} {b : Addr}
    (hown : s.vm.findClass own = some m.cls) (w1 : (Cond.methodLink own index y).before a0 Z = true) (w2 : (Cond.declares y).before a0 Z = true) (hnf : NotFace s y) (w3 : (Cond.selects C y z).before a0 Z = true) (w5 : (Cond.instanceMethod z).before a0 Z = true) (w6 : (Cond.initialized z.cls).before a0 Z = true) (w4 : (Cond.code z bytes maxL ret).before a0 Z = true) (hy : y.cls ≠ "java/lang/invoke/MethodHandle" ∧ y.cls ≠ "java/lang/invoke/VarHandle") (E : Exa Z h b C)
    (hM : own_Met l Z z (Cond.code z bytes maxL ret) [] rm as' h Q) (hf : rm.frames + 1 ≤ R.frames) (hl : W + (maxL + 11) + rm.locals ≤ R.locals) (argsL : List Value) (ha : (.ref b :: argsL).toArray = as') (hlen : ∀ sig, parseMethodDescriptor y.desc = some sig → argsL.length = sig.parameters.length)
    (hsz : Ls.size = c.maxLocals) (hW : (rest.map fun v => v.category).sum ≤ W) (hd : decode c.code pc = .ok (.invokevirtual index, 3)) (eT : T.heap = h) (hc : cells + rm.cells ≤ R.cells) (hs : slots + rm.slots ≤ R.slots) :
    ∃ (v : Option Value) (T' : State) (L : List Loc), Stand p l e R s m args below meth c T' (locs ++ L) (cells + rm.cells) (slots + rm.slots) ∧ Q v T'.heap L ∧ ∀ F, own_Wp p e below F T' (mkF m (pc + 3) Ls (v.toList ++ rest)) → own_Wp p e below F T (mkF m pc Ls (argsL.reverse ++ .ref b :: rest)) := by
  obtain ⟨cq, kq, qa, qb, qc⟩ := isOf hZ eT E
  obtain ⟨v, _, ⟨T1, L1, k1, n1⟩, -, X1, ⟨Lc, hQ, l1, y1, z1⟩, st⟩ := X.virtualBack hx (y := y) (z := z) hown (mvT hZ w1) (mvT hZ w2) hnf (mvT hZ w3) (mvT hZ w5) hy (backOf (W := W) hM hZ w4 w6 hf hl) qa qc (g := mkF m pc Ls (argsL.reverse ++ .ref b :: rest)) rfl hsz (Steps.refl _) (argsL := argsL) (rest := rest) hlen rfl (by show 2 * 0 + _ ≤ _; omega) hd (fun _ _ => ⟨ha, eT, hc, hs⟩)
  dsimp only [Pt.U, Pt.locs, Pt.cells, Pt.slots] at X1 l1 y1 z1 st hQ
  subst l1 y1 z1
  exact ⟨v, T1, Lc, X1, hQ, fun F k => own_step (fun _ q => st.trans q) k⟩
theorem own_callN (X : Stand p l e R s m args below meth c T locs cells slots) (hx : p.tables.exec = Jvm.exec) (hZ : Z.Warmed39 s.vm) {own : String} {index : Nat} {y : MethodName} {bytes : ByteArray} {maxL W : Nat} {rm : Room} {as' : Array Value} {b : Addr}
    (hn : y.name = "<init>") (hown : s.vm.findClass own = some m.cls) (w1 : (Cond.methodLink own index y).before a0 Z = true) (w5 : (Cond.instanceMethod y).before a0 Z = true) (w6 : (Cond.initialized y.cls).before a0 Z = true) (w4 : (Cond.code y bytes maxL none).before a0 Z = true) (hy : y.cls ≠ "java/lang/invoke/MethodHandle" ∧ y.cls ≠ "java/lang/invoke/VarHandle")
    (hM : own_Met l Z y (Cond.code y bytes maxL none) [] rm as' h Q) (hf : rm.frames + 1 ≤ R.frames) (hl : W + (maxL + 11) + rm.locals ≤ R.locals) (argsL : List Value) (ha : (.ref b :: argsL).toArray = as') (hlen : ∀ sig, parseMethodDescriptor y.desc = some sig → argsL.length = sig.parameters.length)
    (hsz : Ls.size = c.maxLocals) (hW : (rest.map fun v => v.category).sum ≤ W) (hd : decode c.code pc = .ok (.invokespecial index, 3)) (eT : T.heap = h) (hc : cells + rm.cells ≤ R.cells) (hs : slots + rm.slots ≤ R.slots) :
    ∃ (v : Option Value) (T' : State) (L : List Loc), Stand p l e R s m args below meth c T' (locs ++ L) (cells + rm.cells) (slots + rm.slots) ∧ Q v T'.heap L ∧ ∀ F, own_Wp p e below F T' (mkF m (pc + 3) Ls (v.toList ++ rest)) → own_Wp p e below F T (mkF m pc Ls (argsL.reverse ++ .ref b :: rest)) := by
  obtain ⟨v, _, ⟨T1, L1, k1, n1⟩, -, X1, ⟨Lc, hQ, l1, y1, z1⟩, st⟩ := X.specialBack hx (y := y) hn hown (mvT hZ w1) (mvT hZ w5) (mvT hZ w4) hy (backOf (W := W) hM hZ w4 w6 hf hl) (g := mkF m pc Ls (argsL.reverse ++ .ref b :: rest)) rfl hsz (Steps.refl _) (a := b) (argsL := argsL) (rest := rest) hlen rfl (by show 2 * 0 + _ ≤ _; omega) hd (fun _ _ => ⟨ha, eT, hc, hs⟩)
  dsimp only [Pt.U, Pt.locs, Pt.cells, Pt.slots] at X1 l1 y1 z1 st hQ
  subst l1 y1 z1
  exact ⟨v, T1, Lc, X1, hQ, fun F k => own_step (fun _ q => st.trans q) k⟩
theorem own_callU (X : Stand p l e R s m args below meth c T locs cells slots) (hx : p.tables.exec = Jvm.exec) (hZ : Z.Warmed39 s.vm) {own C owner : String} {index : Nat} {y z : MethodName} {bytes : ByteArray} {maxL W : Nat} {ret : Option FieldType} {rm : Room} {as' : Array Value} {b : Addr}
    (hown : s.vm.findClass own = some m.cls) (w1 : (Cond.methodLink own index y).before a0 Z = true) (w2 : (Cond.sameMethod y.cls owner y.name y.desc).before a0 Z = true) (w7 : (Cond.declares ⟨owner, y.name, y.desc⟩).before a0 Z = true) (w3 : (Cond.selects C y z).before a0 Z = true) (w5 : (Cond.instanceMethod z).before a0 Z = true) (w6 : (Cond.initialized z.cls).before a0 Z = true) (w4 : (Cond.code z bytes maxL ret).before a0 Z = true) (hy : owner ≠ "java/lang/invoke/MethodHandle" ∧ owner ≠ "java/lang/invoke/VarHandle") (E : Exa Z h b C)
    (hM : own_Met l Z z (Cond.code z bytes maxL ret) [] rm as' h Q) (hf : rm.frames + 1 ≤ R.frames) (hl : W + (maxL + 11) + rm.locals ≤ R.locals) (argsL : List Value) (ha : (.ref b :: argsL).toArray = as') (hlen : ∀ sig, parseMethodDescriptor y.desc = some sig → argsL.length = sig.parameters.length)
    (hsz : Ls.size = c.maxLocals) (hW : (rest.map fun v => v.category).sum ≤ W) (hd : decode c.code pc = .ok (.invokevirtual index, 3)) (eT : T.heap = h) (hc : cells + rm.cells ≤ R.cells) (hs : slots + rm.slots ≤ R.slots) :
    ∃ (v : Option Value) (T' : State) (L : List Loc), Stand p l e R s m args below meth c T' (locs ++ L) (cells + rm.cells) (slots + rm.slots) ∧ Q v T'.heap L ∧ ∀ F, own_Wp p e below F T' (mkF m (pc + 3) Ls (v.toList ++ rest)) → own_Wp p e below F T (mkF m pc Ls (argsL.reverse ++ .ref b :: rest)) := by
  obtain ⟨cq, kq, qa, qb, qc⟩ := isOf hZ eT E
  obtain ⟨v, _, ⟨T1, L1, k1, n1⟩, -, X1, ⟨Lc, hQ, l1, y1, z1⟩, st⟩ := X.virtualBackUp hx (x := y) (y := z) hown (mvT hZ w1) (mvT hZ w2) (mvT hZ w7) hy (mvT hZ w3) (mvT hZ w5) (backOf (W := W) hM hZ w4 w6 hf hl) qa qc (g := mkF m pc Ls (argsL.reverse ++ .ref b :: rest)) rfl hsz (Steps.refl _) (argsL := argsL) (rest := rest) hlen rfl (by show 2 * 0 + _ ≤ _; omega) hd (fun _ _ => ⟨ha, eT, hc, hs⟩)
  dsimp only [Pt.U, Pt.locs, Pt.cells, Pt.slots] at X1 l1 y1 z1 st hQ
  subst l1 y1 z1
  exact ⟨v, T1, Lc, X1, hQ, fun F k => own_step (fun _ q => st.trans q) k⟩
theorem own_callF (X : Stand p l e R s m args below meth c T locs cells slots) (hx : p.tables.exec = Jvm.exec) (hZ : Z.Warmed39 s.vm) {own C : String} {index count : Nat} {y z : MethodName} {bytes : ByteArray} {maxL W : Nat} {ret : Option FieldType} {rm : Room} {as' : Array Value} {b : Addr}
    (hown : s.vm.findClass own = some m.cls) (w1 : (Cond.methodLink own index y).before a0 Z = true) (w2 : (Cond.declares y).before a0 Z = true) (w7 : (Cond.interfaceMethod y.cls y.cls y.name y.desc).before a0 Z = true) (hfa : ((Cond.interfaceMethod y.cls y.cls y.name y.desc).onTables && (Cond.interfaceMethod y.cls y.cls y.name y.desc).keepsFace) = true) (w3 : (Cond.selects C y z).before a0 Z = true) (w5 : (Cond.instanceMethod z).before a0 Z = true) (w8 : (Cond.publicMethod z).before a0 Z = true) (w9 : (Cond.unhidden C y.name y.desc).before a0 Z = true) (w10 : (Cond.castable C y.cls).before a0 Z = true) (w6 : (Cond.initialized z.cls).before a0 Z = true) (w4 : (Cond.code z bytes maxL ret).before a0 Z = true) (hy : y.cls ≠ "java/lang/invoke/MethodHandle" ∧ y.cls ≠ "java/lang/invoke/VarHandle") (E : Exa Z h b C)
    (hM : own_Met l Z z (Cond.code z bytes maxL ret) [] rm as' h Q) (hf : rm.frames + 1 ≤ R.frames) (hl : W + (maxL + 11) + rm.locals ≤ R.locals) (argsL : List Value) (ha : (.ref b :: argsL).toArray = as') (hlen : ∀ sig, parseMethodDescriptor y.desc = some sig → argsL.length = sig.parameters.length)
    (hsz : Ls.size = c.maxLocals) (hW : (rest.map fun v => v.category).sum ≤ W) (hd : decode c.code pc = .ok (.invokeinterface index count, 5)) (eT : T.heap = h) (hc : cells + rm.cells ≤ R.cells) (hs : slots + rm.slots ≤ R.slots) :
    ∃ (v : Option Value) (T' : State) (L : List Loc), Stand p l e R s m args below meth c T' (locs ++ L) (cells + rm.cells) (slots + rm.slots) ∧ Q v T'.heap L ∧ ∀ F, own_Wp p e below F T' (mkF m (pc + 5) Ls (v.toList ++ rest)) → own_Wp p e below F T (mkF m pc Ls (argsL.reverse ++ .ref b :: rest)) := by
  obtain ⟨cq, kq, qa, qb, qc⟩ := isOf hZ eT E
  obtain ⟨v, _, ⟨T1, L1, k1, n1⟩, -, X1, ⟨Lc, hQ, l1, y1, z1⟩, st⟩ := X.interfaceBack hx (xi := y) (y := z) hown (mvT hZ w1) (mvT hZ w2) (mvT hZ w7 hfa) (mvT hZ w3) (mvT hZ w5) (mvT hZ w8) (mvT hZ w9) (mvT hZ w10) hy (backOf (W := W) hM hZ w4 w6 hf hl) qa qb qc (g := mkF m pc Ls (argsL.reverse ++ .ref b :: rest)) rfl hsz (Steps.refl _) (argsL := argsL) (rest := rest) hlen rfl (by show 2 * 0 + _ ≤ _; omega) hd (fun _ _ => ⟨ha, eT, hc, hs⟩)
  dsimp only [Pt.U, Pt.locs, Pt.cells, Pt.slots] at X1 l1 y1 z1 st hQ
  subst l1 y1 z1
  exact ⟨v, T1, Lc, X1, hQ, fun F k => own_step (fun _ q => st.trans q) k⟩
theorem own_callP (X : Stand p l e R s m args below meth c T locs cells slots) (hx : p.tables.exec = Jvm.exec) (hZ : Z.Warmed39 s.vm) {own : String} {index : Nat} {y : MethodName} {bytes : ByteArray} {maxL W : Nat} {ret : Option FieldType} {rm : Room} {as' : Array Value} {b : Addr}
    (hown : s.vm.findClass own = some m.cls) (w1 : (Cond.methodLink own index y).before a0 Z = true) (w5 : (Cond.instanceMethod y).before a0 Z = true) (w7 : (Cond.selects y.cls y y).before a0 Z = true) (w8 : (Cond.privateMethod y).before a0 Z = true) (w6 : (Cond.initialized y.cls).before a0 Z = true) (w4 : (Cond.code y bytes maxL ret).before a0 Z = true) (hy : y.cls ≠ "java/lang/invoke/MethodHandle" ∧ y.cls ≠ "java/lang/invoke/VarHandle") {C : String} (E : Exa Z h b C)
    (hM : own_Met l Z y (Cond.code y bytes maxL ret) [] rm as' h Q) (hf : rm.frames + 1 ≤ R.frames) (hl : W + (maxL + 11) + rm.locals ≤ R.locals) (argsL : List Value) (ha : (.ref b :: argsL).toArray = as') (hlen : ∀ sig, parseMethodDescriptor y.desc = some sig → argsL.length = sig.parameters.length)
    (hsz : Ls.size = c.maxLocals) (hW : (rest.map fun v => v.category).sum ≤ W) (hd : decode c.code pc = .ok (.invokevirtual index, 3)) (eT : T.heap = h) (hc : cells + rm.cells ≤ R.cells) (hs : slots + rm.slots ≤ R.slots) :
    ∃ (v : Option Value) (T' : State) (L : List Loc), Stand p l e R s m args below meth c T' (locs ++ L) (cells + rm.cells) (slots + rm.slots) ∧ Q v T'.heap L ∧ ∀ F, own_Wp p e below F T' (mkF m (pc + 3) Ls (v.toList ++ rest)) → own_Wp p e below F T (mkF m pc Ls (argsL.reverse ++ .ref b :: rest)) := by
  obtain ⟨cq, q1, q2⟩ := E.cell
  obtain ⟨v, _, ⟨T1, L1, k1, n1⟩, -, X1, ⟨Lc, hQ, l1, y1, z1⟩, st⟩ := X.privateBack hx (y := y) hown (mvT hZ w1) (mvT hZ w5) (mvT hZ w7) (Cond.privateMethod_at (mvP hZ w8 (args := #[]))) (mvT hZ w4) hy (backOf (W := W) hM hZ w4 w6 hf hl) (g := mkF m pc Ls (argsL.reverse ++ .ref b :: rest)) rfl hsz (Steps.refl _) (a := b) (by rw [eT]; exact q1) q2 (argsL := argsL) (rest := rest) hlen rfl (by show 2 * 0 + _ ≤ _; omega) hd (fun _ _ => ⟨ha, eT, hc, hs⟩)
  dsimp only [Pt.U, Pt.locs, Pt.cells, Pt.slots] at X1 l1 y1 z1 st hQ
  subst l1 y1 z1
  exact ⟨v, T1, Lc, X1, hQ, fun F k => own_step (fun _ q => st.trans q) k⟩
/-- the words of a long conjunction, as a list -/
def own_flat : Cond → List Cond
  | .and a b => a :: own_flat b
  | c => [c]
theorem own_mem {args : Array Value} {Z : State} : ∀ c : Cond, c.value args Z none Z [] = some true → ∀ d ∈ own_flat c, d.value args Z none Z [] = some true
  | .and a b, h, d, hd => by
    obtain ⟨h1, h2⟩ := and_e h
    rcases List.mem_cons.mp hd with rfl | q
    · exact h1
    · exact own_mem b h2 d q
  | .tt, h, d, hd => by cases List.mem_singleton.mp hd; exact h
  | c, h, d, hd => by
    unfold own_flat at hd
    split at hd
    · rename_i a b
      obtain ⟨h1, h2⟩ := and_e h
      rcases List.mem_cons.mp hd with rfl | q
      · exact h1
      · exact own_mem b h2 d q
    · cases List.mem_singleton.mp hd; exact h
/-- the object that a term of the start names -/
def own_t (Z : State) (t : Term) : Addr := match t.eval #[] Z none [] Z with
  | some (.ref a) => a
  | _ => 0
theorem own_t_eq {t : Term} {a : Addr} (h : t.eval a0 Z none [] Z = some (.ref a)) (hr : t.eval a0 Z none [] Z = t.eval #[] Z none [] Z) : own_t Z t = a := by
  rw [hr] at h
  simp only [own_t, h]
theorem own_ev {t : Term} {K : String} (h : (Cond.exactly t K).value a0 Z none Z [] = some true) (hr : t.eval a0 Z none [] Z = t.eval #[] Z none [] Z) : t.eval a0 Z none [] Z = some (.ref (own_t Z t)) := by
  obtain ⟨a, ev⟩ := exa_v h
  rw [own_t_eq ev hr]
  exact ev
theorem own_evA {t : Term} {ty : FieldType} (h : (Cond.arrayOf t ty).value a0 Z none Z [] = some true) (hr : t.eval a0 Z none [] Z = t.eval #[] Z none [] Z) : t.eval a0 Z none [] Z = some (.ref (own_t Z t)) := by
  obtain ⟨a, ev⟩ := arr_v h
  rw [own_t_eq ev hr]
  exact ev
theorem own_eqI {t : Term} {z : Int32} (q : (Cond.eq t (.int z)).value a0 Z none Z [] = some true) : t.eval a0 Z none [] Z = some (.int z) := by
  cases hf : t.eval a0 Z none [] Z with
  | none => simp [Cond.value, hf] at q
  | some v => cases v <;> simp [Cond.value, Term.eval, hf] at q <;> first | (rw [q]; done) | exact congrArg (fun z => some (Value.int z)) q | skip
theorem own_eqR {t u : Term} {b : Addr} (q : (Cond.eq t u).value a0 Z none Z [] = some true) (ev : u.eval a0 Z none [] Z = some (.ref b)) : t.eval a0 Z none [] Z = some (.ref b) := by
  cases hf : t.eval a0 Z none [] Z with
  | none => simp [Cond.value, hf] at q
  | some v => cases v <;> simp [Cond.value, hf, ev] at q <;> first | (rw [q]; done) | exact congrArg (fun z => some (Value.ref z)) q | skip
theorem own_fld {t : Term} {O f d : String} {a : Addr} {v : Value} (ev : t.eval a0 Z none [] Z = some (.ref a)) (q : (Term.field t O f d).eval a0 Z none [] Z = some v) : Fld Z Z.heap a O f d v := by
  refine Fld.start ?_
  simp only [Term.eval, ev, Option.bind_eq_bind, Option.bind_some] at q
  exact q
theorem own_len {t : Term} {ty : FieldType} {a : Addr} {cl : Cell} {z : Int32} (A : Arr Z Z.heap a cl ty) (ev : t.eval a0 Z none [] Z = some (.ref a)) (q : (Cond.eq (.length t) (.int z)).value a0 Z none Z [] = some true) : cl.slots.size < 2 ^ 31 ∧ cl.slots.size.toInt32 = z := by
  have e0 : Z.arrayAt? a = some cl := Arr.fin (Vm.Alike.refl _) A
  have q2 := own_eqI q
  simp only [Term.eval, ev, e0, Option.bind_eq_bind, Option.bind_some] at q2
  split at q2
  · rename_i g
    exact ⟨g, by simpa using q2⟩
  · cases q2
theorem own_el {t : Term} {ty : FieldType} {a : Addr} {cl : Cell} {i : Int32} {v : Value} (A : Arr Z Z.heap a cl ty) (ev : t.eval a0 Z none [] Z = some (.ref a)) (q : (Term.elem t (.int i)).eval a0 Z none [] Z = some v) : cl.slots[i.toNatClampNeg]? = some v := by
  have e0 : Z.arrayAt? a = some cl := Arr.fin (Vm.Alike.refl _) A
  simp only [Term.eval, ev, e0, Option.bind_eq_bind, Option.bind_some] at q
  split at q
  · cases q
  · exact q
def own_i (Z : State) (t : Term) : Int32 := match t.eval #[] Z none [] Z with
  | some (.int a) => a
  | _ => 0
theorem own_evI {t : Term} (h : (Cond.isInt t).value a0 Z none Z [] = some true) (hr : t.eval a0 Z none [] Z = t.eval #[] Z none [] Z) : t.eval a0 Z none [] Z = some (.int (own_i Z t)) := by
  obtain ⟨a, ev⟩ := is_v h
  have q := ev
  rw [hr] at q
  have e : own_i Z t = a := by simp only [own_i, q]
  rw [e]
  exact ev
theorem own_neI {t : Term} {z a : Int32} (h : (Cond.not (.eq t (.int z))).value a0 Z none Z [] = some true) (ev : t.eval a0 Z none [] Z = some (.int a)) : ¬ (a = z) := by
  have q := not_v h
  simp only [Cond.value, ev, Term.eval] at q
  intro e
  subst e
  simp at q
theorem own_fitc {c : Int32} (h : nar .char c = c) : fits .char (.int c) = true := by
  have q := fits_nar_char c
  rw [h] at q
  exact q
theorem own_narb {c : Int32} (h : c = (0 : Int32) ∨ c = (1 : Int32)) : nar .boolean c = c := by rcases h with rfl | rfl <;> rfl
theorem own_nb {c : Int32} (h : c = (0 : Int32) ∨ c = (1 : Int32)) : narrow .boolean (.int c) = .int c := by rcases h with rfl | rfl <;> rfl
theorem own_fb {c : Int32} (h : c = (0 : Int32) ∨ c = (1 : Int32)) : fits .boolean (.int c) = true := by rcases h with rfl | rfl <;> rfl
theorem own_lc3 (a b : Int64) : (a < b ∧ lcmpW a b = -1) ∨ (a = b ∧ lcmpW a b = 0) ∨ (b < a ∧ lcmpW a b = 1) := by
  by_cases h : b < a
  · exact Or.inr (Or.inr ⟨h, if_pos h⟩)
  · by_cases h2 : a = b
    · exact Or.inr (Or.inl ⟨h2, (if_neg h).trans (if_pos h2)⟩)
    · refine Or.inl ⟨?_, (if_neg h).trans (if_neg h2)⟩
      simp only [Int64.lt_iff_toInt_lt, ← Int64.toInt_inj] at h h2 ⊢
      omega
theorem own_lcltY {a b : Int64} (h : a < b) : ifCond.holds .lt (lcmpW a b) = true := by
  rcases own_lc3 a b with ⟨h1, e⟩ | ⟨h1, e⟩ | ⟨h1, e⟩ <;> first | (rw [e]; decide) | (exfalso; simp only [Int64.lt_iff_toInt_lt, ← Int64.toInt_inj] at h h1; omega)
theorem own_lcltN {a b : Int64} (h : ¬ (a < b)) : ifCond.holds .lt (lcmpW a b) = false := by
  rcases own_lc3 a b with ⟨h1, e⟩ | ⟨h1, e⟩ | ⟨h1, e⟩ <;> first | (rw [e]; decide) | (exfalso; simp only [Int64.lt_iff_toInt_lt, ← Int64.toInt_inj] at h h1; omega)
theorem own_lcgeY {a b : Int64} (h : ¬ (a < b)) : ifCond.holds .ge (lcmpW a b) = true := by
  rcases own_lc3 a b with ⟨h1, e⟩ | ⟨h1, e⟩ | ⟨h1, e⟩ <;> first | (rw [e]; decide) | (exfalso; simp only [Int64.lt_iff_toInt_lt, ← Int64.toInt_inj] at h h1; omega)
theorem own_lcgeN {a b : Int64} (h : a < b) : ifCond.holds .ge (lcmpW a b) = false := by
  rcases own_lc3 a b with ⟨h1, e⟩ | ⟨h1, e⟩ | ⟨h1, e⟩ <;> first | (rw [e]; decide) | (exfalso; simp only [Int64.lt_iff_toInt_lt, ← Int64.toInt_inj] at h h1; omega)
theorem own_lcgtY {a b : Int64} (h : b < a) : ifCond.holds .gt (lcmpW a b) = true := by
  rcases own_lc3 a b with ⟨h1, e⟩ | ⟨h1, e⟩ | ⟨h1, e⟩ <;> first | (rw [e]; decide) | (exfalso; simp only [Int64.lt_iff_toInt_lt, ← Int64.toInt_inj] at h h1; omega)
theorem own_lcgtN {a b : Int64} (h : ¬ (b < a)) : ifCond.holds .gt (lcmpW a b) = false := by
  rcases own_lc3 a b with ⟨h1, e⟩ | ⟨h1, e⟩ | ⟨h1, e⟩ <;> first | (rw [e]; decide) | (exfalso; simp only [Int64.lt_iff_toInt_lt, ← Int64.toInt_inj] at h h1; omega)
theorem own_lcleY {a b : Int64} (h : ¬ (b < a)) : ifCond.holds .le (lcmpW a b) = true := by
  rcases own_lc3 a b with ⟨h1, e⟩ | ⟨h1, e⟩ | ⟨h1, e⟩ <;> first | (rw [e]; decide) | (exfalso; simp only [Int64.lt_iff_toInt_lt, ← Int64.toInt_inj] at h h1; omega)
theorem own_lcleN {a b : Int64} (h : b < a) : ifCond.holds .le (lcmpW a b) = false := by
  rcases own_lc3 a b with ⟨h1, e⟩ | ⟨h1, e⟩ | ⟨h1, e⟩ <;> first | (rw [e]; decide) | (exfalso; simp only [Int64.lt_iff_toInt_lt, ← Int64.toInt_inj] at h h1; omega)
theorem own_lceqY {a b : Int64} (h : a = b) : ifCond.holds .eq (lcmpW a b) = true := by
  rcases own_lc3 a b with ⟨h1, e⟩ | ⟨h1, e⟩ | ⟨h1, e⟩ <;> first | (rw [e]; decide) | (exfalso; simp only [Int64.lt_iff_toInt_lt, ← Int64.toInt_inj] at h h1; omega)
theorem own_lceqN {a b : Int64} (h : ¬ (a = b)) : ifCond.holds .eq (lcmpW a b) = false := by
  rcases own_lc3 a b with ⟨h1, e⟩ | ⟨h1, e⟩ | ⟨h1, e⟩ <;> first | (rw [e]; decide) | (exfalso; simp only [Int64.lt_iff_toInt_lt, ← Int64.toInt_inj] at h h1; omega)
theorem own_lcneY {a b : Int64} (h : ¬ (a = b)) : ifCond.holds .ne (lcmpW a b) = true := by
  rcases own_lc3 a b with ⟨h1, e⟩ | ⟨h1, e⟩ | ⟨h1, e⟩ <;> first | (rw [e]; decide) | (exfalso; simp only [Int64.lt_iff_toInt_lt, ← Int64.toInt_inj] at h h1; omega)
theorem own_lcneN {a b : Int64} (h : a = b) : ifCond.holds .ne (lcmpW a b) = false := by
  rcases own_lc3 a b with ⟨h1, e⟩ | ⟨h1, e⟩ | ⟨h1, e⟩ <;> first | (rw [e]; decide) | (exfalso; simp only [Int64.lt_iff_toInt_lt, ← Int64.toInt_inj] at h h1; omega)
end OwnLayer
theorem own_get {c : Cell} {vs : List Value} {d : Value} {z j : Int32} (S : c.slots.size = z.toNatClampNeg) (H : Has c vs d) (q : ¬ (j < 0 ∨ c.slots.size ≤ j.toNatClampNeg)) (i : Nat) (hj : j.toNatClampNeg = i) : c.slots[j.toNatClampNeg]? = some (vs.getD i d) := by
  subst hj
  exact H _ (Nat.lt_of_not_le fun r => q (Or.inr r))
theorem own_mod (x : Int32) {n : Int32} (hn : 0 < n.toInt) : 0 ≤ ((x &&& (2147483647 : Int32)) % n).toInt ∧ ((x &&& (2147483647 : Int32)) % n).toInt < n.toInt := by
  have h := (Jvm.Kit.i32_and_bounds x (m := (2147483647 : Int32)) (by decide)).1
  have h0 : 0 ≤ (x &&& (2147483647 : Int32)).toInt := Jvm.Kit.i32_nonneg.mp h
  rw [Int32.toInt_mod]
  exact ⟨Int.tmod_nonneg _ h0, Int.tmod_lt_of_pos _ hn⟩
theorem own_ch (x : Int32) : ¬ ((x &&& (255 : Int32)).toUInt32.toUInt16.toUInt32.toInt32 < (0 : Int32)) ∧ ¬ ((255 : Int32) < (x &&& (255 : Int32)).toUInt32.toUInt16.toUInt32.toInt32) ∧ nar .char (x &&& (255 : Int32)).toUInt32.toUInt16.toUInt32.toInt32 = (x &&& (255 : Int32)).toUInt32.toUInt16.toUInt32.toInt32 := by
  have t : ∀ k : Fin 256, ¬ ((Int32.ofNat k.val).toUInt32.toUInt16.toUInt32.toInt32 < (0 : Int32)) ∧ ¬ ((255 : Int32) < (Int32.ofNat k.val).toUInt32.toUInt16.toUInt32.toInt32) ∧ nar .char (Int32.ofNat k.val).toUInt32.toUInt16.toUInt32.toInt32 = (Int32.ofNat k.val).toUInt32.toUInt16.toUInt32.toInt32 := by decide +kernel
  have h : (x &&& 255).toBitVec.toNat < 256 := by
    simp only [Int32.toBitVec_and, BitVec.toNat_and]
    exact Nat.lt_succ_of_le Nat.and_le_right
  have e : (x &&& 255) = Int32.ofNat (x &&& 255).toBitVec.toNat := by
    apply Int32.toBitVec_inj.mp
    show _ = BitVec.ofNat 32 _
    rw [BitVec.ofNat_toNat]; simp
  rw [e]
  exact t ⟨_, h⟩
def w0i_COMPACT_STRINGS (Z : State) : Int32 := own_i Z (Jvm.Term.static "java/lang/String" "COMPACT_STRINGS" "Z")
theorem ev_w0i_COMPACT_STRINGS {Z : State} {a0 : Array Value} (hw : ∀ d ∈ tables_1, d.before a0 Z = true) (hS : ∀ d ∈ jdkStatics_1, d.before a0 Z = true) : (Jvm.Term.static "java/lang/String" "COMPACT_STRINGS" "Z").eval a0 Z none [] Z = some (.int (w0i_COMPACT_STRINGS Z)) := own_evI (Cond.before_iff.mp (hS _ (List.mem_of_getElem? (i := 1) rfl))) rfl
theorem st_w0i_COMPACT_STRINGS {Z : State} {a0 : Array Value} (hw : ∀ d ∈ tables_1, d.before a0 Z = true) (hS : ∀ d ∈ jdkStatics_1, d.before a0 Z = true) : Sta Z Z.heap "java/lang/String" "COMPACT_STRINGS" "Z" (.int (w0i_COMPACT_STRINGS Z)) := Sta.start (ev_w0i_COMPACT_STRINGS hw hS) (Or.inl (hS _ (List.mem_of_getElem? (i := 0) rfl)))
theorem ne_w0i_COMPACT_STRINGS {Z : State} {a0 : Array Value} (hw : ∀ d ∈ tables_1, d.before a0 Z = true) (hS : ∀ d ∈ jdkStatics_1, d.before a0 Z = true) : ¬ (w0i_COMPACT_STRINGS Z = (0 : Int32)) := own_neI (Cond.before_iff.mp (hS _ (List.mem_of_getElem? (i := 2) rfl))) (ev_w0i_COMPACT_STRINGS hw hS)
theorem d1_0 : decode jdk_42_method_3_code 0 = .ok (.aload_n 0, 1) := by decide +kernel
theorem d1_1 : decode jdk_42_method_3_code 1 = .ok (.aload_n 1, 1) := by decide +kernel
theorem d1_2 : decode jdk_42_method_3_code 2 = .ok (.iconst 0, 1) := by decide +kernel
theorem d1_3 : decode jdk_42_method_3_code 3 = .ok (.aload_n 1, 1) := by decide +kernel
theorem d1_4 : decode jdk_42_method_3_code 4 = .ok (.arraylength, 1) := by decide +kernel
theorem d1_5 : decode jdk_42_method_3_code 5 = .ok (.aconst_null, 1) := by decide +kernel
theorem d1_6 : decode jdk_42_method_3_code 6 = .ok (.invokespecial 27, 3) := by decide +kernel
theorem d2_0 : decode jdk_42_method_149_code 0 = .ok (.aload_n 0, 1) := by decide +kernel
theorem d2_1 : decode jdk_42_method_149_code 1 = .ok (.invokespecial 1, 3) := by decide +kernel
theorem d2_4 : decode jdk_42_method_149_code 4 = .ok (.iload_n 3, 1) := by decide +kernel
theorem d2_5 : decode jdk_42_method_149_code 5 = .ok (.ifCond .ne 22, 3) := by decide +kernel
theorem d2_27 : decode jdk_42_method_149_code 27 = .ok (.getstatic 38, 3) := by decide +kernel
theorem d2_30 : decode jdk_42_method_149_code 30 = .ok (.ifCond .eq 28, 3) := by decide +kernel
theorem d2_33 : decode jdk_42_method_149_code 33 = .ok (.aload_n 1, 1) := by decide +kernel
theorem d2_34 : decode jdk_42_method_149_code 34 = .ok (.iload_n 2, 1) := by decide +kernel
theorem d2_35 : decode jdk_42_method_149_code 35 = .ok (.iload_n 3, 1) := by decide +kernel
theorem d2_36 : decode jdk_42_method_149_code 36 = .ok (.invokestatic 177, 3) := by decide +kernel
theorem d4_0 : decode jdk_52_method_16_code 0 = .ok (.iload_n 2, 1) := by decide +kernel
theorem d4_1 : decode jdk_52_method_16_code 1 = .ok (.newarray .byte, 2) := by decide +kernel
theorem d4_3 : decode jdk_52_method_16_code 3 = .ok (.astore_n 3, 1) := by decide +kernel
theorem d4_4 : decode jdk_52_method_16_code 4 = .ok (.aload_n 0, 1) := by decide +kernel
theorem d4_5 : decode jdk_52_method_16_code 5 = .ok (.iload_n 1, 1) := by decide +kernel
theorem d4_6 : decode jdk_52_method_16_code 6 = .ok (.aload_n 3, 1) := by decide +kernel
theorem d4_7 : decode jdk_52_method_16_code 7 = .ok (.iconst 0, 1) := by decide +kernel
theorem d4_8 : decode jdk_52_method_16_code 8 = .ok (.iload_n 2, 1) := by decide +kernel
theorem d4_9 : decode jdk_52_method_16_code 9 = .ok (.invokestatic 115, 3) := by decide +kernel
theorem d5_0 : decode jdk_52_method_21_code 0 = .ok (.iconst 0, 1) := by decide +kernel
theorem d5_1 : decode jdk_52_method_21_code 1 = .ok (.istore 5, 2) := by decide +kernel
theorem d5_3 : decode jdk_52_method_21_code 3 = .ok (.iload 5, 2) := by decide +kernel
theorem d5_5 : decode jdk_52_method_21_code 5 = .ok (.iload 4, 2) := by decide +kernel
theorem d5_7 : decode jdk_52_method_21_code 7 = .ok (.if_icmp .ge 37, 3) := by decide +kernel
theorem d5_10 : decode jdk_52_method_21_code 10 = .ok (.aload_n 0, 1) := by decide +kernel
theorem d5_11 : decode jdk_52_method_21_code 11 = .ok (.iload_n 1, 1) := by decide +kernel
theorem d5_12 : decode jdk_52_method_21_code 12 = .ok (.caload, 1) := by decide +kernel
theorem d5_13 : decode jdk_52_method_21_code 13 = .ok (.istore 6, 2) := by decide +kernel
theorem d5_15 : decode jdk_52_method_21_code 15 = .ok (.iload 6, 2) := by decide +kernel
theorem d5_17 : decode jdk_52_method_21_code 17 = .ok (.sipush 255, 3) := by decide +kernel
theorem d5_20 : decode jdk_52_method_21_code 20 = .ok (.if_icmp .le 6, 3) := by decide +kernel
theorem d5_26 : decode jdk_52_method_21_code 26 = .ok (.aload_n 2, 1) := by decide +kernel
theorem d5_27 : decode jdk_52_method_21_code 27 = .ok (.iload_n 3, 1) := by decide +kernel
theorem d5_28 : decode jdk_52_method_21_code 28 = .ok (.iload 6, 2) := by decide +kernel
theorem d5_30 : decode jdk_52_method_21_code 30 = .ok (.i2b, 1) := by decide +kernel
theorem d5_31 : decode jdk_52_method_21_code 31 = .ok (.bastore, 1) := by decide +kernel
theorem d5_32 : decode jdk_52_method_21_code 32 = .ok (.iinc 1 1, 3) := by decide +kernel
theorem d5_35 : decode jdk_52_method_21_code 35 = .ok (.iinc 3 1, 3) := by decide +kernel
theorem d5_38 : decode jdk_52_method_21_code 38 = .ok (.iinc 5 1, 3) := by decide +kernel
theorem d5_41 : decode jdk_52_method_21_code 41 = .ok (.goto (-38), 3) := by decide +kernel
theorem d5_44 : decode jdk_52_method_21_code 44 = .ok (.iload 4, 2) := by decide +kernel
theorem d5_46 : decode jdk_52_method_21_code 46 = .ok (.ireturn, 1) := by decide +kernel
theorem pn0 : plainName "java/lang/StringUTF16" = true := by first | (simp [plainName, overriddenIn]; done) | decide +kernel
theorem pd1 : parseMethodDescriptor "([CI[BII)I" = some ⟨[(.array .char), .int, (.array .byte), .int, .int], some .int⟩ := by decide +kernel
theorem d4_12 : decode jdk_52_method_16_code 12 = .ok (.istore 4, 2) := by decide +kernel
theorem d4_14 : decode jdk_52_method_16_code 14 = .ok (.iload 4, 2) := by decide +kernel
theorem d4_16 : decode jdk_52_method_16_code 16 = .ok (.iload_n 2, 1) := by decide +kernel
theorem d4_17 : decode jdk_52_method_16_code 17 = .ok (.if_icmp .eq 40, 3) := by decide +kernel
theorem d4_57 : decode jdk_52_method_16_code 57 = .ok (.aload_n 3, 1) := by decide +kernel
theorem d4_58 : decode jdk_52_method_16_code 58 = .ok (.areturn, 1) := by decide +kernel
theorem pd2 : parseMethodDescriptor "([CII)[B" = some ⟨[(.array .char), .int, .int], some (.array .byte)⟩ := by decide +kernel
theorem d2_39 : decode jdk_42_method_149_code 39 = .ok (.astore 5, 2) := by decide +kernel
theorem d2_41 : decode jdk_42_method_149_code 41 = .ok (.aload_n 0, 1) := by decide +kernel
theorem d2_42 : decode jdk_42_method_149_code 42 = .ok (.aload 5, 2) := by decide +kernel
theorem d2_44 : decode jdk_42_method_149_code 44 = .ok (.iload_n 3, 1) := by decide +kernel
theorem d2_45 : decode jdk_42_method_149_code 45 = .ok (.invokestatic 47, 3) := by decide +kernel
theorem d6_0 : decode jdk_52_method_15_code 0 = .ok (.iload_n 1, 1) := by decide +kernel
theorem d6_1 : decode jdk_52_method_15_code 1 = .ok (.aload_n 0, 1) := by decide +kernel
theorem d6_2 : decode jdk_52_method_15_code 2 = .ok (.arraylength, 1) := by decide +kernel
theorem d6_3 : decode jdk_52_method_15_code 3 = .ok (.isub, 1) := by decide +kernel
theorem d6_4 : decode jdk_52_method_15_code 4 = .ok (.bipush 31, 2) := by decide +kernel
theorem d6_6 : decode jdk_52_method_15_code 6 = .ok (.iushr, 1) := by decide +kernel
theorem d6_7 : decode jdk_52_method_15_code 7 = .ok (.i2b, 1) := by decide +kernel
theorem d6_8 : decode jdk_52_method_15_code 8 = .ok (.ireturn, 1) := by decide +kernel
theorem pd3 : parseMethodDescriptor "([BI)B" = some ⟨[(.array .byte), .int], some .byte⟩ := by decide +kernel
theorem d2_48 : decode jdk_42_method_149_code 48 = .ok (.putfield 15, 3) := by decide +kernel
theorem d2_51 : decode jdk_42_method_149_code 51 = .ok (.aload_n 0, 1) := by decide +kernel
theorem d2_52 : decode jdk_42_method_149_code 52 = .ok (.aload 5, 2) := by decide +kernel
theorem d2_54 : decode jdk_42_method_149_code 54 = .ok (.putfield 9, 3) := by decide +kernel
theorem d2_57 : decode jdk_42_method_149_code 57 = .ok (.return_, 1) := by decide +kernel
theorem pn4 : plainName "java/lang/String" = true := by first | (simp [plainName, overriddenIn]; done) | decide +kernel
theorem pd5 : parseMethodDescriptor "([CIILjava/lang/Void;)V" = some ⟨[(.array .char), .int, .int, (.object "java/lang/Void")], none⟩ := by decide +kernel
theorem d1_9 : decode jdk_42_method_3_code 9 = .ok (.return_, 1) := by decide +kernel
theorem pd6 : parseMethodDescriptor "([C)V" = some ⟨[(.array .char)], none⟩ := by decide +kernel
theorem d7_0 : decode prog_51_method_1_code 0 = .ok (.aload_n 0, 1) := by decide +kernel
theorem d7_1 : decode prog_51_method_1_code 1 = .ok (.invokespecial 1, 3) := by decide +kernel
theorem d7_4 : decode prog_51_method_1_code 4 = .ok (.return_, 1) := by decide +kernel
theorem pn7 : plainName "com/example/fieldnote/fieldnote/text/TextSyntax$Entry" = true := by first | (simp [plainName, overriddenIn]; done) | decide +kernel
theorem pd8 : parseMethodDescriptor "()V" = some ⟨[], none⟩ := by decide +kernel
theorem d8_0 : decode prog_51_method_2_code 0 = .ok (.aload_n 0, 1) := by decide +kernel
theorem d8_1 : decode prog_51_method_2_code 1 = .ok (.aload_n 1, 1) := by decide +kernel
theorem d8_2 : decode prog_51_method_2_code 2 = .ok (.putfield 7, 3) := by decide +kernel
theorem d8_5 : decode prog_51_method_2_code 5 = .ok (.aload_n 0, 1) := by decide +kernel
theorem d8_6 : decode prog_51_method_2_code 6 = .ok (.iload_n 2, 1) := by decide +kernel
theorem d8_7 : decode prog_51_method_2_code 7 = .ok (.putfield 13, 3) := by decide +kernel
theorem d8_10 : decode prog_51_method_2_code 10 = .ok (.aload_n 0, 1) := by decide +kernel
theorem d8_11 : decode prog_51_method_2_code 11 = .ok (.aload_n 3, 1) := by decide +kernel
theorem d8_12 : decode prog_51_method_2_code 12 = .ok (.putfield 17, 3) := by decide +kernel
theorem d8_15 : decode prog_51_method_2_code 15 = .ok (.aload_n 0, 1) := by decide +kernel
theorem d8_16 : decode prog_51_method_2_code 16 = .ok (.iload 4, 2) := by decide +kernel
theorem d8_18 : decode prog_51_method_2_code 18 = .ok (.putfield 21, 3) := by decide +kernel
theorem d8_21 : decode prog_51_method_2_code 21 = .ok (.aload_n 0, 1) := by decide +kernel
theorem d8_22 : decode prog_51_method_2_code 22 = .ok (.iload 5, 2) := by decide +kernel
theorem d8_24 : decode prog_51_method_2_code 24 = .ok (.putfield 25, 3) := by decide +kernel
theorem d8_27 : decode prog_51_method_2_code 27 = .ok (.aload_n 0, 1) := by decide +kernel
theorem d8_28 : decode prog_51_method_2_code 28 = .ok (.iload 6, 2) := by decide +kernel
theorem d8_30 : decode prog_51_method_2_code 30 = .ok (.putfield 28, 3) := by decide +kernel
theorem d8_33 : decode prog_51_method_2_code 33 = .ok (.return_, 1) := by decide +kernel
theorem pd9 : parseMethodDescriptor "(Ljava/lang/String;ILcom/example/fieldnote/fieldnote/schema/Field;ZZZ)V" = some ⟨[(.object "java/lang/String"), .int, (.object "com/example/fieldnote/fieldnote/schema/Field"), .boolean, .boolean, .boolean], none⟩ := by decide +kernel
theorem d9_0 : decode prog_51_method_3_code 0 = .ok (.aload_n 0, 1) := by decide +kernel
theorem d9_1 : decode prog_51_method_3_code 1 = .ok (.getfield 7, 3) := by decide +kernel
theorem d9_4 : decode prog_51_method_3_code 4 = .ok (.areturn, 1) := by decide +kernel
theorem pd10 : parseMethodDescriptor "()Ljava/lang/String;" = some ⟨[], some (.object "java/lang/String")⟩ := by decide +kernel
theorem d10_0 : decode prog_51_method_4_code 0 = .ok (.aload_n 0, 1) := by decide +kernel
theorem d10_1 : decode prog_51_method_4_code 1 = .ok (.getfield 13, 3) := by decide +kernel
theorem d10_4 : decode prog_51_method_4_code 4 = .ok (.ireturn, 1) := by decide +kernel
theorem pd11 : parseMethodDescriptor "()I" = some ⟨[], some .int⟩ := by decide +kernel
theorem d11_0 : decode prog_51_method_5_code 0 = .ok (.aload_n 0, 1) := by decide +kernel
theorem d11_1 : decode prog_51_method_5_code 1 = .ok (.getfield 17, 3) := by decide +kernel
theorem d11_4 : decode prog_51_method_5_code 4 = .ok (.areturn, 1) := by decide +kernel
theorem pd12 : parseMethodDescriptor "()Lcom/example/fieldnote/fieldnote/schema/Field;" = some ⟨[], some (.object "com/example/fieldnote/fieldnote/schema/Field")⟩ := by decide +kernel
theorem d12_0 : decode prog_51_method_6_code 0 = .ok (.aload_n 0, 1) := by decide +kernel
theorem d12_1 : decode prog_51_method_6_code 1 = .ok (.getfield 21, 3) := by decide +kernel
theorem d12_4 : decode prog_51_method_6_code 4 = .ok (.ireturn, 1) := by decide +kernel
theorem pd13 : parseMethodDescriptor "()Z" = some ⟨[], some .boolean⟩ := by decide +kernel
theorem d13_0 : decode prog_51_method_7_code 0 = .ok (.aload_n 0, 1) := by decide +kernel
theorem d13_1 : decode prog_51_method_7_code 1 = .ok (.getfield 25, 3) := by decide +kernel
theorem d13_4 : decode prog_51_method_7_code 4 = .ok (.ireturn, 1) := by decide +kernel
theorem d14_0 : decode prog_51_method_8_code 0 = .ok (.aload_n 0, 1) := by decide +kernel
theorem d14_1 : decode prog_51_method_8_code 1 = .ok (.getfield 28, 3) := by decide +kernel
theorem d14_4 : decode prog_51_method_8_code 4 = .ok (.ireturn, 1) := by decide +kernel
theorem pn14 : plainName "com/example/fieldnote/fieldnote/text/EntrySetPinLaw" = true := by first | (simp [plainName, overriddenIn]; done) | decide +kernel
set_option maxRecDepth 65536 in
set_option maxHeartbeats 40000000 in
theorem rm5_0 (l : Launch) (Z : State) (a0 : Array Value) (hw : ∀ d ∈ tables_1, d.before a0 Z = true) (hS : ∀ d ∈ jdkStatics_1, d.before a0 Z = true) (ws : List Jvm.Cond) (px1 : Addr) (px2 : Addr) (pi1 : Int32) (pi2 : Int32) (k4_ : ClassId) (k5_ : ClassId) (h0 : Heap) (n0 : Nat) (O0 : Old Z n0 h0) (P0 : Arv Z h0 px1 k4_ .char (2 : Int32) [(.int pi1), (.int pi2)] (.int (0 : Int32))) (P1 : Arv Z h0 px2 k5_ .byte (2 : Int32) [(.int (0 : Int32)), (.int (0 : Int32))] (.int (0 : Int32))) (G3 : n0 ≤ px2) (M4 : px1 ≠ px2) (H6 : ¬ ((255 : Int32) < pi1)) (H8 : ¬ ((255 : Int32) < pi2)) :
    own_Met l Z (⟨"java/lang/StringUTF16", "compress", "([CI[BII)I"⟩ : MethodName) (Jvm.Cond.code (⟨"java/lang/StringUTF16", "compress", "([CI[BII)I"⟩ : MethodName) jdk_52_method_21_code 7 (some .int)) ws ({ frames := 0, cells := 0, slots := 0, locals := 0 } : Room) #[(.ref px1), (.int (0 : Int32)), (.ref px2), (.int (0 : Int32)), (.int (2 : Int32))] h0 (fun v h L => (v = some (.int (2 : Int32)) ∧ Fr n0 L ∧ Keep h0 h [px2] ∧ Arv Z h px2 k5_ .byte (2 : Int32) [(.int (nar .byte (pi1.toInt8.toInt32))), (.int (nar .byte (pi2.toInt8.toInt32)))] (.int (0 : Int32)))) := by
  refine own_met (own := "java/lang/StringUTF16") (plainFor_of_name pn0) rfl ?_
  intro p e s m below meth c s₁ hx hby hml hown hnm hret hlk hZ e0 X0
  refine own_cast (g' := (mkF m 0 #[.val (.ref px1), .val (.int (0 : Int32)), .val (.ref px2), .val (.int (0 : Int32)), .val (.int (2 : Int32)), .unset, .unset] [])) (by first | (simp [entryFrame, mkF, argsToLocals, Value.category]; done) | rfl) ?_
  refine own_step (fun _ k => XS.iconst X0.here hx rfl (hb hby d5_0) k) ?_
  show own_Wp p e below _ s₁ (mkF m 1 #[.val (.ref px1), .val (.int (0 : Int32)), .val (.ref px2), .val (.int (0 : Int32)), .val (.int (2 : Int32)), .unset, .unset] [(.int (0 : Int32))])
  refine own_step (fun _ k => XS.istore X0.here hx rfl (hb hby d5_1) rfl (l' := #[.val (.ref px1), .val (.int (0 : Int32)), .val (.ref px2), .val (.int (0 : Int32)), .val (.int (2 : Int32)), .val (.int (0 : Int32)), .unset]) rfl k) ?_
  show own_Wp p e below _ s₁ (mkF m 3 #[.val (.ref px1), .val (.int (0 : Int32)), .val (.ref px2), .val (.int (0 : Int32)), .val (.int (2 : Int32)), .val (.int (0 : Int32)), .unset] [])
  refine own_step (fun _ k => XS.iload X0.here hx rfl (hb hby d5_3) rfl k) ?_
  show own_Wp p e below _ s₁ (mkF m 5 #[.val (.ref px1), .val (.int (0 : Int32)), .val (.ref px2), .val (.int (0 : Int32)), .val (.int (2 : Int32)), .val (.int (0 : Int32)), .unset] [(.int (0 : Int32))])
  refine own_step (fun _ k => XS.iload X0.here hx rfl (hb hby d5_5) rfl k) ?_
  show own_Wp p e below _ s₁ (mkF m 7 #[.val (.ref px1), .val (.int (0 : Int32)), .val (.ref px2), .val (.int (0 : Int32)), .val (.int (2 : Int32)), .val (.int (0 : Int32)), .unset] [(.int (2 : Int32)), (.int (0 : Int32))])
  refine own_step (fun _ k => XS.icmpNo X0.here hx rfl (hb hby d5_7) rfl (by decide) k) ?_
  show own_Wp p e below _ s₁ (mkF m 10 #[.val (.ref px1), .val (.int (0 : Int32)), .val (.ref px2), .val (.int (0 : Int32)), .val (.int (2 : Int32)), .val (.int (0 : Int32)), .unset] [])
  refine own_step (fun _ k => XS.aloadN X0.here hx rfl (hb hby d5_10) rfl rfl k) ?_
  show own_Wp p e below _ s₁ (mkF m 11 #[.val (.ref px1), .val (.int (0 : Int32)), .val (.ref px2), .val (.int (0 : Int32)), .val (.int (2 : Int32)), .val (.int (0 : Int32)), .unset] [(.ref px1)])
  refine own_step (fun _ k => XS.iloadN X0.here hx rfl (hb hby d5_11) rfl k) ?_
  show own_Wp p e below _ s₁ (mkF m 12 #[.val (.ref px1), .val (.int (0 : Int32)), .val (.ref px2), .val (.int (0 : Int32)), .val (.int (2 : Int32)), .val (.int (0 : Int32)), .unset] [(.int (0 : Int32)), (.ref px1)])
  obtain ⟨c1, r1, q1, t1, u1, y1h, y1g⟩ := id P0
  have i1 : ¬ ((0 : Int32) < 0 ∨ c1.slots.size ≤ ((0 : Int32)).toNatClampNeg) := inb_of t1 ⟨by decide, by decide⟩
  refine own_step (fun _ k => X0.caload hx (j := (0 : Int32)) (v := (.int pi1)) (by rw [e0]; exact r1.1) (State.isArrayOf_alike hZ.alike r1.2.1) r1.2.2 i1 (own_get t1 y1h i1 0 rfl) (g := (mkF m 12 #[.val (.ref px1), .val (.int (0 : Int32)), .val (.ref px2), .val (.int (0 : Int32)), .val (.int (2 : Int32)), .val (.int (0 : Int32)), .unset] [(.int (0 : Int32)), (.ref px1)])) rfl rfl (hb hby d5_12) _ k) ?_
  show own_Wp p e below _ s₁ (mkF m 13 #[.val (.ref px1), .val (.int (0 : Int32)), .val (.ref px2), .val (.int (0 : Int32)), .val (.int (2 : Int32)), .val (.int (0 : Int32)), .unset] [(.int pi1)])
  refine own_step (fun _ k => XS.istore X0.here hx rfl (hb hby d5_13) rfl (l' := #[.val (.ref px1), .val (.int (0 : Int32)), .val (.ref px2), .val (.int (0 : Int32)), .val (.int (2 : Int32)), .val (.int (0 : Int32)), .val (.int pi1)]) rfl k) ?_
  show own_Wp p e below _ s₁ (mkF m 15 #[.val (.ref px1), .val (.int (0 : Int32)), .val (.ref px2), .val (.int (0 : Int32)), .val (.int (2 : Int32)), .val (.int (0 : Int32)), .val (.int pi1)] [])
  refine own_step (fun _ k => XS.iload X0.here hx rfl (hb hby d5_15) rfl k) ?_
  show own_Wp p e below _ s₁ (mkF m 17 #[.val (.ref px1), .val (.int (0 : Int32)), .val (.ref px2), .val (.int (0 : Int32)), .val (.int (2 : Int32)), .val (.int (0 : Int32)), .val (.int pi1)] [(.int pi1)])
  refine own_step (fun _ k => XS.sipush X0.here hx rfl (hb hby d5_17) k) ?_
  show own_Wp p e below _ s₁ (mkF m 20 #[.val (.ref px1), .val (.int (0 : Int32)), .val (.ref px2), .val (.int (0 : Int32)), .val (.int (2 : Int32)), .val (.int (0 : Int32)), .val (.int pi1)] [(.int (255 : Int32)), (.int pi1)])
  refine own_step (fun _ k => XS.icmpYes X0.here hx rfl (pc0 := 20) (pc' := 26) rfl (hb hby d5_20) rfl (flt H6).2.2.2 (by decide) (by decide) k) ?_
  show own_Wp p e below _ s₁ (mkF m 26 #[.val (.ref px1), .val (.int (0 : Int32)), .val (.ref px2), .val (.int (0 : Int32)), .val (.int (2 : Int32)), .val (.int (0 : Int32)), .val (.int pi1)] [])
  refine own_step (fun _ k => XS.aloadN X0.here hx rfl (hb hby d5_26) rfl rfl k) ?_
  show own_Wp p e below _ s₁ (mkF m 27 #[.val (.ref px1), .val (.int (0 : Int32)), .val (.ref px2), .val (.int (0 : Int32)), .val (.int (2 : Int32)), .val (.int (0 : Int32)), .val (.int pi1)] [(.ref px2)])
  refine own_step (fun _ k => XS.iloadN X0.here hx rfl (hb hby d5_27) rfl k) ?_
  show own_Wp p e below _ s₁ (mkF m 28 #[.val (.ref px1), .val (.int (0 : Int32)), .val (.ref px2), .val (.int (0 : Int32)), .val (.int (2 : Int32)), .val (.int (0 : Int32)), .val (.int pi1)] [(.int (0 : Int32)), (.ref px2)])
  refine own_step (fun _ k => XS.iload X0.here hx rfl (hb hby d5_28) rfl k) ?_
  show own_Wp p e below _ s₁ (mkF m 30 #[.val (.ref px1), .val (.int (0 : Int32)), .val (.ref px2), .val (.int (0 : Int32)), .val (.int (2 : Int32)), .val (.int (0 : Int32)), .val (.int pi1)] [(.int pi1), (.int (0 : Int32)), (.ref px2)])
  refine own_step (fun _ k => XS.i2b X0.here hx rfl (hb hby d5_30) rfl k) ?_
  show own_Wp p e below _ s₁ (mkF m 31 #[.val (.ref px1), .val (.int (0 : Int32)), .val (.ref px2), .val (.int (0 : Int32)), .val (.int (2 : Int32)), .val (.int (0 : Int32)), .val (.int pi1)] [(.int (pi1.toInt8.toInt32)), (.int (0 : Int32)), (.ref px2)])
  obtain ⟨c2, r2, q2, t2, u2, y2h, y2g⟩ := id P1
  have i2 : ¬ ((0 : Int32) < 0 ∨ c2.slots.size ≤ ((0 : Int32)).toNatClampNeg) := inb_of t2 ⟨by decide, by decide⟩
  obtain ⟨T2, h2, X2, e2, W2, st2⟩ := stB X0 hx hZ e0 r2 (j := (0 : Int32)) i2 (g := (mkF m 31 #[.val (.ref px1), .val (.int (0 : Int32)), .val (.ref px2), .val (.int (0 : Int32)), .val (.int (2 : Int32)), .val (.int (0 : Int32)), .val (.int pi1)] [(.int (pi1.toInt8.toInt32)), (.int (0 : Int32)), (.ref px2)])) rfl rfl (hb hby d5_31)
  refine own_step st2 ?_
  have N2 := Fr.snoc X2 (Fr.nil n0) G3
  have O2 := O0.wr W2 G3
  have K2 : Keep h0 h2 [px2] := (Keep.refl h0 [px2]).wr W2 (Or.inl (by simp))
  have V2 : Arv Z h2 px2 k5_ .byte (2 : Int32) [(.int (nar .byte (pi1.toInt8.toInt32))), (.int (0 : Int32))] (.int (0 : Int32)) := Arv.set r2 q2 t2 u2 y2h y2g (fits_nar_byte _) W2 0 rfl (Nat.le_of_ble_eq_true rfl)
  show own_Wp p e below _ T2 (mkF m 32 #[.val (.ref px1), .val (.int (0 : Int32)), .val (.ref px2), .val (.int (0 : Int32)), .val (.int (2 : Int32)), .val (.int (0 : Int32)), .val (.int pi1)] [])
  refine own_step (fun _ k => XS.iinc X2.here hx rfl (hb hby d5_32) rfl (l' := #[.val (.ref px1), .val (.int ((0 : Int32) + (1 : Int32))), .val (.ref px2), .val (.int (0 : Int32)), .val (.int (2 : Int32)), .val (.int (0 : Int32)), .val (.int pi1)]) rfl k) ?_
  show own_Wp p e below _ T2 (mkF m 35 #[.val (.ref px1), .val (.int ((0 : Int32) + (1 : Int32))), .val (.ref px2), .val (.int (0 : Int32)), .val (.int (2 : Int32)), .val (.int (0 : Int32)), .val (.int pi1)] [])
  rw [(by decide : ((0 : Int32) + (1 : Int32)) = (1 : Int32))]
  show own_Wp p e below _ T2 (mkF m 35 #[.val (.ref px1), .val (.int (1 : Int32)), .val (.ref px2), .val (.int (0 : Int32)), .val (.int (2 : Int32)), .val (.int (0 : Int32)), .val (.int pi1)] [])
  refine own_step (fun _ k => XS.iinc X2.here hx rfl (hb hby d5_35) rfl (l' := #[.val (.ref px1), .val (.int (1 : Int32)), .val (.ref px2), .val (.int ((0 : Int32) + (1 : Int32))), .val (.int (2 : Int32)), .val (.int (0 : Int32)), .val (.int pi1)]) rfl k) ?_
  show own_Wp p e below _ T2 (mkF m 38 #[.val (.ref px1), .val (.int (1 : Int32)), .val (.ref px2), .val (.int ((0 : Int32) + (1 : Int32))), .val (.int (2 : Int32)), .val (.int (0 : Int32)), .val (.int pi1)] [])
  rw [(by decide : ((0 : Int32) + (1 : Int32)) = (1 : Int32))]
  show own_Wp p e below _ T2 (mkF m 38 #[.val (.ref px1), .val (.int (1 : Int32)), .val (.ref px2), .val (.int (1 : Int32)), .val (.int (2 : Int32)), .val (.int (0 : Int32)), .val (.int pi1)] [])
  refine own_step (fun _ k => XS.iinc X2.here hx rfl (hb hby d5_38) rfl (l' := #[.val (.ref px1), .val (.int (1 : Int32)), .val (.ref px2), .val (.int (1 : Int32)), .val (.int (2 : Int32)), .val (.int ((0 : Int32) + (1 : Int32))), .val (.int pi1)]) rfl k) ?_
  show own_Wp p e below _ T2 (mkF m 41 #[.val (.ref px1), .val (.int (1 : Int32)), .val (.ref px2), .val (.int (1 : Int32)), .val (.int (2 : Int32)), .val (.int ((0 : Int32) + (1 : Int32))), .val (.int pi1)] [])
  rw [(by decide : ((0 : Int32) + (1 : Int32)) = (1 : Int32))]
  show own_Wp p e below _ T2 (mkF m 41 #[.val (.ref px1), .val (.int (1 : Int32)), .val (.ref px2), .val (.int (1 : Int32)), .val (.int (2 : Int32)), .val (.int (1 : Int32)), .val (.int pi1)] [])
  refine own_step (fun _ k => XS.goto X2.here hx rfl (pc0 := 41) (pc' := 3) rfl (hb hby d5_41) (by decide) (by decide) k) ?_
  show own_Wp p e below _ T2 (mkF m 3 #[.val (.ref px1), .val (.int (1 : Int32)), .val (.ref px2), .val (.int (1 : Int32)), .val (.int (2 : Int32)), .val (.int (1 : Int32)), .val (.int pi1)] [])
  refine own_step (fun _ k => XS.iload X2.here hx rfl (hb hby d5_3) rfl k) ?_
  show own_Wp p e below _ T2 (mkF m 5 #[.val (.ref px1), .val (.int (1 : Int32)), .val (.ref px2), .val (.int (1 : Int32)), .val (.int (2 : Int32)), .val (.int (1 : Int32)), .val (.int pi1)] [(.int (1 : Int32))])
  refine own_step (fun _ k => XS.iload X2.here hx rfl (hb hby d5_5) rfl k) ?_
  show own_Wp p e below _ T2 (mkF m 7 #[.val (.ref px1), .val (.int (1 : Int32)), .val (.ref px2), .val (.int (1 : Int32)), .val (.int (2 : Int32)), .val (.int (1 : Int32)), .val (.int pi1)] [(.int (2 : Int32)), (.int (1 : Int32))])
  refine own_step (fun _ k => XS.icmpNo X2.here hx rfl (hb hby d5_7) rfl (by decide) k) ?_
  show own_Wp p e below _ T2 (mkF m 10 #[.val (.ref px1), .val (.int (1 : Int32)), .val (.ref px2), .val (.int (1 : Int32)), .val (.int (2 : Int32)), .val (.int (1 : Int32)), .val (.int pi1)] [])
  refine own_step (fun _ k => XS.aloadN X2.here hx rfl (hb hby d5_10) rfl rfl k) ?_
  show own_Wp p e below _ T2 (mkF m 11 #[.val (.ref px1), .val (.int (1 : Int32)), .val (.ref px2), .val (.int (1 : Int32)), .val (.int (2 : Int32)), .val (.int (1 : Int32)), .val (.int pi1)] [(.ref px1)])
  refine own_step (fun _ k => XS.iloadN X2.here hx rfl (hb hby d5_11) rfl k) ?_
  show own_Wp p e below _ T2 (mkF m 12 #[.val (.ref px1), .val (.int (1 : Int32)), .val (.ref px2), .val (.int (1 : Int32)), .val (.int (2 : Int32)), .val (.int (1 : Int32)), .val (.int pi1)] [(.int (1 : Int32)), (.ref px1)])
  have f3 := (P0.other W2 M4)
  obtain ⟨c4, r4, q4, t4, u4, y4h, y4g⟩ := id f3
  have i4 : ¬ ((1 : Int32) < 0 ∨ c4.slots.size ≤ ((1 : Int32)).toNatClampNeg) := inb_of t4 ⟨by decide, by decide⟩
  refine own_step (fun _ k => X2.caload hx (j := (1 : Int32)) (v := (.int pi2)) (by rw [e2]; exact r4.1) (State.isArrayOf_alike hZ.alike r4.2.1) r4.2.2 i4 (own_get t4 y4h i4 1 rfl) (g := (mkF m 12 #[.val (.ref px1), .val (.int (1 : Int32)), .val (.ref px2), .val (.int (1 : Int32)), .val (.int (2 : Int32)), .val (.int (1 : Int32)), .val (.int pi1)] [(.int (1 : Int32)), (.ref px1)])) rfl rfl (hb hby d5_12) _ k) ?_
  show own_Wp p e below _ T2 (mkF m 13 #[.val (.ref px1), .val (.int (1 : Int32)), .val (.ref px2), .val (.int (1 : Int32)), .val (.int (2 : Int32)), .val (.int (1 : Int32)), .val (.int pi1)] [(.int pi2)])
  refine own_step (fun _ k => XS.istore X2.here hx rfl (hb hby d5_13) rfl (l' := #[.val (.ref px1), .val (.int (1 : Int32)), .val (.ref px2), .val (.int (1 : Int32)), .val (.int (2 : Int32)), .val (.int (1 : Int32)), .val (.int pi2)]) rfl k) ?_
  show own_Wp p e below _ T2 (mkF m 15 #[.val (.ref px1), .val (.int (1 : Int32)), .val (.ref px2), .val (.int (1 : Int32)), .val (.int (2 : Int32)), .val (.int (1 : Int32)), .val (.int pi2)] [])
  refine own_step (fun _ k => XS.iload X2.here hx rfl (hb hby d5_15) rfl k) ?_
  show own_Wp p e below _ T2 (mkF m 17 #[.val (.ref px1), .val (.int (1 : Int32)), .val (.ref px2), .val (.int (1 : Int32)), .val (.int (2 : Int32)), .val (.int (1 : Int32)), .val (.int pi2)] [(.int pi2)])
  refine own_step (fun _ k => XS.sipush X2.here hx rfl (hb hby d5_17) k) ?_
  show own_Wp p e below _ T2 (mkF m 20 #[.val (.ref px1), .val (.int (1 : Int32)), .val (.ref px2), .val (.int (1 : Int32)), .val (.int (2 : Int32)), .val (.int (1 : Int32)), .val (.int pi2)] [(.int (255 : Int32)), (.int pi2)])
  refine own_step (fun _ k => XS.icmpYes X2.here hx rfl (pc0 := 20) (pc' := 26) rfl (hb hby d5_20) rfl (flt H8).2.2.2 (by decide) (by decide) k) ?_
  show own_Wp p e below _ T2 (mkF m 26 #[.val (.ref px1), .val (.int (1 : Int32)), .val (.ref px2), .val (.int (1 : Int32)), .val (.int (2 : Int32)), .val (.int (1 : Int32)), .val (.int pi2)] [])
  refine own_step (fun _ k => XS.aloadN X2.here hx rfl (hb hby d5_26) rfl rfl k) ?_
  show own_Wp p e below _ T2 (mkF m 27 #[.val (.ref px1), .val (.int (1 : Int32)), .val (.ref px2), .val (.int (1 : Int32)), .val (.int (2 : Int32)), .val (.int (1 : Int32)), .val (.int pi2)] [(.ref px2)])
  refine own_step (fun _ k => XS.iloadN X2.here hx rfl (hb hby d5_27) rfl k) ?_
  show own_Wp p e below _ T2 (mkF m 28 #[.val (.ref px1), .val (.int (1 : Int32)), .val (.ref px2), .val (.int (1 : Int32)), .val (.int (2 : Int32)), .val (.int (1 : Int32)), .val (.int pi2)] [(.int (1 : Int32)), (.ref px2)])
  refine own_step (fun _ k => XS.iload X2.here hx rfl (hb hby d5_28) rfl k) ?_
  show own_Wp p e below _ T2 (mkF m 30 #[.val (.ref px1), .val (.int (1 : Int32)), .val (.ref px2), .val (.int (1 : Int32)), .val (.int (2 : Int32)), .val (.int (1 : Int32)), .val (.int pi2)] [(.int pi2), (.int (1 : Int32)), (.ref px2)])
  refine own_step (fun _ k => XS.i2b X2.here hx rfl (hb hby d5_30) rfl k) ?_
  show own_Wp p e below _ T2 (mkF m 31 #[.val (.ref px1), .val (.int (1 : Int32)), .val (.ref px2), .val (.int (1 : Int32)), .val (.int (2 : Int32)), .val (.int (1 : Int32)), .val (.int pi2)] [(.int (pi2.toInt8.toInt32)), (.int (1 : Int32)), (.ref px2)])
  obtain ⟨c5, r5, q5, t5, u5, y5h, y5g⟩ := id V2
  have i5 : ¬ ((1 : Int32) < 0 ∨ c5.slots.size ≤ ((1 : Int32)).toNatClampNeg) := inb_of t5 ⟨by decide, by decide⟩
  obtain ⟨T5, h5, X5, e5, W5, st5⟩ := stB X2 hx hZ e2 r5 (j := (1 : Int32)) i5 (g := (mkF m 31 #[.val (.ref px1), .val (.int (1 : Int32)), .val (.ref px2), .val (.int (1 : Int32)), .val (.int (2 : Int32)), .val (.int (1 : Int32)), .val (.int pi2)] [(.int (pi2.toInt8.toInt32)), (.int (1 : Int32)), (.ref px2)])) rfl rfl (hb hby d5_31)
  refine own_step st5 ?_
  have N5 := Fr.snoc X5 N2 G3
  have O5 := O2.wr W5 G3
  have K5 : Keep h0 h5 [px2] := K2.wr W5 (Or.inl (by simp))
  have V5 : Arv Z h5 px2 k5_ .byte (2 : Int32) [(.int (nar .byte (pi1.toInt8.toInt32))), (.int (nar .byte (pi2.toInt8.toInt32)))] (.int (0 : Int32)) := Arv.set r5 q5 t5 u5 y5h y5g (fits_nar_byte _) W5 1 rfl (Nat.le_of_ble_eq_true rfl)
  show own_Wp p e below _ T5 (mkF m 32 #[.val (.ref px1), .val (.int (1 : Int32)), .val (.ref px2), .val (.int (1 : Int32)), .val (.int (2 : Int32)), .val (.int (1 : Int32)), .val (.int pi2)] [])
  refine own_step (fun _ k => XS.iinc X5.here hx rfl (hb hby d5_32) rfl (l' := #[.val (.ref px1), .val (.int ((1 : Int32) + (1 : Int32))), .val (.ref px2), .val (.int (1 : Int32)), .val (.int (2 : Int32)), .val (.int (1 : Int32)), .val (.int pi2)]) rfl k) ?_
  show own_Wp p e below _ T5 (mkF m 35 #[.val (.ref px1), .val (.int ((1 : Int32) + (1 : Int32))), .val (.ref px2), .val (.int (1 : Int32)), .val (.int (2 : Int32)), .val (.int (1 : Int32)), .val (.int pi2)] [])
  rw [(by decide : ((1 : Int32) + (1 : Int32)) = (2 : Int32))]
  show own_Wp p e below _ T5 (mkF m 35 #[.val (.ref px1), .val (.int (2 : Int32)), .val (.ref px2), .val (.int (1 : Int32)), .val (.int (2 : Int32)), .val (.int (1 : Int32)), .val (.int pi2)] [])
  refine own_step (fun _ k => XS.iinc X5.here hx rfl (hb hby d5_35) rfl (l' := #[.val (.ref px1), .val (.int (2 : Int32)), .val (.ref px2), .val (.int ((1 : Int32) + (1 : Int32))), .val (.int (2 : Int32)), .val (.int (1 : Int32)), .val (.int pi2)]) rfl k) ?_
  show own_Wp p e below _ T5 (mkF m 38 #[.val (.ref px1), .val (.int (2 : Int32)), .val (.ref px2), .val (.int ((1 : Int32) + (1 : Int32))), .val (.int (2 : Int32)), .val (.int (1 : Int32)), .val (.int pi2)] [])
  rw [(by decide : ((1 : Int32) + (1 : Int32)) = (2 : Int32))]
  show own_Wp p e below _ T5 (mkF m 38 #[.val (.ref px1), .val (.int (2 : Int32)), .val (.ref px2), .val (.int (2 : Int32)), .val (.int (2 : Int32)), .val (.int (1 : Int32)), .val (.int pi2)] [])
  refine own_step (fun _ k => XS.iinc X5.here hx rfl (hb hby d5_38) rfl (l' := #[.val (.ref px1), .val (.int (2 : Int32)), .val (.ref px2), .val (.int (2 : Int32)), .val (.int (2 : Int32)), .val (.int ((1 : Int32) + (1 : Int32))), .val (.int pi2)]) rfl k) ?_
  show own_Wp p e below _ T5 (mkF m 41 #[.val (.ref px1), .val (.int (2 : Int32)), .val (.ref px2), .val (.int (2 : Int32)), .val (.int (2 : Int32)), .val (.int ((1 : Int32) + (1 : Int32))), .val (.int pi2)] [])
  rw [(by decide : ((1 : Int32) + (1 : Int32)) = (2 : Int32))]
  show own_Wp p e below _ T5 (mkF m 41 #[.val (.ref px1), .val (.int (2 : Int32)), .val (.ref px2), .val (.int (2 : Int32)), .val (.int (2 : Int32)), .val (.int (2 : Int32)), .val (.int pi2)] [])
  refine own_step (fun _ k => XS.goto X5.here hx rfl (pc0 := 41) (pc' := 3) rfl (hb hby d5_41) (by decide) (by decide) k) ?_
  show own_Wp p e below _ T5 (mkF m 3 #[.val (.ref px1), .val (.int (2 : Int32)), .val (.ref px2), .val (.int (2 : Int32)), .val (.int (2 : Int32)), .val (.int (2 : Int32)), .val (.int pi2)] [])
  refine own_step (fun _ k => XS.iload X5.here hx rfl (hb hby d5_3) rfl k) ?_
  show own_Wp p e below _ T5 (mkF m 5 #[.val (.ref px1), .val (.int (2 : Int32)), .val (.ref px2), .val (.int (2 : Int32)), .val (.int (2 : Int32)), .val (.int (2 : Int32)), .val (.int pi2)] [(.int (2 : Int32))])
  refine own_step (fun _ k => XS.iload X5.here hx rfl (hb hby d5_5) rfl k) ?_
  show own_Wp p e below _ T5 (mkF m 7 #[.val (.ref px1), .val (.int (2 : Int32)), .val (.ref px2), .val (.int (2 : Int32)), .val (.int (2 : Int32)), .val (.int (2 : Int32)), .val (.int pi2)] [(.int (2 : Int32)), (.int (2 : Int32))])
  refine own_step (fun _ k => XS.icmpYes X5.here hx rfl (pc0 := 7) (pc' := 44) rfl (hb hby d5_7) rfl (by decide) (by decide) (by decide) k) ?_
  show own_Wp p e below _ T5 (mkF m 44 #[.val (.ref px1), .val (.int (2 : Int32)), .val (.ref px2), .val (.int (2 : Int32)), .val (.int (2 : Int32)), .val (.int (2 : Int32)), .val (.int pi2)] [])
  refine own_step (fun _ k => XS.iload X5.here hx rfl (hb hby d5_44) rfl k) ?_
  show own_Wp p e below _ T5 (mkF m 46 #[.val (.ref px1), .val (.int (2 : Int32)), .val (.ref px2), .val (.int (2 : Int32)), .val (.int (2 : Int32)), .val (.int (2 : Int32)), .val (.int pi2)] [(.int (2 : Int32))])
  exact own_retI X5 hx hret hlk (hb hby d5_46) (by decide) (by decide) (by rw [e5]; exact ⟨rfl, N5, K5, V5⟩)

set_option maxRecDepth 65536 in
set_option maxHeartbeats 40000000 in
theorem rm4_1 (l : Launch) (Z : State) (a0 : Array Value) (hw : ∀ d ∈ tables_1, d.before a0 Z = true) (hS : ∀ d ∈ jdkStatics_1, d.before a0 Z = true) (ws : List Jvm.Cond) (px1 : Addr) (pi1 : Int32) (pi2 : Int32) (k3_ : ClassId) (h0 : Heap) (n0 : Nat) (O0 : Old Z n0 h0) (P0 : Arv Z h0 px1 k3_ .char (2 : Int32) [(.int pi1), (.int pi2)] (.int (0 : Int32))) (H3 : ¬ ((255 : Int32) < pi1)) (H5 : ¬ ((255 : Int32) < pi2)) :
    own_Met l Z (⟨"java/lang/StringUTF16", "compress", "([CII)[B"⟩ : MethodName) (Jvm.Cond.code (⟨"java/lang/StringUTF16", "compress", "([CII)[B"⟩ : MethodName) jdk_52_method_16_code 6 (some (.array .byte))) ws ({ frames := 1, cells := 1, slots := 2, locals := 18 } : Room) #[(.ref px1), (.int (0 : Int32)), (.int (2 : Int32))] h0 (fun v h L => (∃ (b1 : Addr) (k1 : ClassId), v = some (.ref b1) ∧ Fr n0 L ∧ Keep h0 h [] ∧ h0.size ≤ b1 ∧ Arv Z h b1 k1 .byte (2 : Int32) [(.int (nar .byte (pi1.toInt8.toInt32))), (.int (nar .byte (pi2.toInt8.toInt32)))] (.int (0 : Int32)))) := by
  refine own_met (own := "java/lang/StringUTF16") (plainFor_of_name pn0) rfl ?_
  intro p e s m below meth c s₁ hx hby hml hown hnm hret hlk hZ e0 X0
  refine own_cast (g' := (mkF m 0 #[.val (.ref px1), .val (.int (0 : Int32)), .val (.int (2 : Int32)), .unset, .unset, .unset] [])) (by first | (simp [entryFrame, mkF, argsToLocals, Value.category]; done) | rfl) ?_
  refine own_step (fun _ k => XS.iloadN X0.here hx rfl (hb hby d4_0) rfl k) ?_
  show own_Wp p e below _ s₁ (mkF m 1 #[.val (.ref px1), .val (.int (0 : Int32)), .val (.int (2 : Int32)), .unset, .unset, .unset] [(.int (2 : Int32))])
  obtain ⟨T1, h1, k1, X1, e1, E1, A1, st1⟩ := newP X0 hx hZ (hw _ (List.mem_of_getElem? (i := 19) rfl)) e0 (g := (mkF m 1 #[.val (.ref px1), .val (.int (0 : Int32)), .val (.int (2 : Int32)), .unset, .unset, .unset] [(.int (2 : Int32))])) rfl (hb hby d4_1) rfl (by decide) (cap := 2) (by decide) (by decide) (by decide) (by decide)
  obtain ⟨b1, z1⟩ : ∃ z, z = h0.size := ⟨_, rfl⟩
  rw [← z1] at A1 st1
  refine own_step st1 ?_
  have g1 : n0 ≤ b1 := Nat.le_trans (O0.1 ▸ O0.2.1) (Nat.le_of_eq z1.symm)
  have ne1_0 : px1 ≠ b1 := Nat.ne_of_lt (Nat.lt_of_lt_of_le P0.lt (Nat.le_of_eq z1.symm))
  have y1 : h0.size ≤ b1 := Nat.le_trans (Nat.le_refl _) (Nat.le_of_eq z1.symm)
  have O1 := O0.ext E1
  have K1 : Keep h0 h1 [] := (Keep.refl h0 []).ext E1
  have V1 : Arv Z h1 b1 k1 .byte (2 : Int32) [(.int (0 : Int32)), (.int (0 : Int32))] (.int (0 : Int32)) := (Arv.new A1 (by decide)).pad (pad_rep [] (.int (0 : Int32)) 2)
  show own_Wp p e below _ T1 (mkF m 3 #[.val (.ref px1), .val (.int (0 : Int32)), .val (.int (2 : Int32)), .unset, .unset, .unset] [(.ref b1)])
  refine own_step (fun _ k => XS.astoreN X1.here hx rfl (hb hby d4_3) rfl rfl (l' := #[.val (.ref px1), .val (.int (0 : Int32)), .val (.int (2 : Int32)), .val (.ref b1), .unset, .unset]) rfl k) ?_
  show own_Wp p e below _ T1 (mkF m 4 #[.val (.ref px1), .val (.int (0 : Int32)), .val (.int (2 : Int32)), .val (.ref b1), .unset, .unset] [])
  refine own_step (fun _ k => XS.aloadN X1.here hx rfl (hb hby d4_4) rfl rfl k) ?_
  show own_Wp p e below _ T1 (mkF m 5 #[.val (.ref px1), .val (.int (0 : Int32)), .val (.int (2 : Int32)), .val (.ref b1), .unset, .unset] [(.ref px1)])
  refine own_step (fun _ k => XS.iloadN X1.here hx rfl (hb hby d4_5) rfl k) ?_
  show own_Wp p e below _ T1 (mkF m 6 #[.val (.ref px1), .val (.int (0 : Int32)), .val (.int (2 : Int32)), .val (.ref b1), .unset, .unset] [(.int (0 : Int32)), (.ref px1)])
  refine own_step (fun _ k => XS.aloadN X1.here hx rfl (hb hby d4_6) rfl rfl k) ?_
  show own_Wp p e below _ T1 (mkF m 7 #[.val (.ref px1), .val (.int (0 : Int32)), .val (.int (2 : Int32)), .val (.ref b1), .unset, .unset] [(.ref b1), (.int (0 : Int32)), (.ref px1)])
  refine own_step (fun _ k => XS.iconst X1.here hx rfl (hb hby d4_7) k) ?_
  show own_Wp p e below _ T1 (mkF m 8 #[.val (.ref px1), .val (.int (0 : Int32)), .val (.int (2 : Int32)), .val (.ref b1), .unset, .unset] [(.int (0 : Int32)), (.ref b1), (.int (0 : Int32)), (.ref px1)])
  refine own_step (fun _ k => XS.iloadN X1.here hx rfl (hb hby d4_8) rfl k) ?_
  show own_Wp p e below _ T1 (mkF m 9 #[.val (.ref px1), .val (.int (0 : Int32)), .val (.int (2 : Int32)), .val (.ref b1), .unset, .unset] [(.int (2 : Int32)), (.int (0 : Int32)), (.ref b1), (.int (0 : Int32)), (.ref px1)])
  have f2 := (P0.ext E1)
  obtain ⟨_, T3, L3, X3, hQ3, st3⟩ := own_callS X1 hx hZ hown (hw _ (List.mem_of_getElem? (i := 20) rfl)) (hw _ (List.mem_of_getElem? (i := 21) rfl)) (hw _ (List.mem_of_getElem? (i := 17) rfl)) (hw _ (List.mem_of_getElem? (i := 22) rfl)) (by decide) (rm5_0 l Z a0 hw hS [] px1 b1 pi1 pi2 k3_ k1 h1 n0 O1 f2 V1 g1 ne1_0 H3 H5) (W := 0) (by decide) (by decide) [(.ref px1), (.int (0 : Int32)), (.ref b1), (.int (0 : Int32)), (.int (2 : Int32))] rfl (lenOf pd1 rfl) (Ls := #[.val (.ref px1), .val (.int (0 : Int32)), .val (.int (2 : Int32)), .val (.ref b1), .unset, .unset]) (by rw [hml]; rfl) (rest := []) (Nat.le_of_eq rfl) (hb hby d4_9) e1 (by decide) (by decide)
  refine st3 _ ?_
  obtain ⟨rfl, N3q, K3q, F3_0⟩ := hQ3
  have N3 := Fr.app (Fr.nil n0) N3q
  have O3 := O1.keep K3q (allS g1 all0)
  have K3 : Keep h0 T3.heap [] := Keep.trans K1 K3q (allS (Or.inr y1) all0)
  show own_Wp p e below _ T3 (mkF m 12 #[.val (.ref px1), .val (.int (0 : Int32)), .val (.int (2 : Int32)), .val (.ref b1), .unset, .unset] [(.int (2 : Int32))])
  refine own_step (fun _ k => XS.istore X3.here hx rfl (hb hby d4_12) rfl (l' := #[.val (.ref px1), .val (.int (0 : Int32)), .val (.int (2 : Int32)), .val (.ref b1), .val (.int (2 : Int32)), .unset]) rfl k) ?_
  show own_Wp p e below _ T3 (mkF m 14 #[.val (.ref px1), .val (.int (0 : Int32)), .val (.int (2 : Int32)), .val (.ref b1), .val (.int (2 : Int32)), .unset] [])
  refine own_step (fun _ k => XS.iload X3.here hx rfl (hb hby d4_14) rfl k) ?_
  show own_Wp p e below _ T3 (mkF m 16 #[.val (.ref px1), .val (.int (0 : Int32)), .val (.int (2 : Int32)), .val (.ref b1), .val (.int (2 : Int32)), .unset] [(.int (2 : Int32))])
  refine own_step (fun _ k => XS.iloadN X3.here hx rfl (hb hby d4_16) rfl k) ?_
  show own_Wp p e below _ T3 (mkF m 17 #[.val (.ref px1), .val (.int (0 : Int32)), .val (.int (2 : Int32)), .val (.ref b1), .val (.int (2 : Int32)), .unset] [(.int (2 : Int32)), (.int (2 : Int32))])
  refine own_step (fun _ k => XS.icmpYes X3.here hx rfl (pc0 := 17) (pc' := 57) rfl (hb hby d4_17) rfl (by decide) (by decide) (by decide) k) ?_
  show own_Wp p e below _ T3 (mkF m 57 #[.val (.ref px1), .val (.int (0 : Int32)), .val (.int (2 : Int32)), .val (.ref b1), .val (.int (2 : Int32)), .unset] [])
  refine own_step (fun _ k => XS.aloadN X3.here hx rfl (hb hby d4_57) rfl rfl k) ?_
  show own_Wp p e below _ T3 (mkF m 58 #[.val (.ref px1), .val (.int (0 : Int32)), .val (.int (2 : Int32)), .val (.ref b1), .val (.int (2 : Int32)), .unset] [(.ref b1)])
  exact own_retA X3 hx hret rfl rfl hlk (hb hby d4_58) (by decide) (by decide) (⟨b1, k1, rfl, N3, K3, y1, F3_0⟩)

set_option maxRecDepth 65536 in
set_option maxHeartbeats 40000000 in
theorem rm6_2 (l : Launch) (Z : State) (a0 : Array Value) (hw : ∀ d ∈ tables_1, d.before a0 Z = true) (hS : ∀ d ∈ jdkStatics_1, d.before a0 Z = true) (ws : List Jvm.Cond) (px1 : Addr) (pi1 : Int32) (pi2 : Int32) (k3_ : ClassId) (h0 : Heap) (n0 : Nat) (O0 : Old Z n0 h0) (P0 : Arv Z h0 px1 k3_ .byte (2 : Int32) [(.int pi1), (.int pi2)] (.int (0 : Int32))) :
    own_Met l Z (⟨"java/lang/StringUTF16", "coderFromArrayLen", "([BI)B"⟩ : MethodName) (Jvm.Cond.code (⟨"java/lang/StringUTF16", "coderFromArrayLen", "([BI)B"⟩ : MethodName) jdk_52_method_15_code 2 (some .byte)) ws ({ frames := 0, cells := 0, slots := 0, locals := 0 } : Room) #[(.ref px1), (.int (2 : Int32))] h0 (fun v h L => (v = some (.int (0 : Int32)) ∧ Fr n0 L ∧ h = h0)) := by
  refine own_met (own := "java/lang/StringUTF16") (plainFor_of_name pn0) rfl ?_
  intro p e s m below meth c s₁ hx hby hml hown hnm hret hlk hZ e0 X0
  refine own_cast (g' := (mkF m 0 #[.val (.ref px1), .val (.int (2 : Int32))] [])) (by first | (simp [entryFrame, mkF, argsToLocals, Value.category]; done) | rfl) ?_
  refine own_step (fun _ k => XS.iloadN X0.here hx rfl (hb hby d6_0) rfl k) ?_
  show own_Wp p e below _ s₁ (mkF m 1 #[.val (.ref px1), .val (.int (2 : Int32))] [(.int (2 : Int32))])
  refine own_step (fun _ k => XS.aloadN X0.here hx rfl (hb hby d6_1) rfl rfl k) ?_
  show own_Wp p e below _ s₁ (mkF m 2 #[.val (.ref px1), .val (.int (2 : Int32))] [(.ref px1), (.int (2 : Int32))])
  obtain ⟨c1, r1, q1, t1, u1, y1h, y1g⟩ := id P0
  refine own_step (fun _ k => X0.arraylength hx (by rw [e0]; exact r1.1) (State.isArrayOf_alike hZ.alike r1.2.1) (g := (mkF m 2 #[.val (.ref px1), .val (.int (2 : Int32))] [(.ref px1), (.int (2 : Int32))])) rfl rfl (hb hby d6_2) _ k) ?_
  rw [len_of t1 u1]
  show own_Wp p e below _ s₁ (mkF m 3 #[.val (.ref px1), .val (.int (2 : Int32))] [(.int (2 : Int32)), (.int (2 : Int32))])
  refine own_step (fun _ k => XS.isub X0.here hx rfl (hb hby d6_3) rfl k) ?_
  show own_Wp p e below _ s₁ (mkF m 4 #[.val (.ref px1), .val (.int (2 : Int32))] [(.int ((2 : Int32) - (2 : Int32)))])
  rw [(by decide : ((2 : Int32) - (2 : Int32)) = (0 : Int32))]
  show own_Wp p e below _ s₁ (mkF m 4 #[.val (.ref px1), .val (.int (2 : Int32))] [(.int (0 : Int32))])
  refine own_step (fun _ k => XS.bipush X0.here hx rfl (hb hby d6_4) k) ?_
  show own_Wp p e below _ s₁ (mkF m 6 #[.val (.ref px1), .val (.int (2 : Int32))] [(.int (31 : Int32)), (.int (0 : Int32))])
  refine own_step (fun _ k => XS.iushr X0.here hx rfl (hb hby d6_6) rfl k) ?_
  show own_Wp p e below _ s₁ (mkF m 7 #[.val (.ref px1), .val (.int (2 : Int32))] [(.int (((0 : Int32).toUInt32 >>> ((31 : Int32) &&& 31).toUInt32).toInt32))])
  rw [(by decide : (((0 : Int32).toUInt32 >>> ((31 : Int32) &&& 31).toUInt32).toInt32) = (0 : Int32))]
  show own_Wp p e below _ s₁ (mkF m 7 #[.val (.ref px1), .val (.int (2 : Int32))] [(.int (0 : Int32))])
  refine own_step (fun _ k => XS.i2b X0.here hx rfl (hb hby d6_7) rfl k) ?_
  show own_Wp p e below _ s₁ (mkF m 8 #[.val (.ref px1), .val (.int (2 : Int32))] [(.int ((0 : Int32).toInt8.toInt32))])
  rw [(by decide : ((0 : Int32).toInt8.toInt32) = (0 : Int32))]
  show own_Wp p e below _ s₁ (mkF m 8 #[.val (.ref px1), .val (.int (2 : Int32))] [(.int (0 : Int32))])
  exact own_retN X0 hx (t := .byte) hret (by simp) hlk (hb hby d6_8) (by decide) (by decide) (by rw [e0]; exact ⟨rfl, (Fr.nil n0), rfl⟩)

set_option maxRecDepth 65536 in
set_option maxHeartbeats 40000000 in
theorem rm2_3 (l : Launch) (Z : State) (a0 : Array Value) (hw : ∀ d ∈ tables_1, d.before a0 Z = true) (hS : ∀ d ∈ jdkStatics_1, d.before a0 Z = true) (ws : List Jvm.Cond) (px1 : Addr) (px2 : Addr) (pi1 : Int32) (pi2 : Int32) (k4_ : ClassId) (h0 : Heap) (n0 : Nat) (O0 : Old Z n0 h0) (P0 : Exa Z h0 px1 "java/lang/String") (P1 : Fld Z h0 px1 "java/lang/String" "coder" "B" (.int (0 : Int32))) (P2 : Fld Z h0 px1 "java/lang/String" "value" "[B" .null) (P3 : Arv Z h0 px2 k4_ .char (2 : Int32) [(.int pi1), (.int pi2)] (.int (0 : Int32))) (G4 : n0 ≤ px1) (H8 : ¬ ((255 : Int32) < pi1)) (H10 : ¬ ((255 : Int32) < pi2)) :
    own_Met l Z (⟨"java/lang/String", "<init>", "([CIILjava/lang/Void;)V"⟩ : MethodName) (Jvm.Cond.code (⟨"java/lang/String", "<init>", "([CIILjava/lang/Void;)V"⟩ : MethodName) jdk_42_method_149_code 6 none) ws ({ frames := 2, cells := 1, slots := 2, locals := 35 } : Room) #[(.ref px1), (.ref px2), (.int (0 : Int32)), (.int (2 : Int32)), .null] h0 (fun v h L => (∃ (b4 : Addr) (k5 : ClassId), v = none ∧ Fr n0 L ∧ Keep h0 h [px1] ∧ h0.size ≤ b4 ∧ px1 ≠ b4 ∧ Exa Z h px1 "java/lang/String" ∧ Fld Z h px1 "java/lang/String" "coder" "B" (.int (0 : Int32)) ∧ Fld Z h px1 "java/lang/String" "value" "[B" (.ref b4) ∧ Arv Z h b4 k5 .byte (2 : Int32) [(.int (nar .byte (pi1.toInt8.toInt32))), (.int (nar .byte (pi2.toInt8.toInt32)))] (.int (0 : Int32)))) := by
  refine own_met (own := "java/lang/String") (plainFor_of_name pn4) rfl ?_
  intro p e s m below meth c s₁ hx hby hml hown hnm hret hlk hZ e0 X0
  refine own_cast (g' := (mkF m 0 #[.val (.ref px1), .val (.ref px2), .val (.int (0 : Int32)), .val (.int (2 : Int32)), .val .null, .unset] [])) (by first | (simp [entryFrame, mkF, argsToLocals, Value.category]; done) | rfl) ?_
  refine own_step (fun _ k => XS.aloadN X0.here hx rfl (hb hby d2_0) rfl rfl k) ?_
  show own_Wp p e below _ s₁ (mkF m 1 #[.val (.ref px1), .val (.ref px2), .val (.int (0 : Int32)), .val (.int (2 : Int32)), .val .null, .unset] [(.ref px1)])
  obtain ⟨T1, X1, e1, st1⟩ := initO X0 hx hZ hown (hw _ (List.mem_of_getElem? (i := 11) rfl)) (hw _ (List.mem_of_getElem? (i := 12) rfl)) (hw _ (List.mem_of_getElem? (i := 13) rfl)) e0 (g := (mkF m 1 #[.val (.ref px1), .val (.ref px2), .val (.int (0 : Int32)), .val (.int (2 : Int32)), .val .null, .unset] [(.ref px1)])) rfl (by rw [hml]; rfl) rfl (hb hby d2_1) (by decide) (W := 0) (by show 2 * 0 + _ ≤ _; exact Nat.le_of_eq rfl) (by decide)
  refine own_step st1 ?_
  show own_Wp p e below _ T1 (mkF m 4 #[.val (.ref px1), .val (.ref px2), .val (.int (0 : Int32)), .val (.int (2 : Int32)), .val .null, .unset] [])
  refine own_step (fun _ k => XS.iloadN X1.here hx rfl (hb hby d2_4) rfl k) ?_
  show own_Wp p e below _ T1 (mkF m 5 #[.val (.ref px1), .val (.ref px2), .val (.int (0 : Int32)), .val (.int (2 : Int32)), .val .null, .unset] [(.int (2 : Int32))])
  refine own_step (fun _ k => XS.ifYes X1.here hx rfl (pc0 := 5) (pc' := 27) rfl (hb hby d2_5) rfl (by decide) (by decide) (by decide) k) ?_
  show own_Wp p e below _ T1 (mkF m 27 #[.val (.ref px1), .val (.ref px2), .val (.int (0 : Int32)), .val (.int (2 : Int32)), .val .null, .unset] [])
  obtain ⟨T2, X2, e2, st2⟩ := getS2 X1 hx hZ hown (host := "") (Or.inl (hw _ (List.mem_of_getElem? (i := 14) rfl))) Via.refl e1 ((st_w0i_COMPACT_STRINGS hw hS).ext O0.2) (g := (mkF m 27 #[.val (.ref px1), .val (.ref px2), .val (.int (0 : Int32)), .val (.int (2 : Int32)), .val .null, .unset] [])) rfl (hb hby d2_27)
  refine own_step st2 ?_
  show own_Wp p e below _ T2 (mkF m 30 #[.val (.ref px1), .val (.ref px2), .val (.int (0 : Int32)), .val (.int (2 : Int32)), .val .null, .unset] [(.int (w0i_COMPACT_STRINGS Z))])
  refine own_step (fun _ k => XS.ifNo X2.here hx rfl (hb hby d2_30) rfl ((if0 _ _).trans (feq (ne_w0i_COMPACT_STRINGS hw hS)).1) k) ?_
  show own_Wp p e below _ T2 (mkF m 33 #[.val (.ref px1), .val (.ref px2), .val (.int (0 : Int32)), .val (.int (2 : Int32)), .val .null, .unset] [])
  refine own_step (fun _ k => XS.aloadN X2.here hx rfl (hb hby d2_33) rfl rfl k) ?_
  show own_Wp p e below _ T2 (mkF m 34 #[.val (.ref px1), .val (.ref px2), .val (.int (0 : Int32)), .val (.int (2 : Int32)), .val .null, .unset] [(.ref px2)])
  refine own_step (fun _ k => XS.iloadN X2.here hx rfl (hb hby d2_34) rfl k) ?_
  show own_Wp p e below _ T2 (mkF m 35 #[.val (.ref px1), .val (.ref px2), .val (.int (0 : Int32)), .val (.int (2 : Int32)), .val .null, .unset] [(.int (0 : Int32)), (.ref px2)])
  refine own_step (fun _ k => XS.iloadN X2.here hx rfl (hb hby d2_35) rfl k) ?_
  show own_Wp p e below _ T2 (mkF m 36 #[.val (.ref px1), .val (.ref px2), .val (.int (0 : Int32)), .val (.int (2 : Int32)), .val .null, .unset] [(.int (2 : Int32)), (.int (0 : Int32)), (.ref px2)])
  obtain ⟨_, T3, L3, X3, hQ3, st3⟩ := own_callS X2 hx hZ hown (hw _ (List.mem_of_getElem? (i := 15) rfl)) (hw _ (List.mem_of_getElem? (i := 16) rfl)) (hw _ (List.mem_of_getElem? (i := 17) rfl)) (hw _ (List.mem_of_getElem? (i := 18) rfl)) (by decide) (rm4_1 l Z a0 hw hS [] px2 pi1 pi2 k4_ h0 n0 O0 P3 H8 H10) (W := 0) (by decide) (by decide) [(.ref px2), (.int (0 : Int32)), (.int (2 : Int32))] rfl (lenOf pd2 rfl) (Ls := #[.val (.ref px1), .val (.ref px2), .val (.int (0 : Int32)), .val (.int (2 : Int32)), .val .null, .unset]) (by rw [hml]; rfl) (rest := []) (Nat.le_of_eq rfl) (hb hby d2_36) e2 (by decide) (by decide)
  refine st3 _ ?_
  obtain ⟨b4, k5, rfl, N3q, K3q, y3_0, F3_0⟩ := hQ3
  have N3 := Fr.app (Fr.nil n0) N3q
  have g3_0 : n0 ≤ b4 := Nat.le_trans (O0.1 ▸ O0.2.1) y3_0
  have ne3_0_0 : px1 ≠ b4 := Nat.ne_of_lt (Nat.lt_of_lt_of_le P0.lt y3_0)
  have ne3_0_1 : px2 ≠ b4 := Nat.ne_of_lt (Nat.lt_of_lt_of_le P3.lt y3_0)
  have u3_0 : h0.size ≤ b4 := Nat.le_trans (Nat.le_refl _) y3_0
  have O3 := O0.keep K3q all0
  have K3 : Keep h0 T3.heap [px1] := Keep.trans (Keep.refl h0 [px1]) K3q all0
  show own_Wp p e below _ T3 (mkF m 39 #[.val (.ref px1), .val (.ref px2), .val (.int (0 : Int32)), .val (.int (2 : Int32)), .val .null, .unset] [(.ref b4)])
  refine own_step (fun _ k => XS.astore X3.here hx rfl (hb hby d2_39) rfl rfl (l' := #[.val (.ref px1), .val (.ref px2), .val (.int (0 : Int32)), .val (.int (2 : Int32)), .val .null, .val (.ref b4)]) rfl k) ?_
  show own_Wp p e below _ T3 (mkF m 41 #[.val (.ref px1), .val (.ref px2), .val (.int (0 : Int32)), .val (.int (2 : Int32)), .val .null, .val (.ref b4)] [])
  refine own_step (fun _ k => XS.aloadN X3.here hx rfl (hb hby d2_41) rfl rfl k) ?_
  show own_Wp p e below _ T3 (mkF m 42 #[.val (.ref px1), .val (.ref px2), .val (.int (0 : Int32)), .val (.int (2 : Int32)), .val .null, .val (.ref b4)] [(.ref px1)])
  refine own_step (fun _ k => XS.aload X3.here hx rfl (hb hby d2_42) rfl rfl k) ?_
  show own_Wp p e below _ T3 (mkF m 44 #[.val (.ref px1), .val (.ref px2), .val (.int (0 : Int32)), .val (.int (2 : Int32)), .val .null, .val (.ref b4)] [(.ref b4), (.ref px1)])
  refine own_step (fun _ k => XS.iloadN X3.here hx rfl (hb hby d2_44) rfl k) ?_
  show own_Wp p e below _ T3 (mkF m 45 #[.val (.ref px1), .val (.ref px2), .val (.int (0 : Int32)), .val (.int (2 : Int32)), .val .null, .val (.ref b4)] [(.int (2 : Int32)), (.ref b4), (.ref px1)])
  obtain ⟨_, T6, L6, X6, hQ6, st6⟩ := own_callS X3 hx hZ hown (hw _ (List.mem_of_getElem? (i := 23) rfl)) (hw _ (List.mem_of_getElem? (i := 24) rfl)) (hw _ (List.mem_of_getElem? (i := 17) rfl)) (hw _ (List.mem_of_getElem? (i := 25) rfl)) (by decide) (rm6_2 l Z a0 hw hS [] b4 (nar .byte (pi1.toInt8.toInt32)) (nar .byte (pi2.toInt8.toInt32)) k5 T3.heap n0 O3 F3_0) (W := 1) (by decide) (by decide) [(.ref b4), (.int (2 : Int32))] rfl (lenOf pd3 rfl) (Ls := #[.val (.ref px1), .val (.ref px2), .val (.int (0 : Int32)), .val (.int (2 : Int32)), .val .null, .val (.ref b4)]) (by rw [hml]; rfl) (rest := [(.ref px1)]) (Nat.le_of_eq rfl) (hb hby d2_45) rfl (by decide) (by decide)
  refine st6 _ ?_
  obtain ⟨rfl, N6q, e6⟩ := hQ6
  have N6 := Fr.app N3 N6q
  show own_Wp p e below _ T6 (mkF m 48 #[.val (.ref px1), .val (.ref px2), .val (.int (0 : Int32)), .val (.int (2 : Int32)), .val .null, .val (.ref b4)] [(.int (0 : Int32)), (.ref px1)])
  have f7 := (P1.keep K3q nin0)
  have f8 := (P0.keep K3q)
  obtain ⟨T9, h9, X9, e9, W9, st9⟩ := putFN X6 hx hZ hown (hw _ (List.mem_of_getElem? (i := 26) rfl)) Via.refl e6 f7 f8 (Or.inr ⟨(hw _ (List.mem_of_getElem? (i := 27) rfl)), rfl, hnm⟩) (hw _ (List.mem_of_getElem? (i := 1) rfl)) (ty := .byte) (v' := (.int (0 : Int32))) (by decide) rfl (by decide) (g := (mkF m 48 #[.val (.ref px1), .val (.ref px2), .val (.int (0 : Int32)), .val (.int (2 : Int32)), .val .null, .val (.ref b4)] [(.int (0 : Int32)), (.ref px1)])) rfl rfl (hb hby d2_48)
  refine own_step st9 ?_
  have N9 := Fr.snoc X9 N6 G4
  have O9 := O3.wr W9 G4
  have K9 : Keep h0 h9 [px1] := K3.wr W9 (Or.inl (by simp))
  have Fw9 := f7.same W9
  show own_Wp p e below _ T9 (mkF m 51 #[.val (.ref px1), .val (.ref px2), .val (.int (0 : Int32)), .val (.int (2 : Int32)), .val .null, .val (.ref b4)] [])
  refine own_step (fun _ k => XS.aloadN X9.here hx rfl (hb hby d2_51) rfl rfl k) ?_
  show own_Wp p e below _ T9 (mkF m 52 #[.val (.ref px1), .val (.ref px2), .val (.int (0 : Int32)), .val (.int (2 : Int32)), .val .null, .val (.ref b4)] [(.ref px1)])
  refine own_step (fun _ k => XS.aload X9.here hx rfl (hb hby d2_52) rfl rfl k) ?_
  show own_Wp p e below _ T9 (mkF m 54 #[.val (.ref px1), .val (.ref px2), .val (.int (0 : Int32)), .val (.int (2 : Int32)), .val .null, .val (.ref b4)] [(.ref b4), (.ref px1)])
  have f10 := ((P2.keep K3q nin0).other W9 (Or.inr (slot_ne (Or.inr (hw _ (List.mem_of_getElem? (i := 29) rfl))) (Or.inr (hw _ (List.mem_of_getElem? (i := 27) rfl))) (by decide) (t := (.array .byte)) (t' := .byte) (by decide) (by decide))))
  have f11 := (f8.wr W9)
  obtain ⟨T12, h12, X12, e12, W12, st12⟩ := putF X9 hx hZ hown (host := "") (Or.inl (hw _ (List.mem_of_getElem? (i := 28) rfl))) Via.refl e9 f10 f11 (Or.inr ⟨(hw _ (List.mem_of_getElem? (i := 29) rfl)), rfl, hnm⟩) (hw _ (List.mem_of_getElem? (i := 1) rfl)) (ty := (.array .byte)) (by decide) rfl rfl (g := (mkF m 54 #[.val (.ref px1), .val (.ref px2), .val (.int (0 : Int32)), .val (.int (2 : Int32)), .val .null, .val (.ref b4)] [(.ref b4), (.ref px1)])) rfl rfl (hb hby d2_54)
  refine own_step st12 ?_
  have N12 := Fr.snoc X12 N9 G4
  have O12 := O9.wr W12 G4
  have K12 : Keep h0 h12 [px1] := K9.wr W12 (Or.inl (by simp))
  have Fw12 := f10.same W12
  show own_Wp p e below _ T12 (mkF m 57 #[.val (.ref px1), .val (.ref px2), .val (.int (0 : Int32)), .val (.int (2 : Int32)), .val .null, .val (.ref b4)] [])
  have f13 := (f11.wr W12)
  have f14 := (Fw9.other W12 (Or.inr (slot_ne (Or.inr (hw _ (List.mem_of_getElem? (i := 27) rfl))) (Or.inr (hw _ (List.mem_of_getElem? (i := 29) rfl))) (by decide) (t := .byte) (t' := (.array .byte)) (by decide) (by decide))))
  have f15 := ((F3_0.other W9 (Ne.symm ne3_0_0)).other W12 (Ne.symm ne3_0_0))
  exact own_retV X12 hx hret hlk (hb hby d2_57) (by decide) (by decide) (by rw [e12]; exact ⟨b4, k5, rfl, N12, K12, u3_0, ne3_0_0, f13, f14, Fw12, f15⟩)

set_option maxRecDepth 65536 in
set_option maxHeartbeats 40000000 in
theorem rm1_4 (l : Launch) (Z : State) (a0 : Array Value) (hw : ∀ d ∈ tables_1, d.before a0 Z = true) (hS : ∀ d ∈ jdkStatics_1, d.before a0 Z = true) (ws : List Jvm.Cond) (px1 : Addr) (px2 : Addr) (pi1 : Int32) (pi2 : Int32) (k4_ : ClassId) (h0 : Heap) (n0 : Nat) (O0 : Old Z n0 h0) (P0 : Exa Z h0 px1 "java/lang/String") (P1 : Fld Z h0 px1 "java/lang/String" "coder" "B" (.int (0 : Int32))) (P2 : Fld Z h0 px1 "java/lang/String" "value" "[B" .null) (P3 : Arv Z h0 px2 k4_ .char (2 : Int32) [(.int pi1), (.int pi2)] (.int (0 : Int32))) (G4 : n0 ≤ px1) (H8 : ¬ ((255 : Int32) < pi1)) (H10 : ¬ ((255 : Int32) < pi2)) :
    own_Met l Z (⟨"java/lang/String", "<init>", "([C)V"⟩ : MethodName) (Jvm.Cond.code (⟨"java/lang/String", "<init>", "([C)V"⟩ : MethodName) jdk_42_method_3_code 2 none) ws ({ frames := 3, cells := 1, slots := 2, locals := 52 } : Room) #[(.ref px1), (.ref px2)] h0 (fun v h L => (∃ (b3 : Addr) (k4 : ClassId), v = none ∧ Fr n0 L ∧ Keep h0 h [px1] ∧ h0.size ≤ b3 ∧ px1 ≠ b3 ∧ Exa Z h px1 "java/lang/String" ∧ Fld Z h px1 "java/lang/String" "coder" "B" (.int (0 : Int32)) ∧ Fld Z h px1 "java/lang/String" "value" "[B" (.ref b3) ∧ Arv Z h b3 k4 .byte (2 : Int32) [(.int (nar .byte (pi1.toInt8.toInt32))), (.int (nar .byte (pi2.toInt8.toInt32)))] (.int (0 : Int32)))) := by
  refine own_met (own := "java/lang/String") (plainFor_of_name pn4) rfl ?_
  intro p e s m below meth c s₁ hx hby hml hown hnm hret hlk hZ e0 X0
  refine own_cast (g' := (mkF m 0 #[.val (.ref px1), .val (.ref px2)] [])) (by first | (simp [entryFrame, mkF, argsToLocals, Value.category]; done) | rfl) ?_
  refine own_step (fun _ k => XS.aloadN X0.here hx rfl (hb hby d1_0) rfl rfl k) ?_
  show own_Wp p e below _ s₁ (mkF m 1 #[.val (.ref px1), .val (.ref px2)] [(.ref px1)])
  refine own_step (fun _ k => XS.aloadN X0.here hx rfl (hb hby d1_1) rfl rfl k) ?_
  show own_Wp p e below _ s₁ (mkF m 2 #[.val (.ref px1), .val (.ref px2)] [(.ref px2), (.ref px1)])
  refine own_step (fun _ k => XS.iconst X0.here hx rfl (hb hby d1_2) k) ?_
  show own_Wp p e below _ s₁ (mkF m 3 #[.val (.ref px1), .val (.ref px2)] [(.int (0 : Int32)), (.ref px2), (.ref px1)])
  refine own_step (fun _ k => XS.aloadN X0.here hx rfl (hb hby d1_3) rfl rfl k) ?_
  show own_Wp p e below _ s₁ (mkF m 4 #[.val (.ref px1), .val (.ref px2)] [(.ref px2), (.int (0 : Int32)), (.ref px2), (.ref px1)])
  obtain ⟨c1, r1, q1, t1, u1, y1h, y1g⟩ := id P3
  refine own_step (fun _ k => X0.arraylength hx (by rw [e0]; exact r1.1) (State.isArrayOf_alike hZ.alike r1.2.1) (g := (mkF m 4 #[.val (.ref px1), .val (.ref px2)] [(.ref px2), (.int (0 : Int32)), (.ref px2), (.ref px1)])) rfl rfl (hb hby d1_4) _ k) ?_
  rw [len_of t1 u1]
  show own_Wp p e below _ s₁ (mkF m 5 #[.val (.ref px1), .val (.ref px2)] [(.int (2 : Int32)), (.int (0 : Int32)), (.ref px2), (.ref px1)])
  refine own_step (fun _ k => XS.aconstNull X0.here hx rfl (hb hby d1_5) k) ?_
  show own_Wp p e below _ s₁ (mkF m 6 #[.val (.ref px1), .val (.ref px2)] [.null, (.int (2 : Int32)), (.int (0 : Int32)), (.ref px2), (.ref px1)])
  obtain ⟨_, T2, L2, X2, hQ2, st2⟩ := own_callN X0 hx hZ rfl hown (hw _ (List.mem_of_getElem? (i := 7) rfl)) (hw _ (List.mem_of_getElem? (i := 8) rfl)) (hw _ (List.mem_of_getElem? (i := 2) rfl)) (hw _ (List.mem_of_getElem? (i := 10) rfl)) (by decide) (rm2_3 l Z a0 hw hS [] px1 px2 pi1 pi2 k4_ h0 n0 O0 P0 P1 P2 P3 G4 H8 H10) (b := px1) (W := 0) (by decide) (by decide) [(.ref px2), (.int (0 : Int32)), (.int (2 : Int32)), .null] rfl (lenOf pd5 rfl) (Ls := #[.val (.ref px1), .val (.ref px2)]) (by rw [hml]; rfl) (rest := []) (Nat.le_of_eq rfl) (hb hby d1_6) e0 (by decide) (by decide)
  refine st2 _ ?_
  obtain ⟨b3, k4, rfl, N2q, K2q, y2_0, m2_0, F2_0, F2_1, F2_2, F2_3⟩ := hQ2
  have N2 := Fr.app (Fr.nil n0) N2q
  have g2_0 : n0 ≤ b3 := Nat.le_trans (O0.1 ▸ O0.2.1) y2_0
  have ne2_0_0 : px1 ≠ b3 := Nat.ne_of_lt (Nat.lt_of_lt_of_le P0.lt y2_0)
  have ne2_0_1 : px2 ≠ b3 := Nat.ne_of_lt (Nat.lt_of_lt_of_le P3.lt y2_0)
  have u2_0 : h0.size ≤ b3 := Nat.le_trans (Nat.le_refl _) y2_0
  have O2 := O0.keep K2q (allS G4 all0)
  have K2 : Keep h0 T2.heap [px1] := Keep.trans (Keep.refl h0 [px1]) K2q (allS (Or.inl (by simp)) all0)
  show own_Wp p e below _ T2 (mkF m 9 #[.val (.ref px1), .val (.ref px2)] [])
  exact own_retV X2 hx hret hlk (hb hby d1_9) (by decide) (by decide) (⟨b3, k4, rfl, N2, K2, u2_0, m2_0, F2_0, F2_1, F2_2, F2_3⟩)

set_option maxRecDepth 65536 in
set_option maxHeartbeats 40000000 in
theorem rm7_5 (l : Launch) (Z : State) (a0 : Array Value) (hw : ∀ d ∈ tables_1, d.before a0 Z = true) (hS : ∀ d ∈ jdkStatics_1, d.before a0 Z = true) (ws : List Jvm.Cond) (px1 : Addr) (h0 : Heap) (n0 : Nat) (O0 : Old Z n0 h0) :
    own_Met l Z (⟨"com/example/fieldnote/fieldnote/text/TextSyntax$Entry", "<init>", "()V"⟩ : MethodName) (Jvm.Cond.code (⟨"com/example/fieldnote/fieldnote/text/TextSyntax$Entry", "<init>", "()V"⟩ : MethodName) prog_51_method_1_code 1 none) ws ({ frames := 1, cells := 0, slots := 0, locals := 12 } : Room) #[(.ref px1)] h0 (fun v h L => (v = none ∧ Fr n0 L ∧ h = h0)) := by
  refine own_met (own := "com/example/fieldnote/fieldnote/text/TextSyntax$Entry") (plainFor_of_name pn7) rfl ?_
  intro p e s m below meth c s₁ hx hby hml hown hnm hret hlk hZ e0 X0
  refine own_cast (g' := (mkF m 0 #[.val (.ref px1)] [])) (by first | (simp [entryFrame, mkF, argsToLocals, Value.category]; done) | rfl) ?_
  refine own_step (fun _ k => XS.aloadN X0.here hx rfl (hb hby d7_0) rfl rfl k) ?_
  show own_Wp p e below _ s₁ (mkF m 1 #[.val (.ref px1)] [(.ref px1)])
  obtain ⟨T1, X1, e1, st1⟩ := initO X0 hx hZ hown (hw _ (List.mem_of_getElem? (i := 36) rfl)) (hw _ (List.mem_of_getElem? (i := 12) rfl)) (hw _ (List.mem_of_getElem? (i := 13) rfl)) e0 (g := (mkF m 1 #[.val (.ref px1)] [(.ref px1)])) rfl (by rw [hml]; rfl) rfl (hb hby d7_1) (by decide) (W := 0) (by show 2 * 0 + _ ≤ _; exact Nat.le_of_eq rfl) (by decide)
  refine own_step st1 ?_
  show own_Wp p e below _ T1 (mkF m 4 #[.val (.ref px1)] [])
  exact own_retV X1 hx hret hlk (hb hby d7_4) (by decide) (by decide) (by rw [e1]; exact ⟨rfl, (Fr.nil n0), rfl⟩)

set_option maxRecDepth 65536 in
set_option maxHeartbeats 40000000 in
theorem rm8_6 (l : Launch) (Z : State) (a0 : Array Value) (hw : ∀ d ∈ tables_1, d.before a0 Z = true) (hS : ∀ d ∈ jdkStatics_1, d.before a0 Z = true) (ws : List Jvm.Cond) (px1 : Addr) (px2 : Addr) (pi1 : Int32) (pi2 : Int32) (pi3 : Int32) (pi4 : Int32) (h0 : Heap) (n0 : Nat) (O0 : Old Z n0 h0) (P0 : Exa Z h0 px1 "com/example/fieldnote/fieldnote/text/TextSyntax$Entry") (P1 : Fld Z h0 px1 "com/example/fieldnote/fieldnote/text/TextSyntax$Entry" "name" "Ljava/lang/String;" .null) (P2 : Fld Z h0 px1 "com/example/fieldnote/fieldnote/text/TextSyntax$Entry" "place" "I" (.int (0 : Int32))) (P3 : Fld Z h0 px1 "com/example/fieldnote/fieldnote/text/TextSyntax$Entry" "field" "Lcom/example/fieldnote/fieldnote/schema/Field;" .null) (P4 : Fld Z h0 px1 "com/example/fieldnote/fieldnote/text/TextSyntax$Entry" "colon" "Z" (.int (0 : Int32))) (P5 : Fld Z h0 px1 "com/example/fieldnote/fieldnote/text/TextSyntax$Entry" "inList" "Z" (.int (0 : Int32))) (P6 : Fld Z h0 px1 "com/example/fieldnote/fieldnote/text/TextSyntax$Entry" "messages" "Z" (.int (0 : Int32))) (G13 : n0 ≤ px1) (B17 : pi2 = (0 : Int32) ∨ pi2 = (1 : Int32)) (B18 : pi3 = (0 : Int32) ∨ pi3 = (1 : Int32)) (B19 : pi4 = (0 : Int32) ∨ pi4 = (1 : Int32)) :
    own_Met l Z (⟨"com/example/fieldnote/fieldnote/text/TextSyntax$Entry", "set", "(Ljava/lang/String;ILcom/example/fieldnote/fieldnote/schema/Field;ZZZ)V"⟩ : MethodName) (Jvm.Cond.code (⟨"com/example/fieldnote/fieldnote/text/TextSyntax$Entry", "set", "(Ljava/lang/String;ILcom/example/fieldnote/fieldnote/schema/Field;ZZZ)V"⟩ : MethodName) prog_51_method_2_code 7 none) ws ({ frames := 0, cells := 0, slots := 0, locals := 0 } : Room) #[(.ref px1), (.ref px2), (.int pi1), .null, (.int pi2), (.int pi3), (.int pi4)] h0 (fun v h L => (v = none ∧ Fr n0 L ∧ Keep h0 h [px1] ∧ Exa Z h px1 "com/example/fieldnote/fieldnote/text/TextSyntax$Entry" ∧ Fld Z h px1 "com/example/fieldnote/fieldnote/text/TextSyntax$Entry" "name" "Ljava/lang/String;" (.ref px2) ∧ Fld Z h px1 "com/example/fieldnote/fieldnote/text/TextSyntax$Entry" "place" "I" (.int pi1) ∧ Fld Z h px1 "com/example/fieldnote/fieldnote/text/TextSyntax$Entry" "field" "Lcom/example/fieldnote/fieldnote/schema/Field;" .null ∧ Fld Z h px1 "com/example/fieldnote/fieldnote/text/TextSyntax$Entry" "colon" "Z" (.int pi2) ∧ Fld Z h px1 "com/example/fieldnote/fieldnote/text/TextSyntax$Entry" "inList" "Z" (.int pi3) ∧ Fld Z h px1 "com/example/fieldnote/fieldnote/text/TextSyntax$Entry" "messages" "Z" (.int pi4))) := by
  refine own_met (own := "com/example/fieldnote/fieldnote/text/TextSyntax$Entry") (plainFor_of_name pn7) rfl ?_
  intro p e s m below meth c s₁ hx hby hml hown hnm hret hlk hZ e0 X0
  refine own_cast (g' := (mkF m 0 #[.val (.ref px1), .val (.ref px2), .val (.int pi1), .val .null, .val (.int pi2), .val (.int pi3), .val (.int pi4)] [])) (by first | (simp [entryFrame, mkF, argsToLocals, Value.category]; done) | rfl) ?_
  refine own_step (fun _ k => XS.aloadN X0.here hx rfl (hb hby d8_0) rfl rfl k) ?_
  show own_Wp p e below _ s₁ (mkF m 1 #[.val (.ref px1), .val (.ref px2), .val (.int pi1), .val .null, .val (.int pi2), .val (.int pi3), .val (.int pi4)] [(.ref px1)])
  refine own_step (fun _ k => XS.aloadN X0.here hx rfl (hb hby d8_1) rfl rfl k) ?_
  show own_Wp p e below _ s₁ (mkF m 2 #[.val (.ref px1), .val (.ref px2), .val (.int pi1), .val .null, .val (.int pi2), .val (.int pi3), .val (.int pi4)] [(.ref px2), (.ref px1)])
  obtain ⟨T1, h1, X1, e1, W1, st1⟩ := putF X0 hx hZ hown (host := "") (Or.inl (hw _ (List.mem_of_getElem? (i := 42) rfl))) Via.refl e0 P1 P0 (Or.inl (hw _ (List.mem_of_getElem? (i := 43) rfl))) (hw _ (List.mem_of_getElem? (i := 31) rfl)) (ty := (.object "java/lang/String")) (by decide) rfl rfl (g := (mkF m 2 #[.val (.ref px1), .val (.ref px2), .val (.int pi1), .val .null, .val (.int pi2), .val (.int pi3), .val (.int pi4)] [(.ref px2), (.ref px1)])) rfl rfl (hb hby d8_2)
  refine own_step st1 ?_
  have N1 := Fr.snoc X1 (Fr.nil n0) G13
  have O1 := O0.wr W1 G13
  have K1 : Keep h0 h1 [px1] := (Keep.refl h0 [px1]).wr W1 (Or.inl (by simp))
  have Fw1 := P1.same W1
  show own_Wp p e below _ T1 (mkF m 5 #[.val (.ref px1), .val (.ref px2), .val (.int pi1), .val .null, .val (.int pi2), .val (.int pi3), .val (.int pi4)] [])
  refine own_step (fun _ k => XS.aloadN X1.here hx rfl (hb hby d8_5) rfl rfl k) ?_
  show own_Wp p e below _ T1 (mkF m 6 #[.val (.ref px1), .val (.ref px2), .val (.int pi1), .val .null, .val (.int pi2), .val (.int pi3), .val (.int pi4)] [(.ref px1)])
  refine own_step (fun _ k => XS.iloadN X1.here hx rfl (hb hby d8_6) rfl k) ?_
  show own_Wp p e below _ T1 (mkF m 7 #[.val (.ref px1), .val (.ref px2), .val (.int pi1), .val .null, .val (.int pi2), .val (.int pi3), .val (.int pi4)] [(.int pi1), (.ref px1)])
  have f2 := (P2.other W1 (Or.inr (slot_ne (Or.inl (hw _ (List.mem_of_getElem? (i := 45) rfl))) (Or.inl (hw _ (List.mem_of_getElem? (i := 43) rfl))) (by decide) (t := .int) (t' := (.object "java/lang/String")) (by decide) (by decide))))
  have f3 := (P0.wr W1)
  obtain ⟨T4, h4, X4, e4, W4, st4⟩ := putF X1 hx hZ hown (host := "") (Or.inl (hw _ (List.mem_of_getElem? (i := 44) rfl))) Via.refl e1 f2 f3 (Or.inl (hw _ (List.mem_of_getElem? (i := 45) rfl))) (hw _ (List.mem_of_getElem? (i := 31) rfl)) (ty := .int) (by decide) rfl rfl (g := (mkF m 7 #[.val (.ref px1), .val (.ref px2), .val (.int pi1), .val .null, .val (.int pi2), .val (.int pi3), .val (.int pi4)] [(.int pi1), (.ref px1)])) rfl rfl (hb hby d8_7)
  refine own_step st4 ?_
  have N4 := Fr.snoc X4 N1 G13
  have O4 := O1.wr W4 G13
  have K4 : Keep h0 h4 [px1] := K1.wr W4 (Or.inl (by simp))
  have Fw4 := f2.same W4
  show own_Wp p e below _ T4 (mkF m 10 #[.val (.ref px1), .val (.ref px2), .val (.int pi1), .val .null, .val (.int pi2), .val (.int pi3), .val (.int pi4)] [])
  refine own_step (fun _ k => XS.aloadN X4.here hx rfl (hb hby d8_10) rfl rfl k) ?_
  show own_Wp p e below _ T4 (mkF m 11 #[.val (.ref px1), .val (.ref px2), .val (.int pi1), .val .null, .val (.int pi2), .val (.int pi3), .val (.int pi4)] [(.ref px1)])
  refine own_step (fun _ k => XS.aloadN X4.here hx rfl (hb hby d8_11) rfl rfl k) ?_
  show own_Wp p e below _ T4 (mkF m 12 #[.val (.ref px1), .val (.ref px2), .val (.int pi1), .val .null, .val (.int pi2), .val (.int pi3), .val (.int pi4)] [.null, (.ref px1)])
  have f5 := ((P3.other W1 (Or.inr (slot_ne (Or.inl (hw _ (List.mem_of_getElem? (i := 47) rfl))) (Or.inl (hw _ (List.mem_of_getElem? (i := 43) rfl))) (by decide) (t := (.object "com/example/fieldnote/fieldnote/schema/Field")) (t' := (.object "java/lang/String")) (by decide) (by decide)))).other W4 (Or.inr (slot_ne (Or.inl (hw _ (List.mem_of_getElem? (i := 47) rfl))) (Or.inl (hw _ (List.mem_of_getElem? (i := 45) rfl))) (by decide) (t := (.object "com/example/fieldnote/fieldnote/schema/Field")) (t' := .int) (by decide) (by decide))))
  have f6 := (f3.wr W4)
  obtain ⟨T7, h7, X7, e7, W7, st7⟩ := putF X4 hx hZ hown (host := "") (Or.inl (hw _ (List.mem_of_getElem? (i := 46) rfl))) Via.refl e4 f5 f6 (Or.inl (hw _ (List.mem_of_getElem? (i := 47) rfl))) (hw _ (List.mem_of_getElem? (i := 31) rfl)) (ty := (.object "com/example/fieldnote/fieldnote/schema/Field")) (by decide) rfl rfl (g := (mkF m 12 #[.val (.ref px1), .val (.ref px2), .val (.int pi1), .val .null, .val (.int pi2), .val (.int pi3), .val (.int pi4)] [.null, (.ref px1)])) rfl rfl (hb hby d8_12)
  refine own_step st7 ?_
  have N7 := Fr.snoc X7 N4 G13
  have O7 := O4.wr W7 G13
  have K7 : Keep h0 h7 [px1] := K4.wr W7 (Or.inl (by simp))
  have Fw7 := f5.same W7
  show own_Wp p e below _ T7 (mkF m 15 #[.val (.ref px1), .val (.ref px2), .val (.int pi1), .val .null, .val (.int pi2), .val (.int pi3), .val (.int pi4)] [])
  refine own_step (fun _ k => XS.aloadN X7.here hx rfl (hb hby d8_15) rfl rfl k) ?_
  show own_Wp p e below _ T7 (mkF m 16 #[.val (.ref px1), .val (.ref px2), .val (.int pi1), .val .null, .val (.int pi2), .val (.int pi3), .val (.int pi4)] [(.ref px1)])
  refine own_step (fun _ k => XS.iload X7.here hx rfl (hb hby d8_16) rfl k) ?_
  show own_Wp p e below _ T7 (mkF m 18 #[.val (.ref px1), .val (.ref px2), .val (.int pi1), .val .null, .val (.int pi2), .val (.int pi3), .val (.int pi4)] [(.int pi2), (.ref px1)])
  have f8 := (((P4.other W1 (Or.inr (slot_ne (Or.inl (hw _ (List.mem_of_getElem? (i := 49) rfl))) (Or.inl (hw _ (List.mem_of_getElem? (i := 43) rfl))) (by decide) (t := .boolean) (t' := (.object "java/lang/String")) (by decide) (by decide)))).other W4 (Or.inr (slot_ne (Or.inl (hw _ (List.mem_of_getElem? (i := 49) rfl))) (Or.inl (hw _ (List.mem_of_getElem? (i := 45) rfl))) (by decide) (t := .boolean) (t' := .int) (by decide) (by decide)))).other W7 (Or.inr (slot_ne (Or.inl (hw _ (List.mem_of_getElem? (i := 49) rfl))) (Or.inl (hw _ (List.mem_of_getElem? (i := 47) rfl))) (by decide) (t := .boolean) (t' := (.object "com/example/fieldnote/fieldnote/schema/Field")) (by decide) (by decide))))
  have f9 := (f6.wr W7)
  obtain ⟨T10, h10, X10, e10, W10, st10⟩ := putFN X7 hx hZ hown (hw _ (List.mem_of_getElem? (i := 48) rfl)) Via.refl e7 f8 f9 (Or.inl (hw _ (List.mem_of_getElem? (i := 49) rfl))) (hw _ (List.mem_of_getElem? (i := 31) rfl)) (ty := .boolean) (v' := (.int pi2)) (by decide) (own_nb B17) (own_fb B17) (g := (mkF m 18 #[.val (.ref px1), .val (.ref px2), .val (.int pi1), .val .null, .val (.int pi2), .val (.int pi3), .val (.int pi4)] [(.int pi2), (.ref px1)])) rfl rfl (hb hby d8_18)
  refine own_step st10 ?_
  have N10 := Fr.snoc X10 N7 G13
  have O10 := O7.wr W10 G13
  have K10 : Keep h0 h10 [px1] := K7.wr W10 (Or.inl (by simp))
  have Fw10 := f8.same W10
  show own_Wp p e below _ T10 (mkF m 21 #[.val (.ref px1), .val (.ref px2), .val (.int pi1), .val .null, .val (.int pi2), .val (.int pi3), .val (.int pi4)] [])
  refine own_step (fun _ k => XS.aloadN X10.here hx rfl (hb hby d8_21) rfl rfl k) ?_
  show own_Wp p e below _ T10 (mkF m 22 #[.val (.ref px1), .val (.ref px2), .val (.int pi1), .val .null, .val (.int pi2), .val (.int pi3), .val (.int pi4)] [(.ref px1)])
  refine own_step (fun _ k => XS.iload X10.here hx rfl (hb hby d8_22) rfl k) ?_
  show own_Wp p e below _ T10 (mkF m 24 #[.val (.ref px1), .val (.ref px2), .val (.int pi1), .val .null, .val (.int pi2), .val (.int pi3), .val (.int pi4)] [(.int pi3), (.ref px1)])
  have f11 := ((((P5.other W1 (Or.inr (slot_ne (Or.inl (hw _ (List.mem_of_getElem? (i := 51) rfl))) (Or.inl (hw _ (List.mem_of_getElem? (i := 43) rfl))) (by decide) (t := .boolean) (t' := (.object "java/lang/String")) (by decide) (by decide)))).other W4 (Or.inr (slot_ne (Or.inl (hw _ (List.mem_of_getElem? (i := 51) rfl))) (Or.inl (hw _ (List.mem_of_getElem? (i := 45) rfl))) (by decide) (t := .boolean) (t' := .int) (by decide) (by decide)))).other W7 (Or.inr (slot_ne (Or.inl (hw _ (List.mem_of_getElem? (i := 51) rfl))) (Or.inl (hw _ (List.mem_of_getElem? (i := 47) rfl))) (by decide) (t := .boolean) (t' := (.object "com/example/fieldnote/fieldnote/schema/Field")) (by decide) (by decide)))).other W10 (Or.inr (slot_ne (Or.inl (hw _ (List.mem_of_getElem? (i := 51) rfl))) (Or.inl (hw _ (List.mem_of_getElem? (i := 49) rfl))) (by decide) (t := .boolean) (t' := .boolean) (by decide) (by decide))))
  have f12 := (f9.wr W10)
  obtain ⟨T13, h13, X13, e13, W13, st13⟩ := putFN X10 hx hZ hown (hw _ (List.mem_of_getElem? (i := 50) rfl)) Via.refl e10 f11 f12 (Or.inl (hw _ (List.mem_of_getElem? (i := 51) rfl))) (hw _ (List.mem_of_getElem? (i := 31) rfl)) (ty := .boolean) (v' := (.int pi3)) (by decide) (own_nb B18) (own_fb B18) (g := (mkF m 24 #[.val (.ref px1), .val (.ref px2), .val (.int pi1), .val .null, .val (.int pi2), .val (.int pi3), .val (.int pi4)] [(.int pi3), (.ref px1)])) rfl rfl (hb hby d8_24)
  refine own_step st13 ?_
  have N13 := Fr.snoc X13 N10 G13
  have O13 := O10.wr W13 G13
  have K13 : Keep h0 h13 [px1] := K10.wr W13 (Or.inl (by simp))
  have Fw13 := f11.same W13
  show own_Wp p e below _ T13 (mkF m 27 #[.val (.ref px1), .val (.ref px2), .val (.int pi1), .val .null, .val (.int pi2), .val (.int pi3), .val (.int pi4)] [])
  refine own_step (fun _ k => XS.aloadN X13.here hx rfl (hb hby d8_27) rfl rfl k) ?_
  show own_Wp p e below _ T13 (mkF m 28 #[.val (.ref px1), .val (.ref px2), .val (.int pi1), .val .null, .val (.int pi2), .val (.int pi3), .val (.int pi4)] [(.ref px1)])
  refine own_step (fun _ k => XS.iload X13.here hx rfl (hb hby d8_28) rfl k) ?_
  show own_Wp p e below _ T13 (mkF m 30 #[.val (.ref px1), .val (.ref px2), .val (.int pi1), .val .null, .val (.int pi2), .val (.int pi3), .val (.int pi4)] [(.int pi4), (.ref px1)])
  have f14 := (((((P6.other W1 (Or.inr (slot_ne (Or.inl (hw _ (List.mem_of_getElem? (i := 53) rfl))) (Or.inl (hw _ (List.mem_of_getElem? (i := 43) rfl))) (by decide) (t := .boolean) (t' := (.object "java/lang/String")) (by decide) (by decide)))).other W4 (Or.inr (slot_ne (Or.inl (hw _ (List.mem_of_getElem? (i := 53) rfl))) (Or.inl (hw _ (List.mem_of_getElem? (i := 45) rfl))) (by decide) (t := .boolean) (t' := .int) (by decide) (by decide)))).other W7 (Or.inr (slot_ne (Or.inl (hw _ (List.mem_of_getElem? (i := 53) rfl))) (Or.inl (hw _ (List.mem_of_getElem? (i := 47) rfl))) (by decide) (t := .boolean) (t' := (.object "com/example/fieldnote/fieldnote/schema/Field")) (by decide) (by decide)))).other W10 (Or.inr (slot_ne (Or.inl (hw _ (List.mem_of_getElem? (i := 53) rfl))) (Or.inl (hw _ (List.mem_of_getElem? (i := 49) rfl))) (by decide) (t := .boolean) (t' := .boolean) (by decide) (by decide)))).other W13 (Or.inr (slot_ne (Or.inl (hw _ (List.mem_of_getElem? (i := 53) rfl))) (Or.inl (hw _ (List.mem_of_getElem? (i := 51) rfl))) (by decide) (t := .boolean) (t' := .boolean) (by decide) (by decide))))
  have f15 := (f12.wr W13)
  obtain ⟨T16, h16, X16, e16, W16, st16⟩ := putFN X13 hx hZ hown (hw _ (List.mem_of_getElem? (i := 52) rfl)) Via.refl e13 f14 f15 (Or.inl (hw _ (List.mem_of_getElem? (i := 53) rfl))) (hw _ (List.mem_of_getElem? (i := 31) rfl)) (ty := .boolean) (v' := (.int pi4)) (by decide) (own_nb B19) (own_fb B19) (g := (mkF m 30 #[.val (.ref px1), .val (.ref px2), .val (.int pi1), .val .null, .val (.int pi2), .val (.int pi3), .val (.int pi4)] [(.int pi4), (.ref px1)])) rfl rfl (hb hby d8_30)
  refine own_step st16 ?_
  have N16 := Fr.snoc X16 N13 G13
  have O16 := O13.wr W16 G13
  have K16 : Keep h0 h16 [px1] := K13.wr W16 (Or.inl (by simp))
  have Fw16 := f14.same W16
  show own_Wp p e below _ T16 (mkF m 33 #[.val (.ref px1), .val (.ref px2), .val (.int pi1), .val .null, .val (.int pi2), .val (.int pi3), .val (.int pi4)] [])
  have f17 := (f15.wr W16)
  have f18 := (((((Fw1.other W4 (Or.inr (slot_ne (Or.inl (hw _ (List.mem_of_getElem? (i := 43) rfl))) (Or.inl (hw _ (List.mem_of_getElem? (i := 45) rfl))) (by decide) (t := (.object "java/lang/String")) (t' := .int) (by decide) (by decide)))).other W7 (Or.inr (slot_ne (Or.inl (hw _ (List.mem_of_getElem? (i := 43) rfl))) (Or.inl (hw _ (List.mem_of_getElem? (i := 47) rfl))) (by decide) (t := (.object "java/lang/String")) (t' := (.object "com/example/fieldnote/fieldnote/schema/Field")) (by decide) (by decide)))).other W10 (Or.inr (slot_ne (Or.inl (hw _ (List.mem_of_getElem? (i := 43) rfl))) (Or.inl (hw _ (List.mem_of_getElem? (i := 49) rfl))) (by decide) (t := (.object "java/lang/String")) (t' := .boolean) (by decide) (by decide)))).other W13 (Or.inr (slot_ne (Or.inl (hw _ (List.mem_of_getElem? (i := 43) rfl))) (Or.inl (hw _ (List.mem_of_getElem? (i := 51) rfl))) (by decide) (t := (.object "java/lang/String")) (t' := .boolean) (by decide) (by decide)))).other W16 (Or.inr (slot_ne (Or.inl (hw _ (List.mem_of_getElem? (i := 43) rfl))) (Or.inl (hw _ (List.mem_of_getElem? (i := 53) rfl))) (by decide) (t := (.object "java/lang/String")) (t' := .boolean) (by decide) (by decide))))
  have f19 := ((((Fw4.other W7 (Or.inr (slot_ne (Or.inl (hw _ (List.mem_of_getElem? (i := 45) rfl))) (Or.inl (hw _ (List.mem_of_getElem? (i := 47) rfl))) (by decide) (t := .int) (t' := (.object "com/example/fieldnote/fieldnote/schema/Field")) (by decide) (by decide)))).other W10 (Or.inr (slot_ne (Or.inl (hw _ (List.mem_of_getElem? (i := 45) rfl))) (Or.inl (hw _ (List.mem_of_getElem? (i := 49) rfl))) (by decide) (t := .int) (t' := .boolean) (by decide) (by decide)))).other W13 (Or.inr (slot_ne (Or.inl (hw _ (List.mem_of_getElem? (i := 45) rfl))) (Or.inl (hw _ (List.mem_of_getElem? (i := 51) rfl))) (by decide) (t := .int) (t' := .boolean) (by decide) (by decide)))).other W16 (Or.inr (slot_ne (Or.inl (hw _ (List.mem_of_getElem? (i := 45) rfl))) (Or.inl (hw _ (List.mem_of_getElem? (i := 53) rfl))) (by decide) (t := .int) (t' := .boolean) (by decide) (by decide))))
  have f20 := (((Fw7.other W10 (Or.inr (slot_ne (Or.inl (hw _ (List.mem_of_getElem? (i := 47) rfl))) (Or.inl (hw _ (List.mem_of_getElem? (i := 49) rfl))) (by decide) (t := (.object "com/example/fieldnote/fieldnote/schema/Field")) (t' := .boolean) (by decide) (by decide)))).other W13 (Or.inr (slot_ne (Or.inl (hw _ (List.mem_of_getElem? (i := 47) rfl))) (Or.inl (hw _ (List.mem_of_getElem? (i := 51) rfl))) (by decide) (t := (.object "com/example/fieldnote/fieldnote/schema/Field")) (t' := .boolean) (by decide) (by decide)))).other W16 (Or.inr (slot_ne (Or.inl (hw _ (List.mem_of_getElem? (i := 47) rfl))) (Or.inl (hw _ (List.mem_of_getElem? (i := 53) rfl))) (by decide) (t := (.object "com/example/fieldnote/fieldnote/schema/Field")) (t' := .boolean) (by decide) (by decide))))
  have f21 := ((Fw10.other W13 (Or.inr (slot_ne (Or.inl (hw _ (List.mem_of_getElem? (i := 49) rfl))) (Or.inl (hw _ (List.mem_of_getElem? (i := 51) rfl))) (by decide) (t := .boolean) (t' := .boolean) (by decide) (by decide)))).other W16 (Or.inr (slot_ne (Or.inl (hw _ (List.mem_of_getElem? (i := 49) rfl))) (Or.inl (hw _ (List.mem_of_getElem? (i := 53) rfl))) (by decide) (t := .boolean) (t' := .boolean) (by decide) (by decide))))
  have f22 := (Fw13.other W16 (Or.inr (slot_ne (Or.inl (hw _ (List.mem_of_getElem? (i := 51) rfl))) (Or.inl (hw _ (List.mem_of_getElem? (i := 53) rfl))) (by decide) (t := .boolean) (t' := .boolean) (by decide) (by decide))))
  exact own_retV X16 hx hret hlk (hb hby d8_33) (by decide) (by decide) (by rw [e16]; exact ⟨rfl, N16, K16, f17, f18, f19, f20, f21, f22, Fw16⟩)

set_option maxRecDepth 65536 in
set_option maxHeartbeats 40000000 in
theorem rm8_7 (l : Launch) (Z : State) (a0 : Array Value) (hw : ∀ d ∈ tables_1, d.before a0 Z = true) (hS : ∀ d ∈ jdkStatics_1, d.before a0 Z = true) (ws : List Jvm.Cond) (px1 : Addr) (px2 : Addr) (pi1 : Int32) (pi2 : Int32) (pi3 : Int32) (pi4 : Int32) (px3 : Addr) (pi5 : Int32) (pi6 : Int32) (pi7 : Int32) (pi8 : Int32) (h0 : Heap) (n0 : Nat) (O0 : Old Z n0 h0) (P0 : Exa Z h0 px1 "com/example/fieldnote/fieldnote/text/TextSyntax$Entry") (P1 : Fld Z h0 px1 "com/example/fieldnote/fieldnote/text/TextSyntax$Entry" "name" "Ljava/lang/String;" (.ref px3)) (P2 : Fld Z h0 px1 "com/example/fieldnote/fieldnote/text/TextSyntax$Entry" "place" "I" (.int pi5)) (P3 : Fld Z h0 px1 "com/example/fieldnote/fieldnote/text/TextSyntax$Entry" "field" "Lcom/example/fieldnote/fieldnote/schema/Field;" .null) (P4 : Fld Z h0 px1 "com/example/fieldnote/fieldnote/text/TextSyntax$Entry" "colon" "Z" (.int pi6)) (P5 : Fld Z h0 px1 "com/example/fieldnote/fieldnote/text/TextSyntax$Entry" "inList" "Z" (.int pi7)) (P6 : Fld Z h0 px1 "com/example/fieldnote/fieldnote/text/TextSyntax$Entry" "messages" "Z" (.int pi8)) (G18 : n0 ≤ px1) (B30 : pi2 = (0 : Int32) ∨ pi2 = (1 : Int32)) (B31 : pi3 = (0 : Int32) ∨ pi3 = (1 : Int32)) (B32 : pi4 = (0 : Int32) ∨ pi4 = (1 : Int32)) :
    own_Met l Z (⟨"com/example/fieldnote/fieldnote/text/TextSyntax$Entry", "set", "(Ljava/lang/String;ILcom/example/fieldnote/fieldnote/schema/Field;ZZZ)V"⟩ : MethodName) (Jvm.Cond.code (⟨"com/example/fieldnote/fieldnote/text/TextSyntax$Entry", "set", "(Ljava/lang/String;ILcom/example/fieldnote/fieldnote/schema/Field;ZZZ)V"⟩ : MethodName) prog_51_method_2_code 7 none) ws ({ frames := 0, cells := 0, slots := 0, locals := 0 } : Room) #[(.ref px1), (.ref px2), (.int pi1), .null, (.int pi2), (.int pi3), (.int pi4)] h0 (fun v h L => (v = none ∧ Fr n0 L ∧ Keep h0 h [px1] ∧ Exa Z h px1 "com/example/fieldnote/fieldnote/text/TextSyntax$Entry" ∧ Fld Z h px1 "com/example/fieldnote/fieldnote/text/TextSyntax$Entry" "name" "Ljava/lang/String;" (.ref px2) ∧ Fld Z h px1 "com/example/fieldnote/fieldnote/text/TextSyntax$Entry" "place" "I" (.int pi1) ∧ Fld Z h px1 "com/example/fieldnote/fieldnote/text/TextSyntax$Entry" "field" "Lcom/example/fieldnote/fieldnote/schema/Field;" .null ∧ Fld Z h px1 "com/example/fieldnote/fieldnote/text/TextSyntax$Entry" "colon" "Z" (.int pi2) ∧ Fld Z h px1 "com/example/fieldnote/fieldnote/text/TextSyntax$Entry" "inList" "Z" (.int pi3) ∧ Fld Z h px1 "com/example/fieldnote/fieldnote/text/TextSyntax$Entry" "messages" "Z" (.int pi4))) := by
  refine own_met (own := "com/example/fieldnote/fieldnote/text/TextSyntax$Entry") (plainFor_of_name pn7) rfl ?_
  intro p e s m below meth c s₁ hx hby hml hown hnm hret hlk hZ e0 X0
  refine own_cast (g' := (mkF m 0 #[.val (.ref px1), .val (.ref px2), .val (.int pi1), .val .null, .val (.int pi2), .val (.int pi3), .val (.int pi4)] [])) (by first | (simp [entryFrame, mkF, argsToLocals, Value.category]; done) | rfl) ?_
  refine own_step (fun _ k => XS.aloadN X0.here hx rfl (hb hby d8_0) rfl rfl k) ?_
  show own_Wp p e below _ s₁ (mkF m 1 #[.val (.ref px1), .val (.ref px2), .val (.int pi1), .val .null, .val (.int pi2), .val (.int pi3), .val (.int pi4)] [(.ref px1)])
  refine own_step (fun _ k => XS.aloadN X0.here hx rfl (hb hby d8_1) rfl rfl k) ?_
  show own_Wp p e below _ s₁ (mkF m 2 #[.val (.ref px1), .val (.ref px2), .val (.int pi1), .val .null, .val (.int pi2), .val (.int pi3), .val (.int pi4)] [(.ref px2), (.ref px1)])
  obtain ⟨T1, h1, X1, e1, W1, st1⟩ := putF X0 hx hZ hown (host := "") (Or.inl (hw _ (List.mem_of_getElem? (i := 42) rfl))) Via.refl e0 P1 P0 (Or.inl (hw _ (List.mem_of_getElem? (i := 43) rfl))) (hw _ (List.mem_of_getElem? (i := 31) rfl)) (ty := (.object "java/lang/String")) (by decide) rfl rfl (g := (mkF m 2 #[.val (.ref px1), .val (.ref px2), .val (.int pi1), .val .null, .val (.int pi2), .val (.int pi3), .val (.int pi4)] [(.ref px2), (.ref px1)])) rfl rfl (hb hby d8_2)
  refine own_step st1 ?_
  have N1 := Fr.snoc X1 (Fr.nil n0) G18
  have O1 := O0.wr W1 G18
  have K1 : Keep h0 h1 [px1] := (Keep.refl h0 [px1]).wr W1 (Or.inl (by simp))
  have Fw1 := P1.same W1
  show own_Wp p e below _ T1 (mkF m 5 #[.val (.ref px1), .val (.ref px2), .val (.int pi1), .val .null, .val (.int pi2), .val (.int pi3), .val (.int pi4)] [])
  refine own_step (fun _ k => XS.aloadN X1.here hx rfl (hb hby d8_5) rfl rfl k) ?_
  show own_Wp p e below _ T1 (mkF m 6 #[.val (.ref px1), .val (.ref px2), .val (.int pi1), .val .null, .val (.int pi2), .val (.int pi3), .val (.int pi4)] [(.ref px1)])
  refine own_step (fun _ k => XS.iloadN X1.here hx rfl (hb hby d8_6) rfl k) ?_
  show own_Wp p e below _ T1 (mkF m 7 #[.val (.ref px1), .val (.ref px2), .val (.int pi1), .val .null, .val (.int pi2), .val (.int pi3), .val (.int pi4)] [(.int pi1), (.ref px1)])
  have f2 := (P2.other W1 (Or.inr (slot_ne (Or.inl (hw _ (List.mem_of_getElem? (i := 45) rfl))) (Or.inl (hw _ (List.mem_of_getElem? (i := 43) rfl))) (by decide) (t := .int) (t' := (.object "java/lang/String")) (by decide) (by decide))))
  have f3 := (P0.wr W1)
  obtain ⟨T4, h4, X4, e4, W4, st4⟩ := putF X1 hx hZ hown (host := "") (Or.inl (hw _ (List.mem_of_getElem? (i := 44) rfl))) Via.refl e1 f2 f3 (Or.inl (hw _ (List.mem_of_getElem? (i := 45) rfl))) (hw _ (List.mem_of_getElem? (i := 31) rfl)) (ty := .int) (by decide) rfl rfl (g := (mkF m 7 #[.val (.ref px1), .val (.ref px2), .val (.int pi1), .val .null, .val (.int pi2), .val (.int pi3), .val (.int pi4)] [(.int pi1), (.ref px1)])) rfl rfl (hb hby d8_7)
  refine own_step st4 ?_
  have N4 := Fr.snoc X4 N1 G18
  have O4 := O1.wr W4 G18
  have K4 : Keep h0 h4 [px1] := K1.wr W4 (Or.inl (by simp))
  have Fw4 := f2.same W4
  show own_Wp p e below _ T4 (mkF m 10 #[.val (.ref px1), .val (.ref px2), .val (.int pi1), .val .null, .val (.int pi2), .val (.int pi3), .val (.int pi4)] [])
  refine own_step (fun _ k => XS.aloadN X4.here hx rfl (hb hby d8_10) rfl rfl k) ?_
  show own_Wp p e below _ T4 (mkF m 11 #[.val (.ref px1), .val (.ref px2), .val (.int pi1), .val .null, .val (.int pi2), .val (.int pi3), .val (.int pi4)] [(.ref px1)])
  refine own_step (fun _ k => XS.aloadN X4.here hx rfl (hb hby d8_11) rfl rfl k) ?_
  show own_Wp p e below _ T4 (mkF m 12 #[.val (.ref px1), .val (.ref px2), .val (.int pi1), .val .null, .val (.int pi2), .val (.int pi3), .val (.int pi4)] [.null, (.ref px1)])
  have f5 := ((P3.other W1 (Or.inr (slot_ne (Or.inl (hw _ (List.mem_of_getElem? (i := 47) rfl))) (Or.inl (hw _ (List.mem_of_getElem? (i := 43) rfl))) (by decide) (t := (.object "com/example/fieldnote/fieldnote/schema/Field")) (t' := (.object "java/lang/String")) (by decide) (by decide)))).other W4 (Or.inr (slot_ne (Or.inl (hw _ (List.mem_of_getElem? (i := 47) rfl))) (Or.inl (hw _ (List.mem_of_getElem? (i := 45) rfl))) (by decide) (t := (.object "com/example/fieldnote/fieldnote/schema/Field")) (t' := .int) (by decide) (by decide))))
  have f6 := (f3.wr W4)
  obtain ⟨T7, h7, X7, e7, W7, st7⟩ := putF X4 hx hZ hown (host := "") (Or.inl (hw _ (List.mem_of_getElem? (i := 46) rfl))) Via.refl e4 f5 f6 (Or.inl (hw _ (List.mem_of_getElem? (i := 47) rfl))) (hw _ (List.mem_of_getElem? (i := 31) rfl)) (ty := (.object "com/example/fieldnote/fieldnote/schema/Field")) (by decide) rfl rfl (g := (mkF m 12 #[.val (.ref px1), .val (.ref px2), .val (.int pi1), .val .null, .val (.int pi2), .val (.int pi3), .val (.int pi4)] [.null, (.ref px1)])) rfl rfl (hb hby d8_12)
  refine own_step st7 ?_
  have N7 := Fr.snoc X7 N4 G18
  have O7 := O4.wr W7 G18
  have K7 : Keep h0 h7 [px1] := K4.wr W7 (Or.inl (by simp))
  have Fw7 := f5.same W7
  show own_Wp p e below _ T7 (mkF m 15 #[.val (.ref px1), .val (.ref px2), .val (.int pi1), .val .null, .val (.int pi2), .val (.int pi3), .val (.int pi4)] [])
  refine own_step (fun _ k => XS.aloadN X7.here hx rfl (hb hby d8_15) rfl rfl k) ?_
  show own_Wp p e below _ T7 (mkF m 16 #[.val (.ref px1), .val (.ref px2), .val (.int pi1), .val .null, .val (.int pi2), .val (.int pi3), .val (.int pi4)] [(.ref px1)])
  refine own_step (fun _ k => XS.iload X7.here hx rfl (hb hby d8_16) rfl k) ?_
  show own_Wp p e below _ T7 (mkF m 18 #[.val (.ref px1), .val (.ref px2), .val (.int pi1), .val .null, .val (.int pi2), .val (.int pi3), .val (.int pi4)] [(.int pi2), (.ref px1)])
  have f8 := (((P4.other W1 (Or.inr (slot_ne (Or.inl (hw _ (List.mem_of_getElem? (i := 49) rfl))) (Or.inl (hw _ (List.mem_of_getElem? (i := 43) rfl))) (by decide) (t := .boolean) (t' := (.object "java/lang/String")) (by decide) (by decide)))).other W4 (Or.inr (slot_ne (Or.inl (hw _ (List.mem_of_getElem? (i := 49) rfl))) (Or.inl (hw _ (List.mem_of_getElem? (i := 45) rfl))) (by decide) (t := .boolean) (t' := .int) (by decide) (by decide)))).other W7 (Or.inr (slot_ne (Or.inl (hw _ (List.mem_of_getElem? (i := 49) rfl))) (Or.inl (hw _ (List.mem_of_getElem? (i := 47) rfl))) (by decide) (t := .boolean) (t' := (.object "com/example/fieldnote/fieldnote/schema/Field")) (by decide) (by decide))))
  have f9 := (f6.wr W7)
  obtain ⟨T10, h10, X10, e10, W10, st10⟩ := putFN X7 hx hZ hown (hw _ (List.mem_of_getElem? (i := 48) rfl)) Via.refl e7 f8 f9 (Or.inl (hw _ (List.mem_of_getElem? (i := 49) rfl))) (hw _ (List.mem_of_getElem? (i := 31) rfl)) (ty := .boolean) (v' := (.int pi2)) (by decide) (own_nb B30) (own_fb B30) (g := (mkF m 18 #[.val (.ref px1), .val (.ref px2), .val (.int pi1), .val .null, .val (.int pi2), .val (.int pi3), .val (.int pi4)] [(.int pi2), (.ref px1)])) rfl rfl (hb hby d8_18)
  refine own_step st10 ?_
  have N10 := Fr.snoc X10 N7 G18
  have O10 := O7.wr W10 G18
  have K10 : Keep h0 h10 [px1] := K7.wr W10 (Or.inl (by simp))
  have Fw10 := f8.same W10
  show own_Wp p e below _ T10 (mkF m 21 #[.val (.ref px1), .val (.ref px2), .val (.int pi1), .val .null, .val (.int pi2), .val (.int pi3), .val (.int pi4)] [])
  refine own_step (fun _ k => XS.aloadN X10.here hx rfl (hb hby d8_21) rfl rfl k) ?_
  show own_Wp p e below _ T10 (mkF m 22 #[.val (.ref px1), .val (.ref px2), .val (.int pi1), .val .null, .val (.int pi2), .val (.int pi3), .val (.int pi4)] [(.ref px1)])
  refine own_step (fun _ k => XS.iload X10.here hx rfl (hb hby d8_22) rfl k) ?_
  show own_Wp p e below _ T10 (mkF m 24 #[.val (.ref px1), .val (.ref px2), .val (.int pi1), .val .null, .val (.int pi2), .val (.int pi3), .val (.int pi4)] [(.int pi3), (.ref px1)])
  have f11 := ((((P5.other W1 (Or.inr (slot_ne (Or.inl (hw _ (List.mem_of_getElem? (i := 51) rfl))) (Or.inl (hw _ (List.mem_of_getElem? (i := 43) rfl))) (by decide) (t := .boolean) (t' := (.object "java/lang/String")) (by decide) (by decide)))).other W4 (Or.inr (slot_ne (Or.inl (hw _ (List.mem_of_getElem? (i := 51) rfl))) (Or.inl (hw _ (List.mem_of_getElem? (i := 45) rfl))) (by decide) (t := .boolean) (t' := .int) (by decide) (by decide)))).other W7 (Or.inr (slot_ne (Or.inl (hw _ (List.mem_of_getElem? (i := 51) rfl))) (Or.inl (hw _ (List.mem_of_getElem? (i := 47) rfl))) (by decide) (t := .boolean) (t' := (.object "com/example/fieldnote/fieldnote/schema/Field")) (by decide) (by decide)))).other W10 (Or.inr (slot_ne (Or.inl (hw _ (List.mem_of_getElem? (i := 51) rfl))) (Or.inl (hw _ (List.mem_of_getElem? (i := 49) rfl))) (by decide) (t := .boolean) (t' := .boolean) (by decide) (by decide))))
  have f12 := (f9.wr W10)
  obtain ⟨T13, h13, X13, e13, W13, st13⟩ := putFN X10 hx hZ hown (hw _ (List.mem_of_getElem? (i := 50) rfl)) Via.refl e10 f11 f12 (Or.inl (hw _ (List.mem_of_getElem? (i := 51) rfl))) (hw _ (List.mem_of_getElem? (i := 31) rfl)) (ty := .boolean) (v' := (.int pi3)) (by decide) (own_nb B31) (own_fb B31) (g := (mkF m 24 #[.val (.ref px1), .val (.ref px2), .val (.int pi1), .val .null, .val (.int pi2), .val (.int pi3), .val (.int pi4)] [(.int pi3), (.ref px1)])) rfl rfl (hb hby d8_24)
  refine own_step st13 ?_
  have N13 := Fr.snoc X13 N10 G18
  have O13 := O10.wr W13 G18
  have K13 : Keep h0 h13 [px1] := K10.wr W13 (Or.inl (by simp))
  have Fw13 := f11.same W13
  show own_Wp p e below _ T13 (mkF m 27 #[.val (.ref px1), .val (.ref px2), .val (.int pi1), .val .null, .val (.int pi2), .val (.int pi3), .val (.int pi4)] [])
  refine own_step (fun _ k => XS.aloadN X13.here hx rfl (hb hby d8_27) rfl rfl k) ?_
  show own_Wp p e below _ T13 (mkF m 28 #[.val (.ref px1), .val (.ref px2), .val (.int pi1), .val .null, .val (.int pi2), .val (.int pi3), .val (.int pi4)] [(.ref px1)])
  refine own_step (fun _ k => XS.iload X13.here hx rfl (hb hby d8_28) rfl k) ?_
  show own_Wp p e below _ T13 (mkF m 30 #[.val (.ref px1), .val (.ref px2), .val (.int pi1), .val .null, .val (.int pi2), .val (.int pi3), .val (.int pi4)] [(.int pi4), (.ref px1)])
  have f14 := (((((P6.other W1 (Or.inr (slot_ne (Or.inl (hw _ (List.mem_of_getElem? (i := 53) rfl))) (Or.inl (hw _ (List.mem_of_getElem? (i := 43) rfl))) (by decide) (t := .boolean) (t' := (.object "java/lang/String")) (by decide) (by decide)))).other W4 (Or.inr (slot_ne (Or.inl (hw _ (List.mem_of_getElem? (i := 53) rfl))) (Or.inl (hw _ (List.mem_of_getElem? (i := 45) rfl))) (by decide) (t := .boolean) (t' := .int) (by decide) (by decide)))).other W7 (Or.inr (slot_ne (Or.inl (hw _ (List.mem_of_getElem? (i := 53) rfl))) (Or.inl (hw _ (List.mem_of_getElem? (i := 47) rfl))) (by decide) (t := .boolean) (t' := (.object "com/example/fieldnote/fieldnote/schema/Field")) (by decide) (by decide)))).other W10 (Or.inr (slot_ne (Or.inl (hw _ (List.mem_of_getElem? (i := 53) rfl))) (Or.inl (hw _ (List.mem_of_getElem? (i := 49) rfl))) (by decide) (t := .boolean) (t' := .boolean) (by decide) (by decide)))).other W13 (Or.inr (slot_ne (Or.inl (hw _ (List.mem_of_getElem? (i := 53) rfl))) (Or.inl (hw _ (List.mem_of_getElem? (i := 51) rfl))) (by decide) (t := .boolean) (t' := .boolean) (by decide) (by decide))))
  have f15 := (f12.wr W13)
  obtain ⟨T16, h16, X16, e16, W16, st16⟩ := putFN X13 hx hZ hown (hw _ (List.mem_of_getElem? (i := 52) rfl)) Via.refl e13 f14 f15 (Or.inl (hw _ (List.mem_of_getElem? (i := 53) rfl))) (hw _ (List.mem_of_getElem? (i := 31) rfl)) (ty := .boolean) (v' := (.int pi4)) (by decide) (own_nb B32) (own_fb B32) (g := (mkF m 30 #[.val (.ref px1), .val (.ref px2), .val (.int pi1), .val .null, .val (.int pi2), .val (.int pi3), .val (.int pi4)] [(.int pi4), (.ref px1)])) rfl rfl (hb hby d8_30)
  refine own_step st16 ?_
  have N16 := Fr.snoc X16 N13 G18
  have O16 := O13.wr W16 G18
  have K16 : Keep h0 h16 [px1] := K13.wr W16 (Or.inl (by simp))
  have Fw16 := f14.same W16
  show own_Wp p e below _ T16 (mkF m 33 #[.val (.ref px1), .val (.ref px2), .val (.int pi1), .val .null, .val (.int pi2), .val (.int pi3), .val (.int pi4)] [])
  have f17 := (f15.wr W16)
  have f18 := (((((Fw1.other W4 (Or.inr (slot_ne (Or.inl (hw _ (List.mem_of_getElem? (i := 43) rfl))) (Or.inl (hw _ (List.mem_of_getElem? (i := 45) rfl))) (by decide) (t := (.object "java/lang/String")) (t' := .int) (by decide) (by decide)))).other W7 (Or.inr (slot_ne (Or.inl (hw _ (List.mem_of_getElem? (i := 43) rfl))) (Or.inl (hw _ (List.mem_of_getElem? (i := 47) rfl))) (by decide) (t := (.object "java/lang/String")) (t' := (.object "com/example/fieldnote/fieldnote/schema/Field")) (by decide) (by decide)))).other W10 (Or.inr (slot_ne (Or.inl (hw _ (List.mem_of_getElem? (i := 43) rfl))) (Or.inl (hw _ (List.mem_of_getElem? (i := 49) rfl))) (by decide) (t := (.object "java/lang/String")) (t' := .boolean) (by decide) (by decide)))).other W13 (Or.inr (slot_ne (Or.inl (hw _ (List.mem_of_getElem? (i := 43) rfl))) (Or.inl (hw _ (List.mem_of_getElem? (i := 51) rfl))) (by decide) (t := (.object "java/lang/String")) (t' := .boolean) (by decide) (by decide)))).other W16 (Or.inr (slot_ne (Or.inl (hw _ (List.mem_of_getElem? (i := 43) rfl))) (Or.inl (hw _ (List.mem_of_getElem? (i := 53) rfl))) (by decide) (t := (.object "java/lang/String")) (t' := .boolean) (by decide) (by decide))))
  have f19 := ((((Fw4.other W7 (Or.inr (slot_ne (Or.inl (hw _ (List.mem_of_getElem? (i := 45) rfl))) (Or.inl (hw _ (List.mem_of_getElem? (i := 47) rfl))) (by decide) (t := .int) (t' := (.object "com/example/fieldnote/fieldnote/schema/Field")) (by decide) (by decide)))).other W10 (Or.inr (slot_ne (Or.inl (hw _ (List.mem_of_getElem? (i := 45) rfl))) (Or.inl (hw _ (List.mem_of_getElem? (i := 49) rfl))) (by decide) (t := .int) (t' := .boolean) (by decide) (by decide)))).other W13 (Or.inr (slot_ne (Or.inl (hw _ (List.mem_of_getElem? (i := 45) rfl))) (Or.inl (hw _ (List.mem_of_getElem? (i := 51) rfl))) (by decide) (t := .int) (t' := .boolean) (by decide) (by decide)))).other W16 (Or.inr (slot_ne (Or.inl (hw _ (List.mem_of_getElem? (i := 45) rfl))) (Or.inl (hw _ (List.mem_of_getElem? (i := 53) rfl))) (by decide) (t := .int) (t' := .boolean) (by decide) (by decide))))
  have f20 := (((Fw7.other W10 (Or.inr (slot_ne (Or.inl (hw _ (List.mem_of_getElem? (i := 47) rfl))) (Or.inl (hw _ (List.mem_of_getElem? (i := 49) rfl))) (by decide) (t := (.object "com/example/fieldnote/fieldnote/schema/Field")) (t' := .boolean) (by decide) (by decide)))).other W13 (Or.inr (slot_ne (Or.inl (hw _ (List.mem_of_getElem? (i := 47) rfl))) (Or.inl (hw _ (List.mem_of_getElem? (i := 51) rfl))) (by decide) (t := (.object "com/example/fieldnote/fieldnote/schema/Field")) (t' := .boolean) (by decide) (by decide)))).other W16 (Or.inr (slot_ne (Or.inl (hw _ (List.mem_of_getElem? (i := 47) rfl))) (Or.inl (hw _ (List.mem_of_getElem? (i := 53) rfl))) (by decide) (t := (.object "com/example/fieldnote/fieldnote/schema/Field")) (t' := .boolean) (by decide) (by decide))))
  have f21 := ((Fw10.other W13 (Or.inr (slot_ne (Or.inl (hw _ (List.mem_of_getElem? (i := 49) rfl))) (Or.inl (hw _ (List.mem_of_getElem? (i := 51) rfl))) (by decide) (t := .boolean) (t' := .boolean) (by decide) (by decide)))).other W16 (Or.inr (slot_ne (Or.inl (hw _ (List.mem_of_getElem? (i := 49) rfl))) (Or.inl (hw _ (List.mem_of_getElem? (i := 53) rfl))) (by decide) (t := .boolean) (t' := .boolean) (by decide) (by decide))))
  have f22 := (Fw13.other W16 (Or.inr (slot_ne (Or.inl (hw _ (List.mem_of_getElem? (i := 51) rfl))) (Or.inl (hw _ (List.mem_of_getElem? (i := 53) rfl))) (by decide) (t := .boolean) (t' := .boolean) (by decide) (by decide))))
  exact own_retV X16 hx hret hlk (hb hby d8_33) (by decide) (by decide) (by rw [e16]; exact ⟨rfl, N16, K16, f17, f18, f19, f20, f21, f22, Fw16⟩)

set_option maxRecDepth 65536 in
set_option maxHeartbeats 40000000 in
theorem rm9_8 (l : Launch) (Z : State) (a0 : Array Value) (hw : ∀ d ∈ tables_1, d.before a0 Z = true) (hS : ∀ d ∈ jdkStatics_1, d.before a0 Z = true) (ws : List Jvm.Cond) (px1 : Addr) (px2 : Addr) (h0 : Heap) (n0 : Nat) (O0 : Old Z n0 h0) (P1 : Fld Z h0 px1 "com/example/fieldnote/fieldnote/text/TextSyntax$Entry" "name" "Ljava/lang/String;" (.ref px2)) :
    own_Met l Z (⟨"com/example/fieldnote/fieldnote/text/TextSyntax$Entry", "name", "()Ljava/lang/String;"⟩ : MethodName) (Jvm.Cond.code (⟨"com/example/fieldnote/fieldnote/text/TextSyntax$Entry", "name", "()Ljava/lang/String;"⟩ : MethodName) prog_51_method_3_code 1 (some (.object "java/lang/String"))) ws ({ frames := 0, cells := 0, slots := 0, locals := 0 } : Room) #[(.ref px1)] h0 (fun v h L => (v = some (.ref px2) ∧ Fr n0 L ∧ h = h0)) := by
  refine own_met (own := "com/example/fieldnote/fieldnote/text/TextSyntax$Entry") (plainFor_of_name pn7) rfl ?_
  intro p e s m below meth c s₁ hx hby hml hown hnm hret hlk hZ e0 X0
  refine own_cast (g' := (mkF m 0 #[.val (.ref px1)] [])) (by first | (simp [entryFrame, mkF, argsToLocals, Value.category]; done) | rfl) ?_
  refine own_step (fun _ k => XS.aloadN X0.here hx rfl (hb hby d9_0) rfl rfl k) ?_
  show own_Wp p e below _ s₁ (mkF m 1 #[.val (.ref px1)] [(.ref px1)])
  obtain ⟨T1, X1, e1, st1⟩ := getF X0 hx hZ hown (host := "") (Or.inl (hw _ (List.mem_of_getElem? (i := 42) rfl))) Via.refl e0 P1 (g := (mkF m 1 #[.val (.ref px1)] [(.ref px1)])) rfl rfl (hb hby d9_1)
  refine own_step st1 ?_
  show own_Wp p e below _ T1 (mkF m 4 #[.val (.ref px1)] [(.ref px2)])
  exact own_retA X1 hx hret rfl rfl hlk (hb hby d9_4) (by decide) (by decide) (by rw [e1]; exact ⟨rfl, (Fr.nil n0), rfl⟩)

set_option maxRecDepth 65536 in
set_option maxHeartbeats 40000000 in
theorem rm10_9 (l : Launch) (Z : State) (a0 : Array Value) (hw : ∀ d ∈ tables_1, d.before a0 Z = true) (hS : ∀ d ∈ jdkStatics_1, d.before a0 Z = true) (ws : List Jvm.Cond) (px1 : Addr) (pi1 : Int32) (h0 : Heap) (n0 : Nat) (O0 : Old Z n0 h0) (P2 : Fld Z h0 px1 "com/example/fieldnote/fieldnote/text/TextSyntax$Entry" "place" "I" (.int pi1)) :
    own_Met l Z (⟨"com/example/fieldnote/fieldnote/text/TextSyntax$Entry", "place", "()I"⟩ : MethodName) (Jvm.Cond.code (⟨"com/example/fieldnote/fieldnote/text/TextSyntax$Entry", "place", "()I"⟩ : MethodName) prog_51_method_4_code 1 (some .int)) ws ({ frames := 0, cells := 0, slots := 0, locals := 0 } : Room) #[(.ref px1)] h0 (fun v h L => (v = some (.int pi1) ∧ Fr n0 L ∧ h = h0)) := by
  refine own_met (own := "com/example/fieldnote/fieldnote/text/TextSyntax$Entry") (plainFor_of_name pn7) rfl ?_
  intro p e s m below meth c s₁ hx hby hml hown hnm hret hlk hZ e0 X0
  refine own_cast (g' := (mkF m 0 #[.val (.ref px1)] [])) (by first | (simp [entryFrame, mkF, argsToLocals, Value.category]; done) | rfl) ?_
  refine own_step (fun _ k => XS.aloadN X0.here hx rfl (hb hby d10_0) rfl rfl k) ?_
  show own_Wp p e below _ s₁ (mkF m 1 #[.val (.ref px1)] [(.ref px1)])
  obtain ⟨T1, X1, e1, st1⟩ := getF X0 hx hZ hown (host := "") (Or.inl (hw _ (List.mem_of_getElem? (i := 44) rfl))) Via.refl e0 P2 (g := (mkF m 1 #[.val (.ref px1)] [(.ref px1)])) rfl rfl (hb hby d10_1)
  refine own_step st1 ?_
  show own_Wp p e below _ T1 (mkF m 4 #[.val (.ref px1)] [(.int pi1)])
  exact own_retI X1 hx hret hlk (hb hby d10_4) (by decide) (by decide) (by rw [e1]; exact ⟨rfl, (Fr.nil n0), rfl⟩)

set_option maxRecDepth 65536 in
set_option maxHeartbeats 40000000 in
theorem rm11_10 (l : Launch) (Z : State) (a0 : Array Value) (hw : ∀ d ∈ tables_1, d.before a0 Z = true) (hS : ∀ d ∈ jdkStatics_1, d.before a0 Z = true) (ws : List Jvm.Cond) (px1 : Addr) (h0 : Heap) (n0 : Nat) (O0 : Old Z n0 h0) (P3 : Fld Z h0 px1 "com/example/fieldnote/fieldnote/text/TextSyntax$Entry" "field" "Lcom/example/fieldnote/fieldnote/schema/Field;" .null) :
    own_Met l Z (⟨"com/example/fieldnote/fieldnote/text/TextSyntax$Entry", "field", "()Lcom/example/fieldnote/fieldnote/schema/Field;"⟩ : MethodName) (Jvm.Cond.code (⟨"com/example/fieldnote/fieldnote/text/TextSyntax$Entry", "field", "()Lcom/example/fieldnote/fieldnote/schema/Field;"⟩ : MethodName) prog_51_method_5_code 1 (some (.object "com/example/fieldnote/fieldnote/schema/Field"))) ws ({ frames := 0, cells := 0, slots := 0, locals := 0 } : Room) #[(.ref px1)] h0 (fun v h L => (v = some .null ∧ Fr n0 L ∧ h = h0)) := by
  refine own_met (own := "com/example/fieldnote/fieldnote/text/TextSyntax$Entry") (plainFor_of_name pn7) rfl ?_
  intro p e s m below meth c s₁ hx hby hml hown hnm hret hlk hZ e0 X0
  refine own_cast (g' := (mkF m 0 #[.val (.ref px1)] [])) (by first | (simp [entryFrame, mkF, argsToLocals, Value.category]; done) | rfl) ?_
  refine own_step (fun _ k => XS.aloadN X0.here hx rfl (hb hby d11_0) rfl rfl k) ?_
  show own_Wp p e below _ s₁ (mkF m 1 #[.val (.ref px1)] [(.ref px1)])
  obtain ⟨T1, X1, e1, st1⟩ := getF X0 hx hZ hown (host := "") (Or.inl (hw _ (List.mem_of_getElem? (i := 46) rfl))) Via.refl e0 P3 (g := (mkF m 1 #[.val (.ref px1)] [(.ref px1)])) rfl rfl (hb hby d11_1)
  refine own_step st1 ?_
  show own_Wp p e below _ T1 (mkF m 4 #[.val (.ref px1)] [.null])
  exact own_retA X1 hx hret rfl rfl hlk (hb hby d11_4) (by decide) (by decide) (by rw [e1]; exact ⟨rfl, (Fr.nil n0), rfl⟩)

set_option maxRecDepth 65536 in
set_option maxHeartbeats 40000000 in
theorem rm12_11 (l : Launch) (Z : State) (a0 : Array Value) (hw : ∀ d ∈ tables_1, d.before a0 Z = true) (hS : ∀ d ∈ jdkStatics_1, d.before a0 Z = true) (ws : List Jvm.Cond) (px1 : Addr) (pi2 : Int32) (h0 : Heap) (n0 : Nat) (O0 : Old Z n0 h0) (P4 : Fld Z h0 px1 "com/example/fieldnote/fieldnote/text/TextSyntax$Entry" "colon" "Z" (.int pi2)) (B17 : pi2 = (0 : Int32) ∨ pi2 = (1 : Int32)) :
    own_Met l Z (⟨"com/example/fieldnote/fieldnote/text/TextSyntax$Entry", "colon", "()Z"⟩ : MethodName) (Jvm.Cond.code (⟨"com/example/fieldnote/fieldnote/text/TextSyntax$Entry", "colon", "()Z"⟩ : MethodName) prog_51_method_6_code 1 (some .boolean)) ws ({ frames := 0, cells := 0, slots := 0, locals := 0 } : Room) #[(.ref px1)] h0 (fun v h L => (v = some (.int pi2) ∧ Fr n0 L ∧ h = h0)) := by
  refine own_met (own := "com/example/fieldnote/fieldnote/text/TextSyntax$Entry") (plainFor_of_name pn7) rfl ?_
  intro p e s m below meth c s₁ hx hby hml hown hnm hret hlk hZ e0 X0
  refine own_cast (g' := (mkF m 0 #[.val (.ref px1)] [])) (by first | (simp [entryFrame, mkF, argsToLocals, Value.category]; done) | rfl) ?_
  refine own_step (fun _ k => XS.aloadN X0.here hx rfl (hb hby d12_0) rfl rfl k) ?_
  show own_Wp p e below _ s₁ (mkF m 1 #[.val (.ref px1)] [(.ref px1)])
  obtain ⟨T1, X1, e1, st1⟩ := getF X0 hx hZ hown (host := "") (Or.inl (hw _ (List.mem_of_getElem? (i := 48) rfl))) Via.refl e0 P4 (g := (mkF m 1 #[.val (.ref px1)] [(.ref px1)])) rfl rfl (hb hby d12_1)
  refine own_step st1 ?_
  show own_Wp p e below _ T1 (mkF m 4 #[.val (.ref px1)] [(.int pi2)])
  exact own_retN X1 hx (t := .boolean) hret (by simp) hlk (hb hby d12_4) (by decide) (by decide) (by rw [own_narb B17, e1]; exact ⟨rfl, (Fr.nil n0), rfl⟩)

set_option maxRecDepth 65536 in
set_option maxHeartbeats 40000000 in
theorem rm13_12 (l : Launch) (Z : State) (a0 : Array Value) (hw : ∀ d ∈ tables_1, d.before a0 Z = true) (hS : ∀ d ∈ jdkStatics_1, d.before a0 Z = true) (ws : List Jvm.Cond) (px1 : Addr) (pi3 : Int32) (h0 : Heap) (n0 : Nat) (O0 : Old Z n0 h0) (P5 : Fld Z h0 px1 "com/example/fieldnote/fieldnote/text/TextSyntax$Entry" "inList" "Z" (.int pi3)) (B18 : pi3 = (0 : Int32) ∨ pi3 = (1 : Int32)) :
    own_Met l Z (⟨"com/example/fieldnote/fieldnote/text/TextSyntax$Entry", "inList", "()Z"⟩ : MethodName) (Jvm.Cond.code (⟨"com/example/fieldnote/fieldnote/text/TextSyntax$Entry", "inList", "()Z"⟩ : MethodName) prog_51_method_7_code 1 (some .boolean)) ws ({ frames := 0, cells := 0, slots := 0, locals := 0 } : Room) #[(.ref px1)] h0 (fun v h L => (v = some (.int pi3) ∧ Fr n0 L ∧ h = h0)) := by
  refine own_met (own := "com/example/fieldnote/fieldnote/text/TextSyntax$Entry") (plainFor_of_name pn7) rfl ?_
  intro p e s m below meth c s₁ hx hby hml hown hnm hret hlk hZ e0 X0
  refine own_cast (g' := (mkF m 0 #[.val (.ref px1)] [])) (by first | (simp [entryFrame, mkF, argsToLocals, Value.category]; done) | rfl) ?_
  refine own_step (fun _ k => XS.aloadN X0.here hx rfl (hb hby d13_0) rfl rfl k) ?_
  show own_Wp p e below _ s₁ (mkF m 1 #[.val (.ref px1)] [(.ref px1)])
  obtain ⟨T1, X1, e1, st1⟩ := getF X0 hx hZ hown (host := "") (Or.inl (hw _ (List.mem_of_getElem? (i := 50) rfl))) Via.refl e0 P5 (g := (mkF m 1 #[.val (.ref px1)] [(.ref px1)])) rfl rfl (hb hby d13_1)
  refine own_step st1 ?_
  show own_Wp p e below _ T1 (mkF m 4 #[.val (.ref px1)] [(.int pi3)])
  exact own_retN X1 hx (t := .boolean) hret (by simp) hlk (hb hby d13_4) (by decide) (by decide) (by rw [own_narb B18, e1]; exact ⟨rfl, (Fr.nil n0), rfl⟩)

set_option maxRecDepth 65536 in
set_option maxHeartbeats 40000000 in
theorem rm14_13 (l : Launch) (Z : State) (a0 : Array Value) (hw : ∀ d ∈ tables_1, d.before a0 Z = true) (hS : ∀ d ∈ jdkStatics_1, d.before a0 Z = true) (ws : List Jvm.Cond) (px1 : Addr) (pi4 : Int32) (h0 : Heap) (n0 : Nat) (O0 : Old Z n0 h0) (P6 : Fld Z h0 px1 "com/example/fieldnote/fieldnote/text/TextSyntax$Entry" "messages" "Z" (.int pi4)) (B19 : pi4 = (0 : Int32) ∨ pi4 = (1 : Int32)) :
    own_Met l Z (⟨"com/example/fieldnote/fieldnote/text/TextSyntax$Entry", "messages", "()Z"⟩ : MethodName) (Jvm.Cond.code (⟨"com/example/fieldnote/fieldnote/text/TextSyntax$Entry", "messages", "()Z"⟩ : MethodName) prog_51_method_8_code 1 (some .boolean)) ws ({ frames := 0, cells := 0, slots := 0, locals := 0 } : Room) #[(.ref px1)] h0 (fun v h L => (v = some (.int pi4) ∧ Fr n0 L ∧ h = h0)) := by
  refine own_met (own := "com/example/fieldnote/fieldnote/text/TextSyntax$Entry") (plainFor_of_name pn7) rfl ?_
  intro p e s m below meth c s₁ hx hby hml hown hnm hret hlk hZ e0 X0
  refine own_cast (g' := (mkF m 0 #[.val (.ref px1)] [])) (by first | (simp [entryFrame, mkF, argsToLocals, Value.category]; done) | rfl) ?_
  refine own_step (fun _ k => XS.aloadN X0.here hx rfl (hb hby d14_0) rfl rfl k) ?_
  show own_Wp p e below _ s₁ (mkF m 1 #[.val (.ref px1)] [(.ref px1)])
  obtain ⟨T1, X1, e1, st1⟩ := getF X0 hx hZ hown (host := "") (Or.inl (hw _ (List.mem_of_getElem? (i := 52) rfl))) Via.refl e0 P6 (g := (mkF m 1 #[.val (.ref px1)] [(.ref px1)])) rfl rfl (hb hby d14_1)
  refine own_step st1 ?_
  show own_Wp p e below _ T1 (mkF m 4 #[.val (.ref px1)] [(.int pi4)])
  exact own_retN X1 hx (t := .boolean) hret (by simp) hlk (hb hby d14_4) (by decide) (by decide) (by rw [own_narb B19, e1]; exact ⟨rfl, (Fr.nil n0), rfl⟩)

set_option maxRecDepth 65536 in
set_option maxHeartbeats 40000000 in
theorem rm8_14 (l : Launch) (Z : State) (a0 : Array Value) (hw : ∀ d ∈ tables_1, d.before a0 Z = true) (hS : ∀ d ∈ jdkStatics_1, d.before a0 Z = true) (ws : List Jvm.Cond) (px1 : Addr) (pi1 : Int32) (pi2 : Int32) (pi3 : Int32) (pi4 : Int32) (px2 : Addr) (pi5 : Int32) (pi6 : Int32) (pi7 : Int32) (pi8 : Int32) (h0 : Heap) (n0 : Nat) (O0 : Old Z n0 h0) (P0 : Exa Z h0 px1 "com/example/fieldnote/fieldnote/text/TextSyntax$Entry") (P1 : Fld Z h0 px1 "com/example/fieldnote/fieldnote/text/TextSyntax$Entry" "name" "Ljava/lang/String;" (.ref px2)) (P2 : Fld Z h0 px1 "com/example/fieldnote/fieldnote/text/TextSyntax$Entry" "place" "I" (.int pi5)) (P3 : Fld Z h0 px1 "com/example/fieldnote/fieldnote/text/TextSyntax$Entry" "field" "Lcom/example/fieldnote/fieldnote/schema/Field;" .null) (P4 : Fld Z h0 px1 "com/example/fieldnote/fieldnote/text/TextSyntax$Entry" "colon" "Z" (.int pi6)) (P5 : Fld Z h0 px1 "com/example/fieldnote/fieldnote/text/TextSyntax$Entry" "inList" "Z" (.int pi7)) (P6 : Fld Z h0 px1 "com/example/fieldnote/fieldnote/text/TextSyntax$Entry" "messages" "Z" (.int pi8)) (G13 : n0 ≤ px1) (B17 : pi2 = (0 : Int32) ∨ pi2 = (1 : Int32)) (B18 : pi3 = (0 : Int32) ∨ pi3 = (1 : Int32)) (B19 : pi4 = (0 : Int32) ∨ pi4 = (1 : Int32)) :
    own_Met l Z (⟨"com/example/fieldnote/fieldnote/text/TextSyntax$Entry", "set", "(Ljava/lang/String;ILcom/example/fieldnote/fieldnote/schema/Field;ZZZ)V"⟩ : MethodName) (Jvm.Cond.code (⟨"com/example/fieldnote/fieldnote/text/TextSyntax$Entry", "set", "(Ljava/lang/String;ILcom/example/fieldnote/fieldnote/schema/Field;ZZZ)V"⟩ : MethodName) prog_51_method_2_code 7 none) ws ({ frames := 0, cells := 0, slots := 0, locals := 0 } : Room) #[(.ref px1), .null, (.int pi1), .null, (.int pi2), (.int pi3), (.int pi4)] h0 (fun v h L => (v = none ∧ Fr n0 L ∧ Keep h0 h [px1] ∧ Exa Z h px1 "com/example/fieldnote/fieldnote/text/TextSyntax$Entry" ∧ Fld Z h px1 "com/example/fieldnote/fieldnote/text/TextSyntax$Entry" "name" "Ljava/lang/String;" .null ∧ Fld Z h px1 "com/example/fieldnote/fieldnote/text/TextSyntax$Entry" "place" "I" (.int pi1) ∧ Fld Z h px1 "com/example/fieldnote/fieldnote/text/TextSyntax$Entry" "field" "Lcom/example/fieldnote/fieldnote/schema/Field;" .null ∧ Fld Z h px1 "com/example/fieldnote/fieldnote/text/TextSyntax$Entry" "colon" "Z" (.int pi2) ∧ Fld Z h px1 "com/example/fieldnote/fieldnote/text/TextSyntax$Entry" "inList" "Z" (.int pi3) ∧ Fld Z h px1 "com/example/fieldnote/fieldnote/text/TextSyntax$Entry" "messages" "Z" (.int pi4))) := by
  refine own_met (own := "com/example/fieldnote/fieldnote/text/TextSyntax$Entry") (plainFor_of_name pn7) rfl ?_
  intro p e s m below meth c s₁ hx hby hml hown hnm hret hlk hZ e0 X0
  refine own_cast (g' := (mkF m 0 #[.val (.ref px1), .val .null, .val (.int pi1), .val .null, .val (.int pi2), .val (.int pi3), .val (.int pi4)] [])) (by first | (simp [entryFrame, mkF, argsToLocals, Value.category]; done) | rfl) ?_
  refine own_step (fun _ k => XS.aloadN X0.here hx rfl (hb hby d8_0) rfl rfl k) ?_
  show own_Wp p e below _ s₁ (mkF m 1 #[.val (.ref px1), .val .null, .val (.int pi1), .val .null, .val (.int pi2), .val (.int pi3), .val (.int pi4)] [(.ref px1)])
  refine own_step (fun _ k => XS.aloadN X0.here hx rfl (hb hby d8_1) rfl rfl k) ?_
  show own_Wp p e below _ s₁ (mkF m 2 #[.val (.ref px1), .val .null, .val (.int pi1), .val .null, .val (.int pi2), .val (.int pi3), .val (.int pi4)] [.null, (.ref px1)])
  obtain ⟨T1, h1, X1, e1, W1, st1⟩ := putF X0 hx hZ hown (host := "") (Or.inl (hw _ (List.mem_of_getElem? (i := 42) rfl))) Via.refl e0 P1 P0 (Or.inl (hw _ (List.mem_of_getElem? (i := 43) rfl))) (hw _ (List.mem_of_getElem? (i := 31) rfl)) (ty := (.object "java/lang/String")) (by decide) rfl rfl (g := (mkF m 2 #[.val (.ref px1), .val .null, .val (.int pi1), .val .null, .val (.int pi2), .val (.int pi3), .val (.int pi4)] [.null, (.ref px1)])) rfl rfl (hb hby d8_2)
  refine own_step st1 ?_
  have N1 := Fr.snoc X1 (Fr.nil n0) G13
  have O1 := O0.wr W1 G13
  have K1 : Keep h0 h1 [px1] := (Keep.refl h0 [px1]).wr W1 (Or.inl (by simp))
  have Fw1 := P1.same W1
  show own_Wp p e below _ T1 (mkF m 5 #[.val (.ref px1), .val .null, .val (.int pi1), .val .null, .val (.int pi2), .val (.int pi3), .val (.int pi4)] [])
  refine own_step (fun _ k => XS.aloadN X1.here hx rfl (hb hby d8_5) rfl rfl k) ?_
  show own_Wp p e below _ T1 (mkF m 6 #[.val (.ref px1), .val .null, .val (.int pi1), .val .null, .val (.int pi2), .val (.int pi3), .val (.int pi4)] [(.ref px1)])
  refine own_step (fun _ k => XS.iloadN X1.here hx rfl (hb hby d8_6) rfl k) ?_
  show own_Wp p e below _ T1 (mkF m 7 #[.val (.ref px1), .val .null, .val (.int pi1), .val .null, .val (.int pi2), .val (.int pi3), .val (.int pi4)] [(.int pi1), (.ref px1)])
  have f2 := (P2.other W1 (Or.inr (slot_ne (Or.inl (hw _ (List.mem_of_getElem? (i := 45) rfl))) (Or.inl (hw _ (List.mem_of_getElem? (i := 43) rfl))) (by decide) (t := .int) (t' := (.object "java/lang/String")) (by decide) (by decide))))
  have f3 := (P0.wr W1)
  obtain ⟨T4, h4, X4, e4, W4, st4⟩ := putF X1 hx hZ hown (host := "") (Or.inl (hw _ (List.mem_of_getElem? (i := 44) rfl))) Via.refl e1 f2 f3 (Or.inl (hw _ (List.mem_of_getElem? (i := 45) rfl))) (hw _ (List.mem_of_getElem? (i := 31) rfl)) (ty := .int) (by decide) rfl rfl (g := (mkF m 7 #[.val (.ref px1), .val .null, .val (.int pi1), .val .null, .val (.int pi2), .val (.int pi3), .val (.int pi4)] [(.int pi1), (.ref px1)])) rfl rfl (hb hby d8_7)
  refine own_step st4 ?_
  have N4 := Fr.snoc X4 N1 G13
  have O4 := O1.wr W4 G13
  have K4 : Keep h0 h4 [px1] := K1.wr W4 (Or.inl (by simp))
  have Fw4 := f2.same W4
  show own_Wp p e below _ T4 (mkF m 10 #[.val (.ref px1), .val .null, .val (.int pi1), .val .null, .val (.int pi2), .val (.int pi3), .val (.int pi4)] [])
  refine own_step (fun _ k => XS.aloadN X4.here hx rfl (hb hby d8_10) rfl rfl k) ?_
  show own_Wp p e below _ T4 (mkF m 11 #[.val (.ref px1), .val .null, .val (.int pi1), .val .null, .val (.int pi2), .val (.int pi3), .val (.int pi4)] [(.ref px1)])
  refine own_step (fun _ k => XS.aloadN X4.here hx rfl (hb hby d8_11) rfl rfl k) ?_
  show own_Wp p e below _ T4 (mkF m 12 #[.val (.ref px1), .val .null, .val (.int pi1), .val .null, .val (.int pi2), .val (.int pi3), .val (.int pi4)] [.null, (.ref px1)])
  have f5 := ((P3.other W1 (Or.inr (slot_ne (Or.inl (hw _ (List.mem_of_getElem? (i := 47) rfl))) (Or.inl (hw _ (List.mem_of_getElem? (i := 43) rfl))) (by decide) (t := (.object "com/example/fieldnote/fieldnote/schema/Field")) (t' := (.object "java/lang/String")) (by decide) (by decide)))).other W4 (Or.inr (slot_ne (Or.inl (hw _ (List.mem_of_getElem? (i := 47) rfl))) (Or.inl (hw _ (List.mem_of_getElem? (i := 45) rfl))) (by decide) (t := (.object "com/example/fieldnote/fieldnote/schema/Field")) (t' := .int) (by decide) (by decide))))
  have f6 := (f3.wr W4)
  obtain ⟨T7, h7, X7, e7, W7, st7⟩ := putF X4 hx hZ hown (host := "") (Or.inl (hw _ (List.mem_of_getElem? (i := 46) rfl))) Via.refl e4 f5 f6 (Or.inl (hw _ (List.mem_of_getElem? (i := 47) rfl))) (hw _ (List.mem_of_getElem? (i := 31) rfl)) (ty := (.object "com/example/fieldnote/fieldnote/schema/Field")) (by decide) rfl rfl (g := (mkF m 12 #[.val (.ref px1), .val .null, .val (.int pi1), .val .null, .val (.int pi2), .val (.int pi3), .val (.int pi4)] [.null, (.ref px1)])) rfl rfl (hb hby d8_12)
  refine own_step st7 ?_
  have N7 := Fr.snoc X7 N4 G13
  have O7 := O4.wr W7 G13
  have K7 : Keep h0 h7 [px1] := K4.wr W7 (Or.inl (by simp))
  have Fw7 := f5.same W7
  show own_Wp p e below _ T7 (mkF m 15 #[.val (.ref px1), .val .null, .val (.int pi1), .val .null, .val (.int pi2), .val (.int pi3), .val (.int pi4)] [])
  refine own_step (fun _ k => XS.aloadN X7.here hx rfl (hb hby d8_15) rfl rfl k) ?_
  show own_Wp p e below _ T7 (mkF m 16 #[.val (.ref px1), .val .null, .val (.int pi1), .val .null, .val (.int pi2), .val (.int pi3), .val (.int pi4)] [(.ref px1)])
  refine own_step (fun _ k => XS.iload X7.here hx rfl (hb hby d8_16) rfl k) ?_
  show own_Wp p e below _ T7 (mkF m 18 #[.val (.ref px1), .val .null, .val (.int pi1), .val .null, .val (.int pi2), .val (.int pi3), .val (.int pi4)] [(.int pi2), (.ref px1)])
  have f8 := (((P4.other W1 (Or.inr (slot_ne (Or.inl (hw _ (List.mem_of_getElem? (i := 49) rfl))) (Or.inl (hw _ (List.mem_of_getElem? (i := 43) rfl))) (by decide) (t := .boolean) (t' := (.object "java/lang/String")) (by decide) (by decide)))).other W4 (Or.inr (slot_ne (Or.inl (hw _ (List.mem_of_getElem? (i := 49) rfl))) (Or.inl (hw _ (List.mem_of_getElem? (i := 45) rfl))) (by decide) (t := .boolean) (t' := .int) (by decide) (by decide)))).other W7 (Or.inr (slot_ne (Or.inl (hw _ (List.mem_of_getElem? (i := 49) rfl))) (Or.inl (hw _ (List.mem_of_getElem? (i := 47) rfl))) (by decide) (t := .boolean) (t' := (.object "com/example/fieldnote/fieldnote/schema/Field")) (by decide) (by decide))))
  have f9 := (f6.wr W7)
  obtain ⟨T10, h10, X10, e10, W10, st10⟩ := putFN X7 hx hZ hown (hw _ (List.mem_of_getElem? (i := 48) rfl)) Via.refl e7 f8 f9 (Or.inl (hw _ (List.mem_of_getElem? (i := 49) rfl))) (hw _ (List.mem_of_getElem? (i := 31) rfl)) (ty := .boolean) (v' := (.int pi2)) (by decide) (own_nb B17) (own_fb B17) (g := (mkF m 18 #[.val (.ref px1), .val .null, .val (.int pi1), .val .null, .val (.int pi2), .val (.int pi3), .val (.int pi4)] [(.int pi2), (.ref px1)])) rfl rfl (hb hby d8_18)
  refine own_step st10 ?_
  have N10 := Fr.snoc X10 N7 G13
  have O10 := O7.wr W10 G13
  have K10 : Keep h0 h10 [px1] := K7.wr W10 (Or.inl (by simp))
  have Fw10 := f8.same W10
  show own_Wp p e below _ T10 (mkF m 21 #[.val (.ref px1), .val .null, .val (.int pi1), .val .null, .val (.int pi2), .val (.int pi3), .val (.int pi4)] [])
  refine own_step (fun _ k => XS.aloadN X10.here hx rfl (hb hby d8_21) rfl rfl k) ?_
  show own_Wp p e below _ T10 (mkF m 22 #[.val (.ref px1), .val .null, .val (.int pi1), .val .null, .val (.int pi2), .val (.int pi3), .val (.int pi4)] [(.ref px1)])
  refine own_step (fun _ k => XS.iload X10.here hx rfl (hb hby d8_22) rfl k) ?_
  show own_Wp p e below _ T10 (mkF m 24 #[.val (.ref px1), .val .null, .val (.int pi1), .val .null, .val (.int pi2), .val (.int pi3), .val (.int pi4)] [(.int pi3), (.ref px1)])
  have f11 := ((((P5.other W1 (Or.inr (slot_ne (Or.inl (hw _ (List.mem_of_getElem? (i := 51) rfl))) (Or.inl (hw _ (List.mem_of_getElem? (i := 43) rfl))) (by decide) (t := .boolean) (t' := (.object "java/lang/String")) (by decide) (by decide)))).other W4 (Or.inr (slot_ne (Or.inl (hw _ (List.mem_of_getElem? (i := 51) rfl))) (Or.inl (hw _ (List.mem_of_getElem? (i := 45) rfl))) (by decide) (t := .boolean) (t' := .int) (by decide) (by decide)))).other W7 (Or.inr (slot_ne (Or.inl (hw _ (List.mem_of_getElem? (i := 51) rfl))) (Or.inl (hw _ (List.mem_of_getElem? (i := 47) rfl))) (by decide) (t := .boolean) (t' := (.object "com/example/fieldnote/fieldnote/schema/Field")) (by decide) (by decide)))).other W10 (Or.inr (slot_ne (Or.inl (hw _ (List.mem_of_getElem? (i := 51) rfl))) (Or.inl (hw _ (List.mem_of_getElem? (i := 49) rfl))) (by decide) (t := .boolean) (t' := .boolean) (by decide) (by decide))))
  have f12 := (f9.wr W10)
  obtain ⟨T13, h13, X13, e13, W13, st13⟩ := putFN X10 hx hZ hown (hw _ (List.mem_of_getElem? (i := 50) rfl)) Via.refl e10 f11 f12 (Or.inl (hw _ (List.mem_of_getElem? (i := 51) rfl))) (hw _ (List.mem_of_getElem? (i := 31) rfl)) (ty := .boolean) (v' := (.int pi3)) (by decide) (own_nb B18) (own_fb B18) (g := (mkF m 24 #[.val (.ref px1), .val .null, .val (.int pi1), .val .null, .val (.int pi2), .val (.int pi3), .val (.int pi4)] [(.int pi3), (.ref px1)])) rfl rfl (hb hby d8_24)
  refine own_step st13 ?_
  have N13 := Fr.snoc X13 N10 G13
  have O13 := O10.wr W13 G13
  have K13 : Keep h0 h13 [px1] := K10.wr W13 (Or.inl (by simp))
  have Fw13 := f11.same W13
  show own_Wp p e below _ T13 (mkF m 27 #[.val (.ref px1), .val .null, .val (.int pi1), .val .null, .val (.int pi2), .val (.int pi3), .val (.int pi4)] [])
  refine own_step (fun _ k => XS.aloadN X13.here hx rfl (hb hby d8_27) rfl rfl k) ?_
  show own_Wp p e below _ T13 (mkF m 28 #[.val (.ref px1), .val .null, .val (.int pi1), .val .null, .val (.int pi2), .val (.int pi3), .val (.int pi4)] [(.ref px1)])
  refine own_step (fun _ k => XS.iload X13.here hx rfl (hb hby d8_28) rfl k) ?_
  show own_Wp p e below _ T13 (mkF m 30 #[.val (.ref px1), .val .null, .val (.int pi1), .val .null, .val (.int pi2), .val (.int pi3), .val (.int pi4)] [(.int pi4), (.ref px1)])
  have f14 := (((((P6.other W1 (Or.inr (slot_ne (Or.inl (hw _ (List.mem_of_getElem? (i := 53) rfl))) (Or.inl (hw _ (List.mem_of_getElem? (i := 43) rfl))) (by decide) (t := .boolean) (t' := (.object "java/lang/String")) (by decide) (by decide)))).other W4 (Or.inr (slot_ne (Or.inl (hw _ (List.mem_of_getElem? (i := 53) rfl))) (Or.inl (hw _ (List.mem_of_getElem? (i := 45) rfl))) (by decide) (t := .boolean) (t' := .int) (by decide) (by decide)))).other W7 (Or.inr (slot_ne (Or.inl (hw _ (List.mem_of_getElem? (i := 53) rfl))) (Or.inl (hw _ (List.mem_of_getElem? (i := 47) rfl))) (by decide) (t := .boolean) (t' := (.object "com/example/fieldnote/fieldnote/schema/Field")) (by decide) (by decide)))).other W10 (Or.inr (slot_ne (Or.inl (hw _ (List.mem_of_getElem? (i := 53) rfl))) (Or.inl (hw _ (List.mem_of_getElem? (i := 49) rfl))) (by decide) (t := .boolean) (t' := .boolean) (by decide) (by decide)))).other W13 (Or.inr (slot_ne (Or.inl (hw _ (List.mem_of_getElem? (i := 53) rfl))) (Or.inl (hw _ (List.mem_of_getElem? (i := 51) rfl))) (by decide) (t := .boolean) (t' := .boolean) (by decide) (by decide))))
  have f15 := (f12.wr W13)
  obtain ⟨T16, h16, X16, e16, W16, st16⟩ := putFN X13 hx hZ hown (hw _ (List.mem_of_getElem? (i := 52) rfl)) Via.refl e13 f14 f15 (Or.inl (hw _ (List.mem_of_getElem? (i := 53) rfl))) (hw _ (List.mem_of_getElem? (i := 31) rfl)) (ty := .boolean) (v' := (.int pi4)) (by decide) (own_nb B19) (own_fb B19) (g := (mkF m 30 #[.val (.ref px1), .val .null, .val (.int pi1), .val .null, .val (.int pi2), .val (.int pi3), .val (.int pi4)] [(.int pi4), (.ref px1)])) rfl rfl (hb hby d8_30)
  refine own_step st16 ?_
  have N16 := Fr.snoc X16 N13 G13
  have O16 := O13.wr W16 G13
  have K16 : Keep h0 h16 [px1] := K13.wr W16 (Or.inl (by simp))
  have Fw16 := f14.same W16
  show own_Wp p e below _ T16 (mkF m 33 #[.val (.ref px1), .val .null, .val (.int pi1), .val .null, .val (.int pi2), .val (.int pi3), .val (.int pi4)] [])
  have f17 := (f15.wr W16)
  have f18 := (((((Fw1.other W4 (Or.inr (slot_ne (Or.inl (hw _ (List.mem_of_getElem? (i := 43) rfl))) (Or.inl (hw _ (List.mem_of_getElem? (i := 45) rfl))) (by decide) (t := (.object "java/lang/String")) (t' := .int) (by decide) (by decide)))).other W7 (Or.inr (slot_ne (Or.inl (hw _ (List.mem_of_getElem? (i := 43) rfl))) (Or.inl (hw _ (List.mem_of_getElem? (i := 47) rfl))) (by decide) (t := (.object "java/lang/String")) (t' := (.object "com/example/fieldnote/fieldnote/schema/Field")) (by decide) (by decide)))).other W10 (Or.inr (slot_ne (Or.inl (hw _ (List.mem_of_getElem? (i := 43) rfl))) (Or.inl (hw _ (List.mem_of_getElem? (i := 49) rfl))) (by decide) (t := (.object "java/lang/String")) (t' := .boolean) (by decide) (by decide)))).other W13 (Or.inr (slot_ne (Or.inl (hw _ (List.mem_of_getElem? (i := 43) rfl))) (Or.inl (hw _ (List.mem_of_getElem? (i := 51) rfl))) (by decide) (t := (.object "java/lang/String")) (t' := .boolean) (by decide) (by decide)))).other W16 (Or.inr (slot_ne (Or.inl (hw _ (List.mem_of_getElem? (i := 43) rfl))) (Or.inl (hw _ (List.mem_of_getElem? (i := 53) rfl))) (by decide) (t := (.object "java/lang/String")) (t' := .boolean) (by decide) (by decide))))
  have f19 := ((((Fw4.other W7 (Or.inr (slot_ne (Or.inl (hw _ (List.mem_of_getElem? (i := 45) rfl))) (Or.inl (hw _ (List.mem_of_getElem? (i := 47) rfl))) (by decide) (t := .int) (t' := (.object "com/example/fieldnote/fieldnote/schema/Field")) (by decide) (by decide)))).other W10 (Or.inr (slot_ne (Or.inl (hw _ (List.mem_of_getElem? (i := 45) rfl))) (Or.inl (hw _ (List.mem_of_getElem? (i := 49) rfl))) (by decide) (t := .int) (t' := .boolean) (by decide) (by decide)))).other W13 (Or.inr (slot_ne (Or.inl (hw _ (List.mem_of_getElem? (i := 45) rfl))) (Or.inl (hw _ (List.mem_of_getElem? (i := 51) rfl))) (by decide) (t := .int) (t' := .boolean) (by decide) (by decide)))).other W16 (Or.inr (slot_ne (Or.inl (hw _ (List.mem_of_getElem? (i := 45) rfl))) (Or.inl (hw _ (List.mem_of_getElem? (i := 53) rfl))) (by decide) (t := .int) (t' := .boolean) (by decide) (by decide))))
  have f20 := (((Fw7.other W10 (Or.inr (slot_ne (Or.inl (hw _ (List.mem_of_getElem? (i := 47) rfl))) (Or.inl (hw _ (List.mem_of_getElem? (i := 49) rfl))) (by decide) (t := (.object "com/example/fieldnote/fieldnote/schema/Field")) (t' := .boolean) (by decide) (by decide)))).other W13 (Or.inr (slot_ne (Or.inl (hw _ (List.mem_of_getElem? (i := 47) rfl))) (Or.inl (hw _ (List.mem_of_getElem? (i := 51) rfl))) (by decide) (t := (.object "com/example/fieldnote/fieldnote/schema/Field")) (t' := .boolean) (by decide) (by decide)))).other W16 (Or.inr (slot_ne (Or.inl (hw _ (List.mem_of_getElem? (i := 47) rfl))) (Or.inl (hw _ (List.mem_of_getElem? (i := 53) rfl))) (by decide) (t := (.object "com/example/fieldnote/fieldnote/schema/Field")) (t' := .boolean) (by decide) (by decide))))
  have f21 := ((Fw10.other W13 (Or.inr (slot_ne (Or.inl (hw _ (List.mem_of_getElem? (i := 49) rfl))) (Or.inl (hw _ (List.mem_of_getElem? (i := 51) rfl))) (by decide) (t := .boolean) (t' := .boolean) (by decide) (by decide)))).other W16 (Or.inr (slot_ne (Or.inl (hw _ (List.mem_of_getElem? (i := 49) rfl))) (Or.inl (hw _ (List.mem_of_getElem? (i := 53) rfl))) (by decide) (t := .boolean) (t' := .boolean) (by decide) (by decide))))
  have f22 := (Fw13.other W16 (Or.inr (slot_ne (Or.inl (hw _ (List.mem_of_getElem? (i := 51) rfl))) (Or.inl (hw _ (List.mem_of_getElem? (i := 53) rfl))) (by decide) (t := .boolean) (t' := .boolean) (by decide) (by decide))))
  exact own_retV X16 hx hret hlk (hb hby d8_33) (by decide) (by decide) (by rw [e16]; exact ⟨rfl, N16, K16, f17, f18, f19, f20, f21, f22, Fw16⟩)

set_option maxRecDepth 65536 in
set_option maxHeartbeats 40000000 in
theorem rm9_15 (l : Launch) (Z : State) (a0 : Array Value) (hw : ∀ d ∈ tables_1, d.before a0 Z = true) (hS : ∀ d ∈ jdkStatics_1, d.before a0 Z = true) (ws : List Jvm.Cond) (px1 : Addr) (h0 : Heap) (n0 : Nat) (O0 : Old Z n0 h0) (P1 : Fld Z h0 px1 "com/example/fieldnote/fieldnote/text/TextSyntax$Entry" "name" "Ljava/lang/String;" .null) :
    own_Met l Z (⟨"com/example/fieldnote/fieldnote/text/TextSyntax$Entry", "name", "()Ljava/lang/String;"⟩ : MethodName) (Jvm.Cond.code (⟨"com/example/fieldnote/fieldnote/text/TextSyntax$Entry", "name", "()Ljava/lang/String;"⟩ : MethodName) prog_51_method_3_code 1 (some (.object "java/lang/String"))) ws ({ frames := 0, cells := 0, slots := 0, locals := 0 } : Room) #[(.ref px1)] h0 (fun v h L => (v = some .null ∧ Fr n0 L ∧ h = h0)) := by
  refine own_met (own := "com/example/fieldnote/fieldnote/text/TextSyntax$Entry") (plainFor_of_name pn7) rfl ?_
  intro p e s m below meth c s₁ hx hby hml hown hnm hret hlk hZ e0 X0
  refine own_cast (g' := (mkF m 0 #[.val (.ref px1)] [])) (by first | (simp [entryFrame, mkF, argsToLocals, Value.category]; done) | rfl) ?_
  refine own_step (fun _ k => XS.aloadN X0.here hx rfl (hb hby d9_0) rfl rfl k) ?_
  show own_Wp p e below _ s₁ (mkF m 1 #[.val (.ref px1)] [(.ref px1)])
  obtain ⟨T1, X1, e1, st1⟩ := getF X0 hx hZ hown (host := "") (Or.inl (hw _ (List.mem_of_getElem? (i := 42) rfl))) Via.refl e0 P1 (g := (mkF m 1 #[.val (.ref px1)] [(.ref px1)])) rfl rfl (hb hby d9_1)
  refine own_step st1 ?_
  show own_Wp p e below _ T1 (mkF m 4 #[.val (.ref px1)] [.null])
  exact own_retA X1 hx hret rfl rfl hlk (hb hby d9_4) (by decide) (by decide) (by rw [e1]; exact ⟨rfl, (Fr.nil n0), rfl⟩)

set_option maxRecDepth 65536 in
set_option maxHeartbeats 40000000 in
theorem rm12_16 (l : Launch) (Z : State) (a0 : Array Value) (hw : ∀ d ∈ tables_1, d.before a0 Z = true) (hS : ∀ d ∈ jdkStatics_1, d.before a0 Z = true) (ws : List Jvm.Cond) (px1 : Addr) (pi2 : Int32) (h0 : Heap) (n0 : Nat) (O0 : Old Z n0 h0) (P4 : Fld Z h0 px1 "com/example/fieldnote/fieldnote/text/TextSyntax$Entry" "colon" "Z" (.int pi2)) (B8 : pi2 = (0 : Int32) ∨ pi2 = (1 : Int32)) :
    own_Met l Z (⟨"com/example/fieldnote/fieldnote/text/TextSyntax$Entry", "colon", "()Z"⟩ : MethodName) (Jvm.Cond.code (⟨"com/example/fieldnote/fieldnote/text/TextSyntax$Entry", "colon", "()Z"⟩ : MethodName) prog_51_method_6_code 1 (some .boolean)) ws ({ frames := 0, cells := 0, slots := 0, locals := 0 } : Room) #[(.ref px1)] h0 (fun v h L => (v = some (.int pi2) ∧ Fr n0 L ∧ h = h0)) := by
  refine own_met (own := "com/example/fieldnote/fieldnote/text/TextSyntax$Entry") (plainFor_of_name pn7) rfl ?_
  intro p e s m below meth c s₁ hx hby hml hown hnm hret hlk hZ e0 X0
  refine own_cast (g' := (mkF m 0 #[.val (.ref px1)] [])) (by first | (simp [entryFrame, mkF, argsToLocals, Value.category]; done) | rfl) ?_
  refine own_step (fun _ k => XS.aloadN X0.here hx rfl (hb hby d12_0) rfl rfl k) ?_
  show own_Wp p e below _ s₁ (mkF m 1 #[.val (.ref px1)] [(.ref px1)])
  obtain ⟨T1, X1, e1, st1⟩ := getF X0 hx hZ hown (host := "") (Or.inl (hw _ (List.mem_of_getElem? (i := 48) rfl))) Via.refl e0 P4 (g := (mkF m 1 #[.val (.ref px1)] [(.ref px1)])) rfl rfl (hb hby d12_1)
  refine own_step st1 ?_
  show own_Wp p e below _ T1 (mkF m 4 #[.val (.ref px1)] [(.int pi2)])
  exact own_retN X1 hx (t := .boolean) hret (by simp) hlk (hb hby d12_4) (by decide) (by decide) (by rw [own_narb B8, e1]; exact ⟨rfl, (Fr.nil n0), rfl⟩)

set_option maxRecDepth 65536 in
set_option maxHeartbeats 40000000 in
theorem rm13_17 (l : Launch) (Z : State) (a0 : Array Value) (hw : ∀ d ∈ tables_1, d.before a0 Z = true) (hS : ∀ d ∈ jdkStatics_1, d.before a0 Z = true) (ws : List Jvm.Cond) (px1 : Addr) (pi3 : Int32) (h0 : Heap) (n0 : Nat) (O0 : Old Z n0 h0) (P5 : Fld Z h0 px1 "com/example/fieldnote/fieldnote/text/TextSyntax$Entry" "inList" "Z" (.int pi3)) (B9 : pi3 = (0 : Int32) ∨ pi3 = (1 : Int32)) :
    own_Met l Z (⟨"com/example/fieldnote/fieldnote/text/TextSyntax$Entry", "inList", "()Z"⟩ : MethodName) (Jvm.Cond.code (⟨"com/example/fieldnote/fieldnote/text/TextSyntax$Entry", "inList", "()Z"⟩ : MethodName) prog_51_method_7_code 1 (some .boolean)) ws ({ frames := 0, cells := 0, slots := 0, locals := 0 } : Room) #[(.ref px1)] h0 (fun v h L => (v = some (.int pi3) ∧ Fr n0 L ∧ h = h0)) := by
  refine own_met (own := "com/example/fieldnote/fieldnote/text/TextSyntax$Entry") (plainFor_of_name pn7) rfl ?_
  intro p e s m below meth c s₁ hx hby hml hown hnm hret hlk hZ e0 X0
  refine own_cast (g' := (mkF m 0 #[.val (.ref px1)] [])) (by first | (simp [entryFrame, mkF, argsToLocals, Value.category]; done) | rfl) ?_
  refine own_step (fun _ k => XS.aloadN X0.here hx rfl (hb hby d13_0) rfl rfl k) ?_
  show own_Wp p e below _ s₁ (mkF m 1 #[.val (.ref px1)] [(.ref px1)])
  obtain ⟨T1, X1, e1, st1⟩ := getF X0 hx hZ hown (host := "") (Or.inl (hw _ (List.mem_of_getElem? (i := 50) rfl))) Via.refl e0 P5 (g := (mkF m 1 #[.val (.ref px1)] [(.ref px1)])) rfl rfl (hb hby d13_1)
  refine own_step st1 ?_
  show own_Wp p e below _ T1 (mkF m 4 #[.val (.ref px1)] [(.int pi3)])
  exact own_retN X1 hx (t := .boolean) hret (by simp) hlk (hb hby d13_4) (by decide) (by decide) (by rw [own_narb B9, e1]; exact ⟨rfl, (Fr.nil n0), rfl⟩)

set_option maxRecDepth 65536 in
set_option maxHeartbeats 40000000 in
theorem rm14_18 (l : Launch) (Z : State) (a0 : Array Value) (hw : ∀ d ∈ tables_1, d.before a0 Z = true) (hS : ∀ d ∈ jdkStatics_1, d.before a0 Z = true) (ws : List Jvm.Cond) (px1 : Addr) (pi4 : Int32) (h0 : Heap) (n0 : Nat) (O0 : Old Z n0 h0) (P6 : Fld Z h0 px1 "com/example/fieldnote/fieldnote/text/TextSyntax$Entry" "messages" "Z" (.int pi4)) (B10 : pi4 = (0 : Int32) ∨ pi4 = (1 : Int32)) :
    own_Met l Z (⟨"com/example/fieldnote/fieldnote/text/TextSyntax$Entry", "messages", "()Z"⟩ : MethodName) (Jvm.Cond.code (⟨"com/example/fieldnote/fieldnote/text/TextSyntax$Entry", "messages", "()Z"⟩ : MethodName) prog_51_method_8_code 1 (some .boolean)) ws ({ frames := 0, cells := 0, slots := 0, locals := 0 } : Room) #[(.ref px1)] h0 (fun v h L => (v = some (.int pi4) ∧ Fr n0 L ∧ h = h0)) := by
  refine own_met (own := "com/example/fieldnote/fieldnote/text/TextSyntax$Entry") (plainFor_of_name pn7) rfl ?_
  intro p e s m below meth c s₁ hx hby hml hown hnm hret hlk hZ e0 X0
  refine own_cast (g' := (mkF m 0 #[.val (.ref px1)] [])) (by first | (simp [entryFrame, mkF, argsToLocals, Value.category]; done) | rfl) ?_
  refine own_step (fun _ k => XS.aloadN X0.here hx rfl (hb hby d14_0) rfl rfl k) ?_
  show own_Wp p e below _ s₁ (mkF m 1 #[.val (.ref px1)] [(.ref px1)])
  obtain ⟨T1, X1, e1, st1⟩ := getF X0 hx hZ hown (host := "") (Or.inl (hw _ (List.mem_of_getElem? (i := 52) rfl))) Via.refl e0 P6 (g := (mkF m 1 #[.val (.ref px1)] [(.ref px1)])) rfl rfl (hb hby d14_1)
  refine own_step st1 ?_
  show own_Wp p e below _ T1 (mkF m 4 #[.val (.ref px1)] [(.int pi4)])
  exact own_retN X1 hx (t := .boolean) hret (by simp) hlk (hb hby d14_4) (by decide) (by decide) (by rw [own_narb B10, e1]; exact ⟨rfl, (Fr.nil n0), rfl⟩)

set_option maxRecDepth 65536 in
set_option maxHeartbeats 40000000 in
theorem rm1_19 (l : Launch) (Z : State) (a0 : Array Value) (hw : ∀ d ∈ tables_1, d.before a0 Z = true) (hS : ∀ d ∈ jdkStatics_1, d.before a0 Z = true) (ws : List Jvm.Cond) (px1 : Addr) (px2 : Addr) (pi1 : Int32) (pi2 : Int32) (k4_ : ClassId) (h0 : Heap) (n0 : Nat) (O0 : Old Z n0 h0) (P0 : Exa Z h0 px1 "java/lang/String") (P1 : Fld Z h0 px1 "java/lang/String" "coder" "B" (.int (0 : Int32))) (P2 : Fld Z h0 px1 "java/lang/String" "value" "[B" .null) (P3 : Arv Z h0 px2 k4_ .char (2 : Int32) [(.int pi1), (.int pi2)] (.int (0 : Int32))) (G5 : n0 ≤ px1) (H8 : ¬ ((255 : Int32) < pi1)) (H10 : ¬ ((255 : Int32) < pi2)) :
    own_Met l Z (⟨"java/lang/String", "<init>", "([C)V"⟩ : MethodName) (Jvm.Cond.code (⟨"java/lang/String", "<init>", "([C)V"⟩ : MethodName) jdk_42_method_3_code 2 none) ws ({ frames := 3, cells := 1, slots := 2, locals := 52 } : Room) #[(.ref px1), (.ref px2)] h0 (fun v h L => (∃ (b3 : Addr) (k4 : ClassId), v = none ∧ Fr n0 L ∧ Keep h0 h [px1] ∧ h0.size ≤ b3 ∧ px1 ≠ b3 ∧ Exa Z h px1 "java/lang/String" ∧ Fld Z h px1 "java/lang/String" "coder" "B" (.int (0 : Int32)) ∧ Fld Z h px1 "java/lang/String" "value" "[B" (.ref b3) ∧ Arv Z h b3 k4 .byte (2 : Int32) [(.int (nar .byte (pi1.toInt8.toInt32))), (.int (nar .byte (pi2.toInt8.toInt32)))] (.int (0 : Int32)))) := by
  refine own_met (own := "java/lang/String") (plainFor_of_name pn4) rfl ?_
  intro p e s m below meth c s₁ hx hby hml hown hnm hret hlk hZ e0 X0
  refine own_cast (g' := (mkF m 0 #[.val (.ref px1), .val (.ref px2)] [])) (by first | (simp [entryFrame, mkF, argsToLocals, Value.category]; done) | rfl) ?_
  refine own_step (fun _ k => XS.aloadN X0.here hx rfl (hb hby d1_0) rfl rfl k) ?_
  show own_Wp p e below _ s₁ (mkF m 1 #[.val (.ref px1), .val (.ref px2)] [(.ref px1)])
  refine own_step (fun _ k => XS.aloadN X0.here hx rfl (hb hby d1_1) rfl rfl k) ?_
  show own_Wp p e below _ s₁ (mkF m 2 #[.val (.ref px1), .val (.ref px2)] [(.ref px2), (.ref px1)])
  refine own_step (fun _ k => XS.iconst X0.here hx rfl (hb hby d1_2) k) ?_
  show own_Wp p e below _ s₁ (mkF m 3 #[.val (.ref px1), .val (.ref px2)] [(.int (0 : Int32)), (.ref px2), (.ref px1)])
  refine own_step (fun _ k => XS.aloadN X0.here hx rfl (hb hby d1_3) rfl rfl k) ?_
  show own_Wp p e below _ s₁ (mkF m 4 #[.val (.ref px1), .val (.ref px2)] [(.ref px2), (.int (0 : Int32)), (.ref px2), (.ref px1)])
  obtain ⟨c1, r1, q1, t1, u1, y1h, y1g⟩ := id P3
  refine own_step (fun _ k => X0.arraylength hx (by rw [e0]; exact r1.1) (State.isArrayOf_alike hZ.alike r1.2.1) (g := (mkF m 4 #[.val (.ref px1), .val (.ref px2)] [(.ref px2), (.int (0 : Int32)), (.ref px2), (.ref px1)])) rfl rfl (hb hby d1_4) _ k) ?_
  rw [len_of t1 u1]
  show own_Wp p e below _ s₁ (mkF m 5 #[.val (.ref px1), .val (.ref px2)] [(.int (2 : Int32)), (.int (0 : Int32)), (.ref px2), (.ref px1)])
  refine own_step (fun _ k => XS.aconstNull X0.here hx rfl (hb hby d1_5) k) ?_
  show own_Wp p e below _ s₁ (mkF m 6 #[.val (.ref px1), .val (.ref px2)] [.null, (.int (2 : Int32)), (.int (0 : Int32)), (.ref px2), (.ref px1)])
  obtain ⟨_, T2, L2, X2, hQ2, st2⟩ := own_callN X0 hx hZ rfl hown (hw _ (List.mem_of_getElem? (i := 7) rfl)) (hw _ (List.mem_of_getElem? (i := 8) rfl)) (hw _ (List.mem_of_getElem? (i := 2) rfl)) (hw _ (List.mem_of_getElem? (i := 10) rfl)) (by decide) (rm2_3 l Z a0 hw hS [] px1 px2 pi1 pi2 k4_ h0 n0 O0 P0 P1 P2 P3 G5 H8 H10) (b := px1) (W := 0) (by decide) (by decide) [(.ref px2), (.int (0 : Int32)), (.int (2 : Int32)), .null] rfl (lenOf pd5 rfl) (Ls := #[.val (.ref px1), .val (.ref px2)]) (by rw [hml]; rfl) (rest := []) (Nat.le_of_eq rfl) (hb hby d1_6) e0 (by decide) (by decide)
  refine st2 _ ?_
  obtain ⟨b3, k4, rfl, N2q, K2q, y2_0, m2_0, F2_0, F2_1, F2_2, F2_3⟩ := hQ2
  have N2 := Fr.app (Fr.nil n0) N2q
  have g2_0 : n0 ≤ b3 := Nat.le_trans (O0.1 ▸ O0.2.1) y2_0
  have ne2_0_0 : px1 ≠ b3 := Nat.ne_of_lt (Nat.lt_of_lt_of_le P0.lt y2_0)
  have ne2_0_1 : px2 ≠ b3 := Nat.ne_of_lt (Nat.lt_of_lt_of_le P3.lt y2_0)
  have u2_0 : h0.size ≤ b3 := Nat.le_trans (Nat.le_refl _) y2_0
  have O2 := O0.keep K2q (allS G5 all0)
  have K2 : Keep h0 T2.heap [px1] := Keep.trans (Keep.refl h0 [px1]) K2q (allS (Or.inl (by simp)) all0)
  show own_Wp p e below _ T2 (mkF m 9 #[.val (.ref px1), .val (.ref px2)] [])
  exact own_retV X2 hx hret hlk (hb hby d1_9) (by decide) (by decide) (⟨b3, k4, rfl, N2, K2, u2_0, m2_0, F2_0, F2_1, F2_2, F2_3⟩)

set_option maxRecDepth 65536 in
set_option maxHeartbeats 40000000 in
theorem rm8_20 (l : Launch) (Z : State) (a0 : Array Value) (hw : ∀ d ∈ tables_1, d.before a0 Z = true) (hS : ∀ d ∈ jdkStatics_1, d.before a0 Z = true) (ws : List Jvm.Cond) (px1 : Addr) (pi1 : Int32) (pi2 : Int32) (pi3 : Int32) (pi4 : Int32) (h0 : Heap) (n0 : Nat) (O0 : Old Z n0 h0) (P0 : Exa Z h0 px1 "com/example/fieldnote/fieldnote/text/TextSyntax$Entry") (P1 : Fld Z h0 px1 "com/example/fieldnote/fieldnote/text/TextSyntax$Entry" "name" "Ljava/lang/String;" .null) (P2 : Fld Z h0 px1 "com/example/fieldnote/fieldnote/text/TextSyntax$Entry" "place" "I" (.int (0 : Int32))) (P3 : Fld Z h0 px1 "com/example/fieldnote/fieldnote/text/TextSyntax$Entry" "field" "Lcom/example/fieldnote/fieldnote/schema/Field;" .null) (P4 : Fld Z h0 px1 "com/example/fieldnote/fieldnote/text/TextSyntax$Entry" "colon" "Z" (.int (0 : Int32))) (P5 : Fld Z h0 px1 "com/example/fieldnote/fieldnote/text/TextSyntax$Entry" "inList" "Z" (.int (0 : Int32))) (P6 : Fld Z h0 px1 "com/example/fieldnote/fieldnote/text/TextSyntax$Entry" "messages" "Z" (.int (0 : Int32))) (G7 : n0 ≤ px1) (B8 : pi2 = (0 : Int32) ∨ pi2 = (1 : Int32)) (B9 : pi3 = (0 : Int32) ∨ pi3 = (1 : Int32)) (B10 : pi4 = (0 : Int32) ∨ pi4 = (1 : Int32)) :
    own_Met l Z (⟨"com/example/fieldnote/fieldnote/text/TextSyntax$Entry", "set", "(Ljava/lang/String;ILcom/example/fieldnote/fieldnote/schema/Field;ZZZ)V"⟩ : MethodName) (Jvm.Cond.code (⟨"com/example/fieldnote/fieldnote/text/TextSyntax$Entry", "set", "(Ljava/lang/String;ILcom/example/fieldnote/fieldnote/schema/Field;ZZZ)V"⟩ : MethodName) prog_51_method_2_code 7 none) ws ({ frames := 0, cells := 0, slots := 0, locals := 0 } : Room) #[(.ref px1), .null, (.int pi1), .null, (.int pi2), (.int pi3), (.int pi4)] h0 (fun v h L => (v = none ∧ Fr n0 L ∧ Keep h0 h [px1] ∧ Exa Z h px1 "com/example/fieldnote/fieldnote/text/TextSyntax$Entry" ∧ Fld Z h px1 "com/example/fieldnote/fieldnote/text/TextSyntax$Entry" "name" "Ljava/lang/String;" .null ∧ Fld Z h px1 "com/example/fieldnote/fieldnote/text/TextSyntax$Entry" "place" "I" (.int pi1) ∧ Fld Z h px1 "com/example/fieldnote/fieldnote/text/TextSyntax$Entry" "field" "Lcom/example/fieldnote/fieldnote/schema/Field;" .null ∧ Fld Z h px1 "com/example/fieldnote/fieldnote/text/TextSyntax$Entry" "colon" "Z" (.int pi2) ∧ Fld Z h px1 "com/example/fieldnote/fieldnote/text/TextSyntax$Entry" "inList" "Z" (.int pi3) ∧ Fld Z h px1 "com/example/fieldnote/fieldnote/text/TextSyntax$Entry" "messages" "Z" (.int pi4))) := by
  refine own_met (own := "com/example/fieldnote/fieldnote/text/TextSyntax$Entry") (plainFor_of_name pn7) rfl ?_
  intro p e s m below meth c s₁ hx hby hml hown hnm hret hlk hZ e0 X0
  refine own_cast (g' := (mkF m 0 #[.val (.ref px1), .val .null, .val (.int pi1), .val .null, .val (.int pi2), .val (.int pi3), .val (.int pi4)] [])) (by first | (simp [entryFrame, mkF, argsToLocals, Value.category]; done) | rfl) ?_
  refine own_step (fun _ k => XS.aloadN X0.here hx rfl (hb hby d8_0) rfl rfl k) ?_
  show own_Wp p e below _ s₁ (mkF m 1 #[.val (.ref px1), .val .null, .val (.int pi1), .val .null, .val (.int pi2), .val (.int pi3), .val (.int pi4)] [(.ref px1)])
  refine own_step (fun _ k => XS.aloadN X0.here hx rfl (hb hby d8_1) rfl rfl k) ?_
  show own_Wp p e below _ s₁ (mkF m 2 #[.val (.ref px1), .val .null, .val (.int pi1), .val .null, .val (.int pi2), .val (.int pi3), .val (.int pi4)] [.null, (.ref px1)])
  obtain ⟨T1, h1, X1, e1, W1, st1⟩ := putF X0 hx hZ hown (host := "") (Or.inl (hw _ (List.mem_of_getElem? (i := 42) rfl))) Via.refl e0 P1 P0 (Or.inl (hw _ (List.mem_of_getElem? (i := 43) rfl))) (hw _ (List.mem_of_getElem? (i := 31) rfl)) (ty := (.object "java/lang/String")) (by decide) rfl rfl (g := (mkF m 2 #[.val (.ref px1), .val .null, .val (.int pi1), .val .null, .val (.int pi2), .val (.int pi3), .val (.int pi4)] [.null, (.ref px1)])) rfl rfl (hb hby d8_2)
  refine own_step st1 ?_
  have N1 := Fr.snoc X1 (Fr.nil n0) G7
  have O1 := O0.wr W1 G7
  have K1 : Keep h0 h1 [px1] := (Keep.refl h0 [px1]).wr W1 (Or.inl (by simp))
  have Fw1 := P1.same W1
  show own_Wp p e below _ T1 (mkF m 5 #[.val (.ref px1), .val .null, .val (.int pi1), .val .null, .val (.int pi2), .val (.int pi3), .val (.int pi4)] [])
  refine own_step (fun _ k => XS.aloadN X1.here hx rfl (hb hby d8_5) rfl rfl k) ?_
  show own_Wp p e below _ T1 (mkF m 6 #[.val (.ref px1), .val .null, .val (.int pi1), .val .null, .val (.int pi2), .val (.int pi3), .val (.int pi4)] [(.ref px1)])
  refine own_step (fun _ k => XS.iloadN X1.here hx rfl (hb hby d8_6) rfl k) ?_
  show own_Wp p e below _ T1 (mkF m 7 #[.val (.ref px1), .val .null, .val (.int pi1), .val .null, .val (.int pi2), .val (.int pi3), .val (.int pi4)] [(.int pi1), (.ref px1)])
  have f2 := (P2.other W1 (Or.inr (slot_ne (Or.inl (hw _ (List.mem_of_getElem? (i := 45) rfl))) (Or.inl (hw _ (List.mem_of_getElem? (i := 43) rfl))) (by decide) (t := .int) (t' := (.object "java/lang/String")) (by decide) (by decide))))
  have f3 := (P0.wr W1)
  obtain ⟨T4, h4, X4, e4, W4, st4⟩ := putF X1 hx hZ hown (host := "") (Or.inl (hw _ (List.mem_of_getElem? (i := 44) rfl))) Via.refl e1 f2 f3 (Or.inl (hw _ (List.mem_of_getElem? (i := 45) rfl))) (hw _ (List.mem_of_getElem? (i := 31) rfl)) (ty := .int) (by decide) rfl rfl (g := (mkF m 7 #[.val (.ref px1), .val .null, .val (.int pi1), .val .null, .val (.int pi2), .val (.int pi3), .val (.int pi4)] [(.int pi1), (.ref px1)])) rfl rfl (hb hby d8_7)
  refine own_step st4 ?_
  have N4 := Fr.snoc X4 N1 G7
  have O4 := O1.wr W4 G7
  have K4 : Keep h0 h4 [px1] := K1.wr W4 (Or.inl (by simp))
  have Fw4 := f2.same W4
  show own_Wp p e below _ T4 (mkF m 10 #[.val (.ref px1), .val .null, .val (.int pi1), .val .null, .val (.int pi2), .val (.int pi3), .val (.int pi4)] [])
  refine own_step (fun _ k => XS.aloadN X4.here hx rfl (hb hby d8_10) rfl rfl k) ?_
  show own_Wp p e below _ T4 (mkF m 11 #[.val (.ref px1), .val .null, .val (.int pi1), .val .null, .val (.int pi2), .val (.int pi3), .val (.int pi4)] [(.ref px1)])
  refine own_step (fun _ k => XS.aloadN X4.here hx rfl (hb hby d8_11) rfl rfl k) ?_
  show own_Wp p e below _ T4 (mkF m 12 #[.val (.ref px1), .val .null, .val (.int pi1), .val .null, .val (.int pi2), .val (.int pi3), .val (.int pi4)] [.null, (.ref px1)])
  have f5 := ((P3.other W1 (Or.inr (slot_ne (Or.inl (hw _ (List.mem_of_getElem? (i := 47) rfl))) (Or.inl (hw _ (List.mem_of_getElem? (i := 43) rfl))) (by decide) (t := (.object "com/example/fieldnote/fieldnote/schema/Field")) (t' := (.object "java/lang/String")) (by decide) (by decide)))).other W4 (Or.inr (slot_ne (Or.inl (hw _ (List.mem_of_getElem? (i := 47) rfl))) (Or.inl (hw _ (List.mem_of_getElem? (i := 45) rfl))) (by decide) (t := (.object "com/example/fieldnote/fieldnote/schema/Field")) (t' := .int) (by decide) (by decide))))
  have f6 := (f3.wr W4)
  obtain ⟨T7, h7, X7, e7, W7, st7⟩ := putF X4 hx hZ hown (host := "") (Or.inl (hw _ (List.mem_of_getElem? (i := 46) rfl))) Via.refl e4 f5 f6 (Or.inl (hw _ (List.mem_of_getElem? (i := 47) rfl))) (hw _ (List.mem_of_getElem? (i := 31) rfl)) (ty := (.object "com/example/fieldnote/fieldnote/schema/Field")) (by decide) rfl rfl (g := (mkF m 12 #[.val (.ref px1), .val .null, .val (.int pi1), .val .null, .val (.int pi2), .val (.int pi3), .val (.int pi4)] [.null, (.ref px1)])) rfl rfl (hb hby d8_12)
  refine own_step st7 ?_
  have N7 := Fr.snoc X7 N4 G7
  have O7 := O4.wr W7 G7
  have K7 : Keep h0 h7 [px1] := K4.wr W7 (Or.inl (by simp))
  have Fw7 := f5.same W7
  show own_Wp p e below _ T7 (mkF m 15 #[.val (.ref px1), .val .null, .val (.int pi1), .val .null, .val (.int pi2), .val (.int pi3), .val (.int pi4)] [])
  refine own_step (fun _ k => XS.aloadN X7.here hx rfl (hb hby d8_15) rfl rfl k) ?_
  show own_Wp p e below _ T7 (mkF m 16 #[.val (.ref px1), .val .null, .val (.int pi1), .val .null, .val (.int pi2), .val (.int pi3), .val (.int pi4)] [(.ref px1)])
  refine own_step (fun _ k => XS.iload X7.here hx rfl (hb hby d8_16) rfl k) ?_
  show own_Wp p e below _ T7 (mkF m 18 #[.val (.ref px1), .val .null, .val (.int pi1), .val .null, .val (.int pi2), .val (.int pi3), .val (.int pi4)] [(.int pi2), (.ref px1)])
  have f8 := (((P4.other W1 (Or.inr (slot_ne (Or.inl (hw _ (List.mem_of_getElem? (i := 49) rfl))) (Or.inl (hw _ (List.mem_of_getElem? (i := 43) rfl))) (by decide) (t := .boolean) (t' := (.object "java/lang/String")) (by decide) (by decide)))).other W4 (Or.inr (slot_ne (Or.inl (hw _ (List.mem_of_getElem? (i := 49) rfl))) (Or.inl (hw _ (List.mem_of_getElem? (i := 45) rfl))) (by decide) (t := .boolean) (t' := .int) (by decide) (by decide)))).other W7 (Or.inr (slot_ne (Or.inl (hw _ (List.mem_of_getElem? (i := 49) rfl))) (Or.inl (hw _ (List.mem_of_getElem? (i := 47) rfl))) (by decide) (t := .boolean) (t' := (.object "com/example/fieldnote/fieldnote/schema/Field")) (by decide) (by decide))))
  have f9 := (f6.wr W7)
  obtain ⟨T10, h10, X10, e10, W10, st10⟩ := putFN X7 hx hZ hown (hw _ (List.mem_of_getElem? (i := 48) rfl)) Via.refl e7 f8 f9 (Or.inl (hw _ (List.mem_of_getElem? (i := 49) rfl))) (hw _ (List.mem_of_getElem? (i := 31) rfl)) (ty := .boolean) (v' := (.int pi2)) (by decide) (own_nb B8) (own_fb B8) (g := (mkF m 18 #[.val (.ref px1), .val .null, .val (.int pi1), .val .null, .val (.int pi2), .val (.int pi3), .val (.int pi4)] [(.int pi2), (.ref px1)])) rfl rfl (hb hby d8_18)
  refine own_step st10 ?_
  have N10 := Fr.snoc X10 N7 G7
  have O10 := O7.wr W10 G7
  have K10 : Keep h0 h10 [px1] := K7.wr W10 (Or.inl (by simp))
  have Fw10 := f8.same W10
  show own_Wp p e below _ T10 (mkF m 21 #[.val (.ref px1), .val .null, .val (.int pi1), .val .null, .val (.int pi2), .val (.int pi3), .val (.int pi4)] [])
  refine own_step (fun _ k => XS.aloadN X10.here hx rfl (hb hby d8_21) rfl rfl k) ?_
  show own_Wp p e below _ T10 (mkF m 22 #[.val (.ref px1), .val .null, .val (.int pi1), .val .null, .val (.int pi2), .val (.int pi3), .val (.int pi4)] [(.ref px1)])
  refine own_step (fun _ k => XS.iload X10.here hx rfl (hb hby d8_22) rfl k) ?_
  show own_Wp p e below _ T10 (mkF m 24 #[.val (.ref px1), .val .null, .val (.int pi1), .val .null, .val (.int pi2), .val (.int pi3), .val (.int pi4)] [(.int pi3), (.ref px1)])
  have f11 := ((((P5.other W1 (Or.inr (slot_ne (Or.inl (hw _ (List.mem_of_getElem? (i := 51) rfl))) (Or.inl (hw _ (List.mem_of_getElem? (i := 43) rfl))) (by decide) (t := .boolean) (t' := (.object "java/lang/String")) (by decide) (by decide)))).other W4 (Or.inr (slot_ne (Or.inl (hw _ (List.mem_of_getElem? (i := 51) rfl))) (Or.inl (hw _ (List.mem_of_getElem? (i := 45) rfl))) (by decide) (t := .boolean) (t' := .int) (by decide) (by decide)))).other W7 (Or.inr (slot_ne (Or.inl (hw _ (List.mem_of_getElem? (i := 51) rfl))) (Or.inl (hw _ (List.mem_of_getElem? (i := 47) rfl))) (by decide) (t := .boolean) (t' := (.object "com/example/fieldnote/fieldnote/schema/Field")) (by decide) (by decide)))).other W10 (Or.inr (slot_ne (Or.inl (hw _ (List.mem_of_getElem? (i := 51) rfl))) (Or.inl (hw _ (List.mem_of_getElem? (i := 49) rfl))) (by decide) (t := .boolean) (t' := .boolean) (by decide) (by decide))))
  have f12 := (f9.wr W10)
  obtain ⟨T13, h13, X13, e13, W13, st13⟩ := putFN X10 hx hZ hown (hw _ (List.mem_of_getElem? (i := 50) rfl)) Via.refl e10 f11 f12 (Or.inl (hw _ (List.mem_of_getElem? (i := 51) rfl))) (hw _ (List.mem_of_getElem? (i := 31) rfl)) (ty := .boolean) (v' := (.int pi3)) (by decide) (own_nb B9) (own_fb B9) (g := (mkF m 24 #[.val (.ref px1), .val .null, .val (.int pi1), .val .null, .val (.int pi2), .val (.int pi3), .val (.int pi4)] [(.int pi3), (.ref px1)])) rfl rfl (hb hby d8_24)
  refine own_step st13 ?_
  have N13 := Fr.snoc X13 N10 G7
  have O13 := O10.wr W13 G7
  have K13 : Keep h0 h13 [px1] := K10.wr W13 (Or.inl (by simp))
  have Fw13 := f11.same W13
  show own_Wp p e below _ T13 (mkF m 27 #[.val (.ref px1), .val .null, .val (.int pi1), .val .null, .val (.int pi2), .val (.int pi3), .val (.int pi4)] [])
  refine own_step (fun _ k => XS.aloadN X13.here hx rfl (hb hby d8_27) rfl rfl k) ?_
  show own_Wp p e below _ T13 (mkF m 28 #[.val (.ref px1), .val .null, .val (.int pi1), .val .null, .val (.int pi2), .val (.int pi3), .val (.int pi4)] [(.ref px1)])
  refine own_step (fun _ k => XS.iload X13.here hx rfl (hb hby d8_28) rfl k) ?_
  show own_Wp p e below _ T13 (mkF m 30 #[.val (.ref px1), .val .null, .val (.int pi1), .val .null, .val (.int pi2), .val (.int pi3), .val (.int pi4)] [(.int pi4), (.ref px1)])
  have f14 := (((((P6.other W1 (Or.inr (slot_ne (Or.inl (hw _ (List.mem_of_getElem? (i := 53) rfl))) (Or.inl (hw _ (List.mem_of_getElem? (i := 43) rfl))) (by decide) (t := .boolean) (t' := (.object "java/lang/String")) (by decide) (by decide)))).other W4 (Or.inr (slot_ne (Or.inl (hw _ (List.mem_of_getElem? (i := 53) rfl))) (Or.inl (hw _ (List.mem_of_getElem? (i := 45) rfl))) (by decide) (t := .boolean) (t' := .int) (by decide) (by decide)))).other W7 (Or.inr (slot_ne (Or.inl (hw _ (List.mem_of_getElem? (i := 53) rfl))) (Or.inl (hw _ (List.mem_of_getElem? (i := 47) rfl))) (by decide) (t := .boolean) (t' := (.object "com/example/fieldnote/fieldnote/schema/Field")) (by decide) (by decide)))).other W10 (Or.inr (slot_ne (Or.inl (hw _ (List.mem_of_getElem? (i := 53) rfl))) (Or.inl (hw _ (List.mem_of_getElem? (i := 49) rfl))) (by decide) (t := .boolean) (t' := .boolean) (by decide) (by decide)))).other W13 (Or.inr (slot_ne (Or.inl (hw _ (List.mem_of_getElem? (i := 53) rfl))) (Or.inl (hw _ (List.mem_of_getElem? (i := 51) rfl))) (by decide) (t := .boolean) (t' := .boolean) (by decide) (by decide))))
  have f15 := (f12.wr W13)
  obtain ⟨T16, h16, X16, e16, W16, st16⟩ := putFN X13 hx hZ hown (hw _ (List.mem_of_getElem? (i := 52) rfl)) Via.refl e13 f14 f15 (Or.inl (hw _ (List.mem_of_getElem? (i := 53) rfl))) (hw _ (List.mem_of_getElem? (i := 31) rfl)) (ty := .boolean) (v' := (.int pi4)) (by decide) (own_nb B10) (own_fb B10) (g := (mkF m 30 #[.val (.ref px1), .val .null, .val (.int pi1), .val .null, .val (.int pi2), .val (.int pi3), .val (.int pi4)] [(.int pi4), (.ref px1)])) rfl rfl (hb hby d8_30)
  refine own_step st16 ?_
  have N16 := Fr.snoc X16 N13 G7
  have O16 := O13.wr W16 G7
  have K16 : Keep h0 h16 [px1] := K13.wr W16 (Or.inl (by simp))
  have Fw16 := f14.same W16
  show own_Wp p e below _ T16 (mkF m 33 #[.val (.ref px1), .val .null, .val (.int pi1), .val .null, .val (.int pi2), .val (.int pi3), .val (.int pi4)] [])
  have f17 := (f15.wr W16)
  have f18 := (((((Fw1.other W4 (Or.inr (slot_ne (Or.inl (hw _ (List.mem_of_getElem? (i := 43) rfl))) (Or.inl (hw _ (List.mem_of_getElem? (i := 45) rfl))) (by decide) (t := (.object "java/lang/String")) (t' := .int) (by decide) (by decide)))).other W7 (Or.inr (slot_ne (Or.inl (hw _ (List.mem_of_getElem? (i := 43) rfl))) (Or.inl (hw _ (List.mem_of_getElem? (i := 47) rfl))) (by decide) (t := (.object "java/lang/String")) (t' := (.object "com/example/fieldnote/fieldnote/schema/Field")) (by decide) (by decide)))).other W10 (Or.inr (slot_ne (Or.inl (hw _ (List.mem_of_getElem? (i := 43) rfl))) (Or.inl (hw _ (List.mem_of_getElem? (i := 49) rfl))) (by decide) (t := (.object "java/lang/String")) (t' := .boolean) (by decide) (by decide)))).other W13 (Or.inr (slot_ne (Or.inl (hw _ (List.mem_of_getElem? (i := 43) rfl))) (Or.inl (hw _ (List.mem_of_getElem? (i := 51) rfl))) (by decide) (t := (.object "java/lang/String")) (t' := .boolean) (by decide) (by decide)))).other W16 (Or.inr (slot_ne (Or.inl (hw _ (List.mem_of_getElem? (i := 43) rfl))) (Or.inl (hw _ (List.mem_of_getElem? (i := 53) rfl))) (by decide) (t := (.object "java/lang/String")) (t' := .boolean) (by decide) (by decide))))
  have f19 := ((((Fw4.other W7 (Or.inr (slot_ne (Or.inl (hw _ (List.mem_of_getElem? (i := 45) rfl))) (Or.inl (hw _ (List.mem_of_getElem? (i := 47) rfl))) (by decide) (t := .int) (t' := (.object "com/example/fieldnote/fieldnote/schema/Field")) (by decide) (by decide)))).other W10 (Or.inr (slot_ne (Or.inl (hw _ (List.mem_of_getElem? (i := 45) rfl))) (Or.inl (hw _ (List.mem_of_getElem? (i := 49) rfl))) (by decide) (t := .int) (t' := .boolean) (by decide) (by decide)))).other W13 (Or.inr (slot_ne (Or.inl (hw _ (List.mem_of_getElem? (i := 45) rfl))) (Or.inl (hw _ (List.mem_of_getElem? (i := 51) rfl))) (by decide) (t := .int) (t' := .boolean) (by decide) (by decide)))).other W16 (Or.inr (slot_ne (Or.inl (hw _ (List.mem_of_getElem? (i := 45) rfl))) (Or.inl (hw _ (List.mem_of_getElem? (i := 53) rfl))) (by decide) (t := .int) (t' := .boolean) (by decide) (by decide))))
  have f20 := (((Fw7.other W10 (Or.inr (slot_ne (Or.inl (hw _ (List.mem_of_getElem? (i := 47) rfl))) (Or.inl (hw _ (List.mem_of_getElem? (i := 49) rfl))) (by decide) (t := (.object "com/example/fieldnote/fieldnote/schema/Field")) (t' := .boolean) (by decide) (by decide)))).other W13 (Or.inr (slot_ne (Or.inl (hw _ (List.mem_of_getElem? (i := 47) rfl))) (Or.inl (hw _ (List.mem_of_getElem? (i := 51) rfl))) (by decide) (t := (.object "com/example/fieldnote/fieldnote/schema/Field")) (t' := .boolean) (by decide) (by decide)))).other W16 (Or.inr (slot_ne (Or.inl (hw _ (List.mem_of_getElem? (i := 47) rfl))) (Or.inl (hw _ (List.mem_of_getElem? (i := 53) rfl))) (by decide) (t := (.object "com/example/fieldnote/fieldnote/schema/Field")) (t' := .boolean) (by decide) (by decide))))
  have f21 := ((Fw10.other W13 (Or.inr (slot_ne (Or.inl (hw _ (List.mem_of_getElem? (i := 49) rfl))) (Or.inl (hw _ (List.mem_of_getElem? (i := 51) rfl))) (by decide) (t := .boolean) (t' := .boolean) (by decide) (by decide)))).other W16 (Or.inr (slot_ne (Or.inl (hw _ (List.mem_of_getElem? (i := 49) rfl))) (Or.inl (hw _ (List.mem_of_getElem? (i := 53) rfl))) (by decide) (t := .boolean) (t' := .boolean) (by decide) (by decide))))
  have f22 := (Fw13.other W16 (Or.inr (slot_ne (Or.inl (hw _ (List.mem_of_getElem? (i := 51) rfl))) (Or.inl (hw _ (List.mem_of_getElem? (i := 53) rfl))) (by decide) (t := .boolean) (t' := .boolean) (by decide) (by decide))))
  exact own_retV X16 hx hret hlk (hb hby d8_33) (by decide) (by decide) (by rw [e16]; exact ⟨rfl, N16, K16, f17, f18, f19, f20, f21, f22, Fw16⟩)

set_option maxRecDepth 65536 in
set_option maxHeartbeats 40000000 in
theorem rm8_21 (l : Launch) (Z : State) (a0 : Array Value) (hw : ∀ d ∈ tables_1, d.before a0 Z = true) (hS : ∀ d ∈ jdkStatics_1, d.before a0 Z = true) (ws : List Jvm.Cond) (px1 : Addr) (px2 : Addr) (pi1 : Int32) (pi2 : Int32) (pi3 : Int32) (pi4 : Int32) (pi5 : Int32) (pi6 : Int32) (pi7 : Int32) (pi8 : Int32) (h0 : Heap) (n0 : Nat) (O0 : Old Z n0 h0) (P0 : Exa Z h0 px1 "com/example/fieldnote/fieldnote/text/TextSyntax$Entry") (P1 : Fld Z h0 px1 "com/example/fieldnote/fieldnote/text/TextSyntax$Entry" "name" "Ljava/lang/String;" .null) (P2 : Fld Z h0 px1 "com/example/fieldnote/fieldnote/text/TextSyntax$Entry" "place" "I" (.int pi5)) (P3 : Fld Z h0 px1 "com/example/fieldnote/fieldnote/text/TextSyntax$Entry" "field" "Lcom/example/fieldnote/fieldnote/schema/Field;" .null) (P4 : Fld Z h0 px1 "com/example/fieldnote/fieldnote/text/TextSyntax$Entry" "colon" "Z" (.int pi6)) (P5 : Fld Z h0 px1 "com/example/fieldnote/fieldnote/text/TextSyntax$Entry" "inList" "Z" (.int pi7)) (P6 : Fld Z h0 px1 "com/example/fieldnote/fieldnote/text/TextSyntax$Entry" "messages" "Z" (.int pi8)) (G11 : n0 ≤ px1) (B17 : pi2 = (0 : Int32) ∨ pi2 = (1 : Int32)) (B18 : pi3 = (0 : Int32) ∨ pi3 = (1 : Int32)) (B19 : pi4 = (0 : Int32) ∨ pi4 = (1 : Int32)) :
    own_Met l Z (⟨"com/example/fieldnote/fieldnote/text/TextSyntax$Entry", "set", "(Ljava/lang/String;ILcom/example/fieldnote/fieldnote/schema/Field;ZZZ)V"⟩ : MethodName) (Jvm.Cond.code (⟨"com/example/fieldnote/fieldnote/text/TextSyntax$Entry", "set", "(Ljava/lang/String;ILcom/example/fieldnote/fieldnote/schema/Field;ZZZ)V"⟩ : MethodName) prog_51_method_2_code 7 none) ws ({ frames := 0, cells := 0, slots := 0, locals := 0 } : Room) #[(.ref px1), (.ref px2), (.int pi1), .null, (.int pi2), (.int pi3), (.int pi4)] h0 (fun v h L => (v = none ∧ Fr n0 L ∧ Keep h0 h [px1] ∧ Exa Z h px1 "com/example/fieldnote/fieldnote/text/TextSyntax$Entry" ∧ Fld Z h px1 "com/example/fieldnote/fieldnote/text/TextSyntax$Entry" "name" "Ljava/lang/String;" (.ref px2) ∧ Fld Z h px1 "com/example/fieldnote/fieldnote/text/TextSyntax$Entry" "place" "I" (.int pi1) ∧ Fld Z h px1 "com/example/fieldnote/fieldnote/text/TextSyntax$Entry" "field" "Lcom/example/fieldnote/fieldnote/schema/Field;" .null ∧ Fld Z h px1 "com/example/fieldnote/fieldnote/text/TextSyntax$Entry" "colon" "Z" (.int pi2) ∧ Fld Z h px1 "com/example/fieldnote/fieldnote/text/TextSyntax$Entry" "inList" "Z" (.int pi3) ∧ Fld Z h px1 "com/example/fieldnote/fieldnote/text/TextSyntax$Entry" "messages" "Z" (.int pi4))) := by
  refine own_met (own := "com/example/fieldnote/fieldnote/text/TextSyntax$Entry") (plainFor_of_name pn7) rfl ?_
  intro p e s m below meth c s₁ hx hby hml hown hnm hret hlk hZ e0 X0
  refine own_cast (g' := (mkF m 0 #[.val (.ref px1), .val (.ref px2), .val (.int pi1), .val .null, .val (.int pi2), .val (.int pi3), .val (.int pi4)] [])) (by first | (simp [entryFrame, mkF, argsToLocals, Value.category]; done) | rfl) ?_
  refine own_step (fun _ k => XS.aloadN X0.here hx rfl (hb hby d8_0) rfl rfl k) ?_
  show own_Wp p e below _ s₁ (mkF m 1 #[.val (.ref px1), .val (.ref px2), .val (.int pi1), .val .null, .val (.int pi2), .val (.int pi3), .val (.int pi4)] [(.ref px1)])
  refine own_step (fun _ k => XS.aloadN X0.here hx rfl (hb hby d8_1) rfl rfl k) ?_
  show own_Wp p e below _ s₁ (mkF m 2 #[.val (.ref px1), .val (.ref px2), .val (.int pi1), .val .null, .val (.int pi2), .val (.int pi3), .val (.int pi4)] [(.ref px2), (.ref px1)])
  obtain ⟨T1, h1, X1, e1, W1, st1⟩ := putF X0 hx hZ hown (host := "") (Or.inl (hw _ (List.mem_of_getElem? (i := 42) rfl))) Via.refl e0 P1 P0 (Or.inl (hw _ (List.mem_of_getElem? (i := 43) rfl))) (hw _ (List.mem_of_getElem? (i := 31) rfl)) (ty := (.object "java/lang/String")) (by decide) rfl rfl (g := (mkF m 2 #[.val (.ref px1), .val (.ref px2), .val (.int pi1), .val .null, .val (.int pi2), .val (.int pi3), .val (.int pi4)] [(.ref px2), (.ref px1)])) rfl rfl (hb hby d8_2)
  refine own_step st1 ?_
  have N1 := Fr.snoc X1 (Fr.nil n0) G11
  have O1 := O0.wr W1 G11
  have K1 : Keep h0 h1 [px1] := (Keep.refl h0 [px1]).wr W1 (Or.inl (by simp))
  have Fw1 := P1.same W1
  show own_Wp p e below _ T1 (mkF m 5 #[.val (.ref px1), .val (.ref px2), .val (.int pi1), .val .null, .val (.int pi2), .val (.int pi3), .val (.int pi4)] [])
  refine own_step (fun _ k => XS.aloadN X1.here hx rfl (hb hby d8_5) rfl rfl k) ?_
  show own_Wp p e below _ T1 (mkF m 6 #[.val (.ref px1), .val (.ref px2), .val (.int pi1), .val .null, .val (.int pi2), .val (.int pi3), .val (.int pi4)] [(.ref px1)])
  refine own_step (fun _ k => XS.iloadN X1.here hx rfl (hb hby d8_6) rfl k) ?_
  show own_Wp p e below _ T1 (mkF m 7 #[.val (.ref px1), .val (.ref px2), .val (.int pi1), .val .null, .val (.int pi2), .val (.int pi3), .val (.int pi4)] [(.int pi1), (.ref px1)])
  have f2 := (P2.other W1 (Or.inr (slot_ne (Or.inl (hw _ (List.mem_of_getElem? (i := 45) rfl))) (Or.inl (hw _ (List.mem_of_getElem? (i := 43) rfl))) (by decide) (t := .int) (t' := (.object "java/lang/String")) (by decide) (by decide))))
  have f3 := (P0.wr W1)
  obtain ⟨T4, h4, X4, e4, W4, st4⟩ := putF X1 hx hZ hown (host := "") (Or.inl (hw _ (List.mem_of_getElem? (i := 44) rfl))) Via.refl e1 f2 f3 (Or.inl (hw _ (List.mem_of_getElem? (i := 45) rfl))) (hw _ (List.mem_of_getElem? (i := 31) rfl)) (ty := .int) (by decide) rfl rfl (g := (mkF m 7 #[.val (.ref px1), .val (.ref px2), .val (.int pi1), .val .null, .val (.int pi2), .val (.int pi3), .val (.int pi4)] [(.int pi1), (.ref px1)])) rfl rfl (hb hby d8_7)
  refine own_step st4 ?_
  have N4 := Fr.snoc X4 N1 G11
  have O4 := O1.wr W4 G11
  have K4 : Keep h0 h4 [px1] := K1.wr W4 (Or.inl (by simp))
  have Fw4 := f2.same W4
  show own_Wp p e below _ T4 (mkF m 10 #[.val (.ref px1), .val (.ref px2), .val (.int pi1), .val .null, .val (.int pi2), .val (.int pi3), .val (.int pi4)] [])
  refine own_step (fun _ k => XS.aloadN X4.here hx rfl (hb hby d8_10) rfl rfl k) ?_
  show own_Wp p e below _ T4 (mkF m 11 #[.val (.ref px1), .val (.ref px2), .val (.int pi1), .val .null, .val (.int pi2), .val (.int pi3), .val (.int pi4)] [(.ref px1)])
  refine own_step (fun _ k => XS.aloadN X4.here hx rfl (hb hby d8_11) rfl rfl k) ?_
  show own_Wp p e below _ T4 (mkF m 12 #[.val (.ref px1), .val (.ref px2), .val (.int pi1), .val .null, .val (.int pi2), .val (.int pi3), .val (.int pi4)] [.null, (.ref px1)])
  have f5 := ((P3.other W1 (Or.inr (slot_ne (Or.inl (hw _ (List.mem_of_getElem? (i := 47) rfl))) (Or.inl (hw _ (List.mem_of_getElem? (i := 43) rfl))) (by decide) (t := (.object "com/example/fieldnote/fieldnote/schema/Field")) (t' := (.object "java/lang/String")) (by decide) (by decide)))).other W4 (Or.inr (slot_ne (Or.inl (hw _ (List.mem_of_getElem? (i := 47) rfl))) (Or.inl (hw _ (List.mem_of_getElem? (i := 45) rfl))) (by decide) (t := (.object "com/example/fieldnote/fieldnote/schema/Field")) (t' := .int) (by decide) (by decide))))
  have f6 := (f3.wr W4)
  obtain ⟨T7, h7, X7, e7, W7, st7⟩ := putF X4 hx hZ hown (host := "") (Or.inl (hw _ (List.mem_of_getElem? (i := 46) rfl))) Via.refl e4 f5 f6 (Or.inl (hw _ (List.mem_of_getElem? (i := 47) rfl))) (hw _ (List.mem_of_getElem? (i := 31) rfl)) (ty := (.object "com/example/fieldnote/fieldnote/schema/Field")) (by decide) rfl rfl (g := (mkF m 12 #[.val (.ref px1), .val (.ref px2), .val (.int pi1), .val .null, .val (.int pi2), .val (.int pi3), .val (.int pi4)] [.null, (.ref px1)])) rfl rfl (hb hby d8_12)
  refine own_step st7 ?_
  have N7 := Fr.snoc X7 N4 G11
  have O7 := O4.wr W7 G11
  have K7 : Keep h0 h7 [px1] := K4.wr W7 (Or.inl (by simp))
  have Fw7 := f5.same W7
  show own_Wp p e below _ T7 (mkF m 15 #[.val (.ref px1), .val (.ref px2), .val (.int pi1), .val .null, .val (.int pi2), .val (.int pi3), .val (.int pi4)] [])
  refine own_step (fun _ k => XS.aloadN X7.here hx rfl (hb hby d8_15) rfl rfl k) ?_
  show own_Wp p e below _ T7 (mkF m 16 #[.val (.ref px1), .val (.ref px2), .val (.int pi1), .val .null, .val (.int pi2), .val (.int pi3), .val (.int pi4)] [(.ref px1)])
  refine own_step (fun _ k => XS.iload X7.here hx rfl (hb hby d8_16) rfl k) ?_
  show own_Wp p e below _ T7 (mkF m 18 #[.val (.ref px1), .val (.ref px2), .val (.int pi1), .val .null, .val (.int pi2), .val (.int pi3), .val (.int pi4)] [(.int pi2), (.ref px1)])
  have f8 := (((P4.other W1 (Or.inr (slot_ne (Or.inl (hw _ (List.mem_of_getElem? (i := 49) rfl))) (Or.inl (hw _ (List.mem_of_getElem? (i := 43) rfl))) (by decide) (t := .boolean) (t' := (.object "java/lang/String")) (by decide) (by decide)))).other W4 (Or.inr (slot_ne (Or.inl (hw _ (List.mem_of_getElem? (i := 49) rfl))) (Or.inl (hw _ (List.mem_of_getElem? (i := 45) rfl))) (by decide) (t := .boolean) (t' := .int) (by decide) (by decide)))).other W7 (Or.inr (slot_ne (Or.inl (hw _ (List.mem_of_getElem? (i := 49) rfl))) (Or.inl (hw _ (List.mem_of_getElem? (i := 47) rfl))) (by decide) (t := .boolean) (t' := (.object "com/example/fieldnote/fieldnote/schema/Field")) (by decide) (by decide))))
  have f9 := (f6.wr W7)
  obtain ⟨T10, h10, X10, e10, W10, st10⟩ := putFN X7 hx hZ hown (hw _ (List.mem_of_getElem? (i := 48) rfl)) Via.refl e7 f8 f9 (Or.inl (hw _ (List.mem_of_getElem? (i := 49) rfl))) (hw _ (List.mem_of_getElem? (i := 31) rfl)) (ty := .boolean) (v' := (.int pi2)) (by decide) (own_nb B17) (own_fb B17) (g := (mkF m 18 #[.val (.ref px1), .val (.ref px2), .val (.int pi1), .val .null, .val (.int pi2), .val (.int pi3), .val (.int pi4)] [(.int pi2), (.ref px1)])) rfl rfl (hb hby d8_18)
  refine own_step st10 ?_
  have N10 := Fr.snoc X10 N7 G11
  have O10 := O7.wr W10 G11
  have K10 : Keep h0 h10 [px1] := K7.wr W10 (Or.inl (by simp))
  have Fw10 := f8.same W10
  show own_Wp p e below _ T10 (mkF m 21 #[.val (.ref px1), .val (.ref px2), .val (.int pi1), .val .null, .val (.int pi2), .val (.int pi3), .val (.int pi4)] [])
  refine own_step (fun _ k => XS.aloadN X10.here hx rfl (hb hby d8_21) rfl rfl k) ?_
  show own_Wp p e below _ T10 (mkF m 22 #[.val (.ref px1), .val (.ref px2), .val (.int pi1), .val .null, .val (.int pi2), .val (.int pi3), .val (.int pi4)] [(.ref px1)])
  refine own_step (fun _ k => XS.iload X10.here hx rfl (hb hby d8_22) rfl k) ?_
  show own_Wp p e below _ T10 (mkF m 24 #[.val (.ref px1), .val (.ref px2), .val (.int pi1), .val .null, .val (.int pi2), .val (.int pi3), .val (.int pi4)] [(.int pi3), (.ref px1)])
  have f11 := ((((P5.other W1 (Or.inr (slot_ne (Or.inl (hw _ (List.mem_of_getElem? (i := 51) rfl))) (Or.inl (hw _ (List.mem_of_getElem? (i := 43) rfl))) (by decide) (t := .boolean) (t' := (.object "java/lang/String")) (by decide) (by decide)))).other W4 (Or.inr (slot_ne (Or.inl (hw _ (List.mem_of_getElem? (i := 51) rfl))) (Or.inl (hw _ (List.mem_of_getElem? (i := 45) rfl))) (by decide) (t := .boolean) (t' := .int) (by decide) (by decide)))).other W7 (Or.inr (slot_ne (Or.inl (hw _ (List.mem_of_getElem? (i := 51) rfl))) (Or.inl (hw _ (List.mem_of_getElem? (i := 47) rfl))) (by decide) (t := .boolean) (t' := (.object "com/example/fieldnote/fieldnote/schema/Field")) (by decide) (by decide)))).other W10 (Or.inr (slot_ne (Or.inl (hw _ (List.mem_of_getElem? (i := 51) rfl))) (Or.inl (hw _ (List.mem_of_getElem? (i := 49) rfl))) (by decide) (t := .boolean) (t' := .boolean) (by decide) (by decide))))
  have f12 := (f9.wr W10)
  obtain ⟨T13, h13, X13, e13, W13, st13⟩ := putFN X10 hx hZ hown (hw _ (List.mem_of_getElem? (i := 50) rfl)) Via.refl e10 f11 f12 (Or.inl (hw _ (List.mem_of_getElem? (i := 51) rfl))) (hw _ (List.mem_of_getElem? (i := 31) rfl)) (ty := .boolean) (v' := (.int pi3)) (by decide) (own_nb B18) (own_fb B18) (g := (mkF m 24 #[.val (.ref px1), .val (.ref px2), .val (.int pi1), .val .null, .val (.int pi2), .val (.int pi3), .val (.int pi4)] [(.int pi3), (.ref px1)])) rfl rfl (hb hby d8_24)
  refine own_step st13 ?_
  have N13 := Fr.snoc X13 N10 G11
  have O13 := O10.wr W13 G11
  have K13 : Keep h0 h13 [px1] := K10.wr W13 (Or.inl (by simp))
  have Fw13 := f11.same W13
  show own_Wp p e below _ T13 (mkF m 27 #[.val (.ref px1), .val (.ref px2), .val (.int pi1), .val .null, .val (.int pi2), .val (.int pi3), .val (.int pi4)] [])
  refine own_step (fun _ k => XS.aloadN X13.here hx rfl (hb hby d8_27) rfl rfl k) ?_
  show own_Wp p e below _ T13 (mkF m 28 #[.val (.ref px1), .val (.ref px2), .val (.int pi1), .val .null, .val (.int pi2), .val (.int pi3), .val (.int pi4)] [(.ref px1)])
  refine own_step (fun _ k => XS.iload X13.here hx rfl (hb hby d8_28) rfl k) ?_
  show own_Wp p e below _ T13 (mkF m 30 #[.val (.ref px1), .val (.ref px2), .val (.int pi1), .val .null, .val (.int pi2), .val (.int pi3), .val (.int pi4)] [(.int pi4), (.ref px1)])
  have f14 := (((((P6.other W1 (Or.inr (slot_ne (Or.inl (hw _ (List.mem_of_getElem? (i := 53) rfl))) (Or.inl (hw _ (List.mem_of_getElem? (i := 43) rfl))) (by decide) (t := .boolean) (t' := (.object "java/lang/String")) (by decide) (by decide)))).other W4 (Or.inr (slot_ne (Or.inl (hw _ (List.mem_of_getElem? (i := 53) rfl))) (Or.inl (hw _ (List.mem_of_getElem? (i := 45) rfl))) (by decide) (t := .boolean) (t' := .int) (by decide) (by decide)))).other W7 (Or.inr (slot_ne (Or.inl (hw _ (List.mem_of_getElem? (i := 53) rfl))) (Or.inl (hw _ (List.mem_of_getElem? (i := 47) rfl))) (by decide) (t := .boolean) (t' := (.object "com/example/fieldnote/fieldnote/schema/Field")) (by decide) (by decide)))).other W10 (Or.inr (slot_ne (Or.inl (hw _ (List.mem_of_getElem? (i := 53) rfl))) (Or.inl (hw _ (List.mem_of_getElem? (i := 49) rfl))) (by decide) (t := .boolean) (t' := .boolean) (by decide) (by decide)))).other W13 (Or.inr (slot_ne (Or.inl (hw _ (List.mem_of_getElem? (i := 53) rfl))) (Or.inl (hw _ (List.mem_of_getElem? (i := 51) rfl))) (by decide) (t := .boolean) (t' := .boolean) (by decide) (by decide))))
  have f15 := (f12.wr W13)
  obtain ⟨T16, h16, X16, e16, W16, st16⟩ := putFN X13 hx hZ hown (hw _ (List.mem_of_getElem? (i := 52) rfl)) Via.refl e13 f14 f15 (Or.inl (hw _ (List.mem_of_getElem? (i := 53) rfl))) (hw _ (List.mem_of_getElem? (i := 31) rfl)) (ty := .boolean) (v' := (.int pi4)) (by decide) (own_nb B19) (own_fb B19) (g := (mkF m 30 #[.val (.ref px1), .val (.ref px2), .val (.int pi1), .val .null, .val (.int pi2), .val (.int pi3), .val (.int pi4)] [(.int pi4), (.ref px1)])) rfl rfl (hb hby d8_30)
  refine own_step st16 ?_
  have N16 := Fr.snoc X16 N13 G11
  have O16 := O13.wr W16 G11
  have K16 : Keep h0 h16 [px1] := K13.wr W16 (Or.inl (by simp))
  have Fw16 := f14.same W16
  show own_Wp p e below _ T16 (mkF m 33 #[.val (.ref px1), .val (.ref px2), .val (.int pi1), .val .null, .val (.int pi2), .val (.int pi3), .val (.int pi4)] [])
  have f17 := (f15.wr W16)
  have f18 := (((((Fw1.other W4 (Or.inr (slot_ne (Or.inl (hw _ (List.mem_of_getElem? (i := 43) rfl))) (Or.inl (hw _ (List.mem_of_getElem? (i := 45) rfl))) (by decide) (t := (.object "java/lang/String")) (t' := .int) (by decide) (by decide)))).other W7 (Or.inr (slot_ne (Or.inl (hw _ (List.mem_of_getElem? (i := 43) rfl))) (Or.inl (hw _ (List.mem_of_getElem? (i := 47) rfl))) (by decide) (t := (.object "java/lang/String")) (t' := (.object "com/example/fieldnote/fieldnote/schema/Field")) (by decide) (by decide)))).other W10 (Or.inr (slot_ne (Or.inl (hw _ (List.mem_of_getElem? (i := 43) rfl))) (Or.inl (hw _ (List.mem_of_getElem? (i := 49) rfl))) (by decide) (t := (.object "java/lang/String")) (t' := .boolean) (by decide) (by decide)))).other W13 (Or.inr (slot_ne (Or.inl (hw _ (List.mem_of_getElem? (i := 43) rfl))) (Or.inl (hw _ (List.mem_of_getElem? (i := 51) rfl))) (by decide) (t := (.object "java/lang/String")) (t' := .boolean) (by decide) (by decide)))).other W16 (Or.inr (slot_ne (Or.inl (hw _ (List.mem_of_getElem? (i := 43) rfl))) (Or.inl (hw _ (List.mem_of_getElem? (i := 53) rfl))) (by decide) (t := (.object "java/lang/String")) (t' := .boolean) (by decide) (by decide))))
  have f19 := ((((Fw4.other W7 (Or.inr (slot_ne (Or.inl (hw _ (List.mem_of_getElem? (i := 45) rfl))) (Or.inl (hw _ (List.mem_of_getElem? (i := 47) rfl))) (by decide) (t := .int) (t' := (.object "com/example/fieldnote/fieldnote/schema/Field")) (by decide) (by decide)))).other W10 (Or.inr (slot_ne (Or.inl (hw _ (List.mem_of_getElem? (i := 45) rfl))) (Or.inl (hw _ (List.mem_of_getElem? (i := 49) rfl))) (by decide) (t := .int) (t' := .boolean) (by decide) (by decide)))).other W13 (Or.inr (slot_ne (Or.inl (hw _ (List.mem_of_getElem? (i := 45) rfl))) (Or.inl (hw _ (List.mem_of_getElem? (i := 51) rfl))) (by decide) (t := .int) (t' := .boolean) (by decide) (by decide)))).other W16 (Or.inr (slot_ne (Or.inl (hw _ (List.mem_of_getElem? (i := 45) rfl))) (Or.inl (hw _ (List.mem_of_getElem? (i := 53) rfl))) (by decide) (t := .int) (t' := .boolean) (by decide) (by decide))))
  have f20 := (((Fw7.other W10 (Or.inr (slot_ne (Or.inl (hw _ (List.mem_of_getElem? (i := 47) rfl))) (Or.inl (hw _ (List.mem_of_getElem? (i := 49) rfl))) (by decide) (t := (.object "com/example/fieldnote/fieldnote/schema/Field")) (t' := .boolean) (by decide) (by decide)))).other W13 (Or.inr (slot_ne (Or.inl (hw _ (List.mem_of_getElem? (i := 47) rfl))) (Or.inl (hw _ (List.mem_of_getElem? (i := 51) rfl))) (by decide) (t := (.object "com/example/fieldnote/fieldnote/schema/Field")) (t' := .boolean) (by decide) (by decide)))).other W16 (Or.inr (slot_ne (Or.inl (hw _ (List.mem_of_getElem? (i := 47) rfl))) (Or.inl (hw _ (List.mem_of_getElem? (i := 53) rfl))) (by decide) (t := (.object "com/example/fieldnote/fieldnote/schema/Field")) (t' := .boolean) (by decide) (by decide))))
  have f21 := ((Fw10.other W13 (Or.inr (slot_ne (Or.inl (hw _ (List.mem_of_getElem? (i := 49) rfl))) (Or.inl (hw _ (List.mem_of_getElem? (i := 51) rfl))) (by decide) (t := .boolean) (t' := .boolean) (by decide) (by decide)))).other W16 (Or.inr (slot_ne (Or.inl (hw _ (List.mem_of_getElem? (i := 49) rfl))) (Or.inl (hw _ (List.mem_of_getElem? (i := 53) rfl))) (by decide) (t := .boolean) (t' := .boolean) (by decide) (by decide))))
  have f22 := (Fw13.other W16 (Or.inr (slot_ne (Or.inl (hw _ (List.mem_of_getElem? (i := 51) rfl))) (Or.inl (hw _ (List.mem_of_getElem? (i := 53) rfl))) (by decide) (t := .boolean) (t' := .boolean) (by decide) (by decide))))
  exact own_retV X16 hx hret hlk (hb hby d8_33) (by decide) (by decide) (by rw [e16]; exact ⟨rfl, N16, K16, f17, f18, f19, f20, f21, f22, Fw16⟩)

set_option maxRecDepth 65536 in
set_option maxHeartbeats 40000000 in
theorem rm8_22 (l : Launch) (Z : State) (a0 : Array Value) (hw : ∀ d ∈ tables_1, d.before a0 Z = true) (hS : ∀ d ∈ jdkStatics_1, d.before a0 Z = true) (ws : List Jvm.Cond) (px1 : Addr) (pi1 : Int32) (pi2 : Int32) (pi3 : Int32) (pi4 : Int32) (pi5 : Int32) (pi6 : Int32) (pi7 : Int32) (pi8 : Int32) (h0 : Heap) (n0 : Nat) (O0 : Old Z n0 h0) (P0 : Exa Z h0 px1 "com/example/fieldnote/fieldnote/text/TextSyntax$Entry") (P1 : Fld Z h0 px1 "com/example/fieldnote/fieldnote/text/TextSyntax$Entry" "name" "Ljava/lang/String;" .null) (P2 : Fld Z h0 px1 "com/example/fieldnote/fieldnote/text/TextSyntax$Entry" "place" "I" (.int pi5)) (P3 : Fld Z h0 px1 "com/example/fieldnote/fieldnote/text/TextSyntax$Entry" "field" "Lcom/example/fieldnote/fieldnote/schema/Field;" .null) (P4 : Fld Z h0 px1 "com/example/fieldnote/fieldnote/text/TextSyntax$Entry" "colon" "Z" (.int pi6)) (P5 : Fld Z h0 px1 "com/example/fieldnote/fieldnote/text/TextSyntax$Entry" "inList" "Z" (.int pi7)) (P6 : Fld Z h0 px1 "com/example/fieldnote/fieldnote/text/TextSyntax$Entry" "messages" "Z" (.int pi8)) (G7 : n0 ≤ px1) (B8 : pi2 = (0 : Int32) ∨ pi2 = (1 : Int32)) (B9 : pi3 = (0 : Int32) ∨ pi3 = (1 : Int32)) (B10 : pi4 = (0 : Int32) ∨ pi4 = (1 : Int32)) :
    own_Met l Z (⟨"com/example/fieldnote/fieldnote/text/TextSyntax$Entry", "set", "(Ljava/lang/String;ILcom/example/fieldnote/fieldnote/schema/Field;ZZZ)V"⟩ : MethodName) (Jvm.Cond.code (⟨"com/example/fieldnote/fieldnote/text/TextSyntax$Entry", "set", "(Ljava/lang/String;ILcom/example/fieldnote/fieldnote/schema/Field;ZZZ)V"⟩ : MethodName) prog_51_method_2_code 7 none) ws ({ frames := 0, cells := 0, slots := 0, locals := 0 } : Room) #[(.ref px1), .null, (.int pi1), .null, (.int pi2), (.int pi3), (.int pi4)] h0 (fun v h L => (v = none ∧ Fr n0 L ∧ Keep h0 h [px1] ∧ Exa Z h px1 "com/example/fieldnote/fieldnote/text/TextSyntax$Entry" ∧ Fld Z h px1 "com/example/fieldnote/fieldnote/text/TextSyntax$Entry" "name" "Ljava/lang/String;" .null ∧ Fld Z h px1 "com/example/fieldnote/fieldnote/text/TextSyntax$Entry" "place" "I" (.int pi1) ∧ Fld Z h px1 "com/example/fieldnote/fieldnote/text/TextSyntax$Entry" "field" "Lcom/example/fieldnote/fieldnote/schema/Field;" .null ∧ Fld Z h px1 "com/example/fieldnote/fieldnote/text/TextSyntax$Entry" "colon" "Z" (.int pi2) ∧ Fld Z h px1 "com/example/fieldnote/fieldnote/text/TextSyntax$Entry" "inList" "Z" (.int pi3) ∧ Fld Z h px1 "com/example/fieldnote/fieldnote/text/TextSyntax$Entry" "messages" "Z" (.int pi4))) := by
  refine own_met (own := "com/example/fieldnote/fieldnote/text/TextSyntax$Entry") (plainFor_of_name pn7) rfl ?_
  intro p e s m below meth c s₁ hx hby hml hown hnm hret hlk hZ e0 X0
  refine own_cast (g' := (mkF m 0 #[.val (.ref px1), .val .null, .val (.int pi1), .val .null, .val (.int pi2), .val (.int pi3), .val (.int pi4)] [])) (by first | (simp [entryFrame, mkF, argsToLocals, Value.category]; done) | rfl) ?_
  refine own_step (fun _ k => XS.aloadN X0.here hx rfl (hb hby d8_0) rfl rfl k) ?_
  show own_Wp p e below _ s₁ (mkF m 1 #[.val (.ref px1), .val .null, .val (.int pi1), .val .null, .val (.int pi2), .val (.int pi3), .val (.int pi4)] [(.ref px1)])
  refine own_step (fun _ k => XS.aloadN X0.here hx rfl (hb hby d8_1) rfl rfl k) ?_
  show own_Wp p e below _ s₁ (mkF m 2 #[.val (.ref px1), .val .null, .val (.int pi1), .val .null, .val (.int pi2), .val (.int pi3), .val (.int pi4)] [.null, (.ref px1)])
  obtain ⟨T1, h1, X1, e1, W1, st1⟩ := putF X0 hx hZ hown (host := "") (Or.inl (hw _ (List.mem_of_getElem? (i := 42) rfl))) Via.refl e0 P1 P0 (Or.inl (hw _ (List.mem_of_getElem? (i := 43) rfl))) (hw _ (List.mem_of_getElem? (i := 31) rfl)) (ty := (.object "java/lang/String")) (by decide) rfl rfl (g := (mkF m 2 #[.val (.ref px1), .val .null, .val (.int pi1), .val .null, .val (.int pi2), .val (.int pi3), .val (.int pi4)] [.null, (.ref px1)])) rfl rfl (hb hby d8_2)
  refine own_step st1 ?_
  have N1 := Fr.snoc X1 (Fr.nil n0) G7
  have O1 := O0.wr W1 G7
  have K1 : Keep h0 h1 [px1] := (Keep.refl h0 [px1]).wr W1 (Or.inl (by simp))
  have Fw1 := P1.same W1
  show own_Wp p e below _ T1 (mkF m 5 #[.val (.ref px1), .val .null, .val (.int pi1), .val .null, .val (.int pi2), .val (.int pi3), .val (.int pi4)] [])
  refine own_step (fun _ k => XS.aloadN X1.here hx rfl (hb hby d8_5) rfl rfl k) ?_
  show own_Wp p e below _ T1 (mkF m 6 #[.val (.ref px1), .val .null, .val (.int pi1), .val .null, .val (.int pi2), .val (.int pi3), .val (.int pi4)] [(.ref px1)])
  refine own_step (fun _ k => XS.iloadN X1.here hx rfl (hb hby d8_6) rfl k) ?_
  show own_Wp p e below _ T1 (mkF m 7 #[.val (.ref px1), .val .null, .val (.int pi1), .val .null, .val (.int pi2), .val (.int pi3), .val (.int pi4)] [(.int pi1), (.ref px1)])
  have f2 := (P2.other W1 (Or.inr (slot_ne (Or.inl (hw _ (List.mem_of_getElem? (i := 45) rfl))) (Or.inl (hw _ (List.mem_of_getElem? (i := 43) rfl))) (by decide) (t := .int) (t' := (.object "java/lang/String")) (by decide) (by decide))))
  have f3 := (P0.wr W1)
  obtain ⟨T4, h4, X4, e4, W4, st4⟩ := putF X1 hx hZ hown (host := "") (Or.inl (hw _ (List.mem_of_getElem? (i := 44) rfl))) Via.refl e1 f2 f3 (Or.inl (hw _ (List.mem_of_getElem? (i := 45) rfl))) (hw _ (List.mem_of_getElem? (i := 31) rfl)) (ty := .int) (by decide) rfl rfl (g := (mkF m 7 #[.val (.ref px1), .val .null, .val (.int pi1), .val .null, .val (.int pi2), .val (.int pi3), .val (.int pi4)] [(.int pi1), (.ref px1)])) rfl rfl (hb hby d8_7)
  refine own_step st4 ?_
  have N4 := Fr.snoc X4 N1 G7
  have O4 := O1.wr W4 G7
  have K4 : Keep h0 h4 [px1] := K1.wr W4 (Or.inl (by simp))
  have Fw4 := f2.same W4
  show own_Wp p e below _ T4 (mkF m 10 #[.val (.ref px1), .val .null, .val (.int pi1), .val .null, .val (.int pi2), .val (.int pi3), .val (.int pi4)] [])
  refine own_step (fun _ k => XS.aloadN X4.here hx rfl (hb hby d8_10) rfl rfl k) ?_
  show own_Wp p e below _ T4 (mkF m 11 #[.val (.ref px1), .val .null, .val (.int pi1), .val .null, .val (.int pi2), .val (.int pi3), .val (.int pi4)] [(.ref px1)])
  refine own_step (fun _ k => XS.aloadN X4.here hx rfl (hb hby d8_11) rfl rfl k) ?_
  show own_Wp p e below _ T4 (mkF m 12 #[.val (.ref px1), .val .null, .val (.int pi1), .val .null, .val (.int pi2), .val (.int pi3), .val (.int pi4)] [.null, (.ref px1)])
  have f5 := ((P3.other W1 (Or.inr (slot_ne (Or.inl (hw _ (List.mem_of_getElem? (i := 47) rfl))) (Or.inl (hw _ (List.mem_of_getElem? (i := 43) rfl))) (by decide) (t := (.object "com/example/fieldnote/fieldnote/schema/Field")) (t' := (.object "java/lang/String")) (by decide) (by decide)))).other W4 (Or.inr (slot_ne (Or.inl (hw _ (List.mem_of_getElem? (i := 47) rfl))) (Or.inl (hw _ (List.mem_of_getElem? (i := 45) rfl))) (by decide) (t := (.object "com/example/fieldnote/fieldnote/schema/Field")) (t' := .int) (by decide) (by decide))))
  have f6 := (f3.wr W4)
  obtain ⟨T7, h7, X7, e7, W7, st7⟩ := putF X4 hx hZ hown (host := "") (Or.inl (hw _ (List.mem_of_getElem? (i := 46) rfl))) Via.refl e4 f5 f6 (Or.inl (hw _ (List.mem_of_getElem? (i := 47) rfl))) (hw _ (List.mem_of_getElem? (i := 31) rfl)) (ty := (.object "com/example/fieldnote/fieldnote/schema/Field")) (by decide) rfl rfl (g := (mkF m 12 #[.val (.ref px1), .val .null, .val (.int pi1), .val .null, .val (.int pi2), .val (.int pi3), .val (.int pi4)] [.null, (.ref px1)])) rfl rfl (hb hby d8_12)
  refine own_step st7 ?_
  have N7 := Fr.snoc X7 N4 G7
  have O7 := O4.wr W7 G7
  have K7 : Keep h0 h7 [px1] := K4.wr W7 (Or.inl (by simp))
  have Fw7 := f5.same W7
  show own_Wp p e below _ T7 (mkF m 15 #[.val (.ref px1), .val .null, .val (.int pi1), .val .null, .val (.int pi2), .val (.int pi3), .val (.int pi4)] [])
  refine own_step (fun _ k => XS.aloadN X7.here hx rfl (hb hby d8_15) rfl rfl k) ?_
  show own_Wp p e below _ T7 (mkF m 16 #[.val (.ref px1), .val .null, .val (.int pi1), .val .null, .val (.int pi2), .val (.int pi3), .val (.int pi4)] [(.ref px1)])
  refine own_step (fun _ k => XS.iload X7.here hx rfl (hb hby d8_16) rfl k) ?_
  show own_Wp p e below _ T7 (mkF m 18 #[.val (.ref px1), .val .null, .val (.int pi1), .val .null, .val (.int pi2), .val (.int pi3), .val (.int pi4)] [(.int pi2), (.ref px1)])
  have f8 := (((P4.other W1 (Or.inr (slot_ne (Or.inl (hw _ (List.mem_of_getElem? (i := 49) rfl))) (Or.inl (hw _ (List.mem_of_getElem? (i := 43) rfl))) (by decide) (t := .boolean) (t' := (.object "java/lang/String")) (by decide) (by decide)))).other W4 (Or.inr (slot_ne (Or.inl (hw _ (List.mem_of_getElem? (i := 49) rfl))) (Or.inl (hw _ (List.mem_of_getElem? (i := 45) rfl))) (by decide) (t := .boolean) (t' := .int) (by decide) (by decide)))).other W7 (Or.inr (slot_ne (Or.inl (hw _ (List.mem_of_getElem? (i := 49) rfl))) (Or.inl (hw _ (List.mem_of_getElem? (i := 47) rfl))) (by decide) (t := .boolean) (t' := (.object "com/example/fieldnote/fieldnote/schema/Field")) (by decide) (by decide))))
  have f9 := (f6.wr W7)
  obtain ⟨T10, h10, X10, e10, W10, st10⟩ := putFN X7 hx hZ hown (hw _ (List.mem_of_getElem? (i := 48) rfl)) Via.refl e7 f8 f9 (Or.inl (hw _ (List.mem_of_getElem? (i := 49) rfl))) (hw _ (List.mem_of_getElem? (i := 31) rfl)) (ty := .boolean) (v' := (.int pi2)) (by decide) (own_nb B8) (own_fb B8) (g := (mkF m 18 #[.val (.ref px1), .val .null, .val (.int pi1), .val .null, .val (.int pi2), .val (.int pi3), .val (.int pi4)] [(.int pi2), (.ref px1)])) rfl rfl (hb hby d8_18)
  refine own_step st10 ?_
  have N10 := Fr.snoc X10 N7 G7
  have O10 := O7.wr W10 G7
  have K10 : Keep h0 h10 [px1] := K7.wr W10 (Or.inl (by simp))
  have Fw10 := f8.same W10
  show own_Wp p e below _ T10 (mkF m 21 #[.val (.ref px1), .val .null, .val (.int pi1), .val .null, .val (.int pi2), .val (.int pi3), .val (.int pi4)] [])
  refine own_step (fun _ k => XS.aloadN X10.here hx rfl (hb hby d8_21) rfl rfl k) ?_
  show own_Wp p e below _ T10 (mkF m 22 #[.val (.ref px1), .val .null, .val (.int pi1), .val .null, .val (.int pi2), .val (.int pi3), .val (.int pi4)] [(.ref px1)])
  refine own_step (fun _ k => XS.iload X10.here hx rfl (hb hby d8_22) rfl k) ?_
  show own_Wp p e below _ T10 (mkF m 24 #[.val (.ref px1), .val .null, .val (.int pi1), .val .null, .val (.int pi2), .val (.int pi3), .val (.int pi4)] [(.int pi3), (.ref px1)])
  have f11 := ((((P5.other W1 (Or.inr (slot_ne (Or.inl (hw _ (List.mem_of_getElem? (i := 51) rfl))) (Or.inl (hw _ (List.mem_of_getElem? (i := 43) rfl))) (by decide) (t := .boolean) (t' := (.object "java/lang/String")) (by decide) (by decide)))).other W4 (Or.inr (slot_ne (Or.inl (hw _ (List.mem_of_getElem? (i := 51) rfl))) (Or.inl (hw _ (List.mem_of_getElem? (i := 45) rfl))) (by decide) (t := .boolean) (t' := .int) (by decide) (by decide)))).other W7 (Or.inr (slot_ne (Or.inl (hw _ (List.mem_of_getElem? (i := 51) rfl))) (Or.inl (hw _ (List.mem_of_getElem? (i := 47) rfl))) (by decide) (t := .boolean) (t' := (.object "com/example/fieldnote/fieldnote/schema/Field")) (by decide) (by decide)))).other W10 (Or.inr (slot_ne (Or.inl (hw _ (List.mem_of_getElem? (i := 51) rfl))) (Or.inl (hw _ (List.mem_of_getElem? (i := 49) rfl))) (by decide) (t := .boolean) (t' := .boolean) (by decide) (by decide))))
  have f12 := (f9.wr W10)
  obtain ⟨T13, h13, X13, e13, W13, st13⟩ := putFN X10 hx hZ hown (hw _ (List.mem_of_getElem? (i := 50) rfl)) Via.refl e10 f11 f12 (Or.inl (hw _ (List.mem_of_getElem? (i := 51) rfl))) (hw _ (List.mem_of_getElem? (i := 31) rfl)) (ty := .boolean) (v' := (.int pi3)) (by decide) (own_nb B9) (own_fb B9) (g := (mkF m 24 #[.val (.ref px1), .val .null, .val (.int pi1), .val .null, .val (.int pi2), .val (.int pi3), .val (.int pi4)] [(.int pi3), (.ref px1)])) rfl rfl (hb hby d8_24)
  refine own_step st13 ?_
  have N13 := Fr.snoc X13 N10 G7
  have O13 := O10.wr W13 G7
  have K13 : Keep h0 h13 [px1] := K10.wr W13 (Or.inl (by simp))
  have Fw13 := f11.same W13
  show own_Wp p e below _ T13 (mkF m 27 #[.val (.ref px1), .val .null, .val (.int pi1), .val .null, .val (.int pi2), .val (.int pi3), .val (.int pi4)] [])
  refine own_step (fun _ k => XS.aloadN X13.here hx rfl (hb hby d8_27) rfl rfl k) ?_
  show own_Wp p e below _ T13 (mkF m 28 #[.val (.ref px1), .val .null, .val (.int pi1), .val .null, .val (.int pi2), .val (.int pi3), .val (.int pi4)] [(.ref px1)])
  refine own_step (fun _ k => XS.iload X13.here hx rfl (hb hby d8_28) rfl k) ?_
  show own_Wp p e below _ T13 (mkF m 30 #[.val (.ref px1), .val .null, .val (.int pi1), .val .null, .val (.int pi2), .val (.int pi3), .val (.int pi4)] [(.int pi4), (.ref px1)])
  have f14 := (((((P6.other W1 (Or.inr (slot_ne (Or.inl (hw _ (List.mem_of_getElem? (i := 53) rfl))) (Or.inl (hw _ (List.mem_of_getElem? (i := 43) rfl))) (by decide) (t := .boolean) (t' := (.object "java/lang/String")) (by decide) (by decide)))).other W4 (Or.inr (slot_ne (Or.inl (hw _ (List.mem_of_getElem? (i := 53) rfl))) (Or.inl (hw _ (List.mem_of_getElem? (i := 45) rfl))) (by decide) (t := .boolean) (t' := .int) (by decide) (by decide)))).other W7 (Or.inr (slot_ne (Or.inl (hw _ (List.mem_of_getElem? (i := 53) rfl))) (Or.inl (hw _ (List.mem_of_getElem? (i := 47) rfl))) (by decide) (t := .boolean) (t' := (.object "com/example/fieldnote/fieldnote/schema/Field")) (by decide) (by decide)))).other W10 (Or.inr (slot_ne (Or.inl (hw _ (List.mem_of_getElem? (i := 53) rfl))) (Or.inl (hw _ (List.mem_of_getElem? (i := 49) rfl))) (by decide) (t := .boolean) (t' := .boolean) (by decide) (by decide)))).other W13 (Or.inr (slot_ne (Or.inl (hw _ (List.mem_of_getElem? (i := 53) rfl))) (Or.inl (hw _ (List.mem_of_getElem? (i := 51) rfl))) (by decide) (t := .boolean) (t' := .boolean) (by decide) (by decide))))
  have f15 := (f12.wr W13)
  obtain ⟨T16, h16, X16, e16, W16, st16⟩ := putFN X13 hx hZ hown (hw _ (List.mem_of_getElem? (i := 52) rfl)) Via.refl e13 f14 f15 (Or.inl (hw _ (List.mem_of_getElem? (i := 53) rfl))) (hw _ (List.mem_of_getElem? (i := 31) rfl)) (ty := .boolean) (v' := (.int pi4)) (by decide) (own_nb B10) (own_fb B10) (g := (mkF m 30 #[.val (.ref px1), .val .null, .val (.int pi1), .val .null, .val (.int pi2), .val (.int pi3), .val (.int pi4)] [(.int pi4), (.ref px1)])) rfl rfl (hb hby d8_30)
  refine own_step st16 ?_
  have N16 := Fr.snoc X16 N13 G7
  have O16 := O13.wr W16 G7
  have K16 : Keep h0 h16 [px1] := K13.wr W16 (Or.inl (by simp))
  have Fw16 := f14.same W16
  show own_Wp p e below _ T16 (mkF m 33 #[.val (.ref px1), .val .null, .val (.int pi1), .val .null, .val (.int pi2), .val (.int pi3), .val (.int pi4)] [])
  have f17 := (f15.wr W16)
  have f18 := (((((Fw1.other W4 (Or.inr (slot_ne (Or.inl (hw _ (List.mem_of_getElem? (i := 43) rfl))) (Or.inl (hw _ (List.mem_of_getElem? (i := 45) rfl))) (by decide) (t := (.object "java/lang/String")) (t' := .int) (by decide) (by decide)))).other W7 (Or.inr (slot_ne (Or.inl (hw _ (List.mem_of_getElem? (i := 43) rfl))) (Or.inl (hw _ (List.mem_of_getElem? (i := 47) rfl))) (by decide) (t := (.object "java/lang/String")) (t' := (.object "com/example/fieldnote/fieldnote/schema/Field")) (by decide) (by decide)))).other W10 (Or.inr (slot_ne (Or.inl (hw _ (List.mem_of_getElem? (i := 43) rfl))) (Or.inl (hw _ (List.mem_of_getElem? (i := 49) rfl))) (by decide) (t := (.object "java/lang/String")) (t' := .boolean) (by decide) (by decide)))).other W13 (Or.inr (slot_ne (Or.inl (hw _ (List.mem_of_getElem? (i := 43) rfl))) (Or.inl (hw _ (List.mem_of_getElem? (i := 51) rfl))) (by decide) (t := (.object "java/lang/String")) (t' := .boolean) (by decide) (by decide)))).other W16 (Or.inr (slot_ne (Or.inl (hw _ (List.mem_of_getElem? (i := 43) rfl))) (Or.inl (hw _ (List.mem_of_getElem? (i := 53) rfl))) (by decide) (t := (.object "java/lang/String")) (t' := .boolean) (by decide) (by decide))))
  have f19 := ((((Fw4.other W7 (Or.inr (slot_ne (Or.inl (hw _ (List.mem_of_getElem? (i := 45) rfl))) (Or.inl (hw _ (List.mem_of_getElem? (i := 47) rfl))) (by decide) (t := .int) (t' := (.object "com/example/fieldnote/fieldnote/schema/Field")) (by decide) (by decide)))).other W10 (Or.inr (slot_ne (Or.inl (hw _ (List.mem_of_getElem? (i := 45) rfl))) (Or.inl (hw _ (List.mem_of_getElem? (i := 49) rfl))) (by decide) (t := .int) (t' := .boolean) (by decide) (by decide)))).other W13 (Or.inr (slot_ne (Or.inl (hw _ (List.mem_of_getElem? (i := 45) rfl))) (Or.inl (hw _ (List.mem_of_getElem? (i := 51) rfl))) (by decide) (t := .int) (t' := .boolean) (by decide) (by decide)))).other W16 (Or.inr (slot_ne (Or.inl (hw _ (List.mem_of_getElem? (i := 45) rfl))) (Or.inl (hw _ (List.mem_of_getElem? (i := 53) rfl))) (by decide) (t := .int) (t' := .boolean) (by decide) (by decide))))
  have f20 := (((Fw7.other W10 (Or.inr (slot_ne (Or.inl (hw _ (List.mem_of_getElem? (i := 47) rfl))) (Or.inl (hw _ (List.mem_of_getElem? (i := 49) rfl))) (by decide) (t := (.object "com/example/fieldnote/fieldnote/schema/Field")) (t' := .boolean) (by decide) (by decide)))).other W13 (Or.inr (slot_ne (Or.inl (hw _ (List.mem_of_getElem? (i := 47) rfl))) (Or.inl (hw _ (List.mem_of_getElem? (i := 51) rfl))) (by decide) (t := (.object "com/example/fieldnote/fieldnote/schema/Field")) (t' := .boolean) (by decide) (by decide)))).other W16 (Or.inr (slot_ne (Or.inl (hw _ (List.mem_of_getElem? (i := 47) rfl))) (Or.inl (hw _ (List.mem_of_getElem? (i := 53) rfl))) (by decide) (t := (.object "com/example/fieldnote/fieldnote/schema/Field")) (t' := .boolean) (by decide) (by decide))))
  have f21 := ((Fw10.other W13 (Or.inr (slot_ne (Or.inl (hw _ (List.mem_of_getElem? (i := 49) rfl))) (Or.inl (hw _ (List.mem_of_getElem? (i := 51) rfl))) (by decide) (t := .boolean) (t' := .boolean) (by decide) (by decide)))).other W16 (Or.inr (slot_ne (Or.inl (hw _ (List.mem_of_getElem? (i := 49) rfl))) (Or.inl (hw _ (List.mem_of_getElem? (i := 53) rfl))) (by decide) (t := .boolean) (t' := .boolean) (by decide) (by decide))))
  have f22 := (Fw13.other W16 (Or.inr (slot_ne (Or.inl (hw _ (List.mem_of_getElem? (i := 51) rfl))) (Or.inl (hw _ (List.mem_of_getElem? (i := 53) rfl))) (by decide) (t := .boolean) (t' := .boolean) (by decide) (by decide))))
  exact own_retV X16 hx hret hlk (hb hby d8_33) (by decide) (by decide) (by rw [e16]; exact ⟨rfl, N16, K16, f17, f18, f19, f20, f21, f22, Fw16⟩)

set_option maxRecDepth 65536 in
set_option maxHeartbeats 40000000 in
theorem rm0 (l : Launch) (Z : State) (a0 : Array Value) (hw : ∀ d ∈ tables_1, d.before a0 Z = true) (hS : ∀ d ∈ jdkStatics_1, d.before a0 Z = true) (ws : List Jvm.Cond) (p0 : Int32) (p1 : Int32) (p2 : Int32) (p3 : Int32) (h0 : Heap) (n0 : Nat) (O0 : Old Z n0 h0) :
    own_Met l Z x (Jvm.Cond.code x code maxLocals ret) ws room_1 #[(.int p0), (.int p1), (.int p2), (.int p3)] h0 (fun v h L => v = some (.int (1 : Int32)) ∧ Fr n0 L) := by
  refine own_met (own := "com/example/fieldnote/fieldnote/text/EntrySetPinLaw") (plainFor_of_name pn14) rfl ?_
  intro p e s m below meth c s₁ hx hby hml hown hnm hret hlk hZ e0 X0
  refine own_cast (g' := (mkF m 0 #[.val (.int p0), .val (.int p1), .val (.int p2), .val (.int p3), .unset, .unset, .unset, .unset, .unset, .unset, .unset, .unset, .unset] [])) (by first | (simp [entryFrame, mkF, argsToLocals, Value.category, maxLocals]; done) | rfl) ?_
  show own_Wp p e below _ s₁ (mkF m 0 #[.val (.int p0), .val (.int p1), .val (.int p2), .val (.int p3), .unset, .unset, .unset, .unset, .unset, .unset, .unset, .unset, .unset] [])
  refine own_step (fun _ k => XS.iloadN X0.here hx rfl (hb hby at_0) rfl k) ?_
  show own_Wp p e below _ s₁ (mkF m 1 #[.val (.int p0), .val (.int p1), .val (.int p2), .val (.int p3), .unset, .unset, .unset, .unset, .unset, .unset, .unset, .unset, .unset] [(.int p2)])
  refine own_step (fun _ k => XS.iconst X0.here hx rfl (hb hby at_1) k) ?_
  show own_Wp p e below _ s₁ (mkF m 2 #[.val (.int p0), .val (.int p1), .val (.int p2), .val (.int p3), .unset, .unset, .unset, .unset, .unset, .unset, .unset, .unset, .unset] [(.int (1 : Int32)), (.int p2)])
  refine own_step (fun _ k => XS.iand X0.here hx rfl (hb hby at_2) rfl k) ?_
  show own_Wp p e below _ s₁ (mkF m 3 #[.val (.int p0), .val (.int p1), .val (.int p2), .val (.int p3), .unset, .unset, .unset, .unset, .unset, .unset, .unset, .unset, .unset] [(.int (p2 &&& (1 : Int32)))])
  obtain ⟨c1, hc1, st1⟩ : ∃ c : Int32, (c = (0 : Int32) ∨ c = (1 : Int32)) ∧ ∀ F, own_Wp p e below F s₁ (mkF m 11 #[.val (.int p0), .val (.int p1), .val (.int p2), .val (.int p3), .unset, .unset, .unset, .unset, .unset, .unset, .unset, .unset, .unset] [(.int c)]) → own_Wp p e below F s₁ (mkF m 3 #[.val (.int p0), .val (.int p1), .val (.int p2), .val (.int p3), .unset, .unset, .unset, .unset, .unset, .unset, .unset, .unset, .unset] [(.int (p2 &&& (1 : Int32)))]) := by
    by_cases hq1 : (p2 &&& (1 : Int32)) = (0 : Int32)
    · refine ⟨(0 : Int32), Or.inl rfl, fun F k => ?_⟩
      refine own_step (fun _ k => XS.ifYes X0.here hx rfl (pc0 := 3) (pc' := 10) rfl (hb hby at_3) rfl ((if0 _ _).trans (teq hq1).1) (by decide) (by decide) k) ?_
      show own_Wp p e below _ s₁ (mkF m 10 #[.val (.int p0), .val (.int p1), .val (.int p2), .val (.int p3), .unset, .unset, .unset, .unset, .unset, .unset, .unset, .unset, .unset] [])
      refine own_step (fun _ k => XS.iconst X0.here hx rfl (hb hby at_10) k) ?_
      show own_Wp p e below _ s₁ (mkF m 11 #[.val (.int p0), .val (.int p1), .val (.int p2), .val (.int p3), .unset, .unset, .unset, .unset, .unset, .unset, .unset, .unset, .unset] [(.int (0 : Int32))])
      exact k
    · refine ⟨(1 : Int32), Or.inr rfl, fun F k => ?_⟩
      refine own_step (fun _ k => XS.ifNo X0.here hx rfl (hb hby at_3) rfl ((if0 _ _).trans (feq hq1).1) k) ?_
      show own_Wp p e below _ s₁ (mkF m 6 #[.val (.int p0), .val (.int p1), .val (.int p2), .val (.int p3), .unset, .unset, .unset, .unset, .unset, .unset, .unset, .unset, .unset] [])
      refine own_step (fun _ k => XS.iconst X0.here hx rfl (hb hby at_6) k) ?_
      show own_Wp p e below _ s₁ (mkF m 7 #[.val (.int p0), .val (.int p1), .val (.int p2), .val (.int p3), .unset, .unset, .unset, .unset, .unset, .unset, .unset, .unset, .unset] [(.int (1 : Int32))])
      refine own_step (fun _ k => XS.goto X0.here hx rfl (pc0 := 7) (pc' := 11) rfl (hb hby at_7) (by decide) (by decide) k) ?_
      show own_Wp p e below _ s₁ (mkF m 11 #[.val (.int p0), .val (.int p1), .val (.int p2), .val (.int p3), .unset, .unset, .unset, .unset, .unset, .unset, .unset, .unset, .unset] [(.int (1 : Int32))])
      exact k
  refine st1 _ ?_
  show own_Wp p e below _ s₁ (mkF m 11 #[.val (.int p0), .val (.int p1), .val (.int p2), .val (.int p3), .unset, .unset, .unset, .unset, .unset, .unset, .unset, .unset, .unset] [(.int c1)])
  refine own_step (fun _ k => XS.istore X0.here hx rfl (hb hby at_11) rfl (l' := #[.val (.int p0), .val (.int p1), .val (.int p2), .val (.int p3), .val (.int c1), .unset, .unset, .unset, .unset, .unset, .unset, .unset, .unset]) rfl k) ?_
  show own_Wp p e below _ s₁ (mkF m 13 #[.val (.int p0), .val (.int p1), .val (.int p2), .val (.int p3), .val (.int c1), .unset, .unset, .unset, .unset, .unset, .unset, .unset, .unset] [])
  refine own_step (fun _ k => XS.iloadN X0.here hx rfl (hb hby at_13) rfl k) ?_
  show own_Wp p e below _ s₁ (mkF m 14 #[.val (.int p0), .val (.int p1), .val (.int p2), .val (.int p3), .val (.int c1), .unset, .unset, .unset, .unset, .unset, .unset, .unset, .unset] [(.int p2)])
  refine own_step (fun _ k => XS.iconst X0.here hx rfl (hb hby at_14) k) ?_
  show own_Wp p e below _ s₁ (mkF m 15 #[.val (.int p0), .val (.int p1), .val (.int p2), .val (.int p3), .val (.int c1), .unset, .unset, .unset, .unset, .unset, .unset, .unset, .unset] [(.int (2 : Int32)), (.int p2)])
  refine own_step (fun _ k => XS.iand X0.here hx rfl (hb hby at_15) rfl k) ?_
  show own_Wp p e below _ s₁ (mkF m 16 #[.val (.int p0), .val (.int p1), .val (.int p2), .val (.int p3), .val (.int c1), .unset, .unset, .unset, .unset, .unset, .unset, .unset, .unset] [(.int (p2 &&& (2 : Int32)))])
  obtain ⟨c2, hc2, st2⟩ : ∃ c : Int32, (c = (0 : Int32) ∨ c = (1 : Int32)) ∧ ∀ F, own_Wp p e below F s₁ (mkF m 24 #[.val (.int p0), .val (.int p1), .val (.int p2), .val (.int p3), .val (.int c1), .unset, .unset, .unset, .unset, .unset, .unset, .unset, .unset] [(.int c)]) → own_Wp p e below F s₁ (mkF m 16 #[.val (.int p0), .val (.int p1), .val (.int p2), .val (.int p3), .val (.int c1), .unset, .unset, .unset, .unset, .unset, .unset, .unset, .unset] [(.int (p2 &&& (2 : Int32)))]) := by
    by_cases hq2 : (p2 &&& (2 : Int32)) = (0 : Int32)
    · refine ⟨(0 : Int32), Or.inl rfl, fun F k => ?_⟩
      refine own_step (fun _ k => XS.ifYes X0.here hx rfl (pc0 := 16) (pc' := 23) rfl (hb hby at_16) rfl ((if0 _ _).trans (teq hq2).1) (by decide) (by decide) k) ?_
      show own_Wp p e below _ s₁ (mkF m 23 #[.val (.int p0), .val (.int p1), .val (.int p2), .val (.int p3), .val (.int c1), .unset, .unset, .unset, .unset, .unset, .unset, .unset, .unset] [])
      refine own_step (fun _ k => XS.iconst X0.here hx rfl (hb hby at_23) k) ?_
      show own_Wp p e below _ s₁ (mkF m 24 #[.val (.int p0), .val (.int p1), .val (.int p2), .val (.int p3), .val (.int c1), .unset, .unset, .unset, .unset, .unset, .unset, .unset, .unset] [(.int (0 : Int32))])
      exact k
    · refine ⟨(1 : Int32), Or.inr rfl, fun F k => ?_⟩
      refine own_step (fun _ k => XS.ifNo X0.here hx rfl (hb hby at_16) rfl ((if0 _ _).trans (feq hq2).1) k) ?_
      show own_Wp p e below _ s₁ (mkF m 19 #[.val (.int p0), .val (.int p1), .val (.int p2), .val (.int p3), .val (.int c1), .unset, .unset, .unset, .unset, .unset, .unset, .unset, .unset] [])
      refine own_step (fun _ k => XS.iconst X0.here hx rfl (hb hby at_19) k) ?_
      show own_Wp p e below _ s₁ (mkF m 20 #[.val (.int p0), .val (.int p1), .val (.int p2), .val (.int p3), .val (.int c1), .unset, .unset, .unset, .unset, .unset, .unset, .unset, .unset] [(.int (1 : Int32))])
      refine own_step (fun _ k => XS.goto X0.here hx rfl (pc0 := 20) (pc' := 24) rfl (hb hby at_20) (by decide) (by decide) k) ?_
      show own_Wp p e below _ s₁ (mkF m 24 #[.val (.int p0), .val (.int p1), .val (.int p2), .val (.int p3), .val (.int c1), .unset, .unset, .unset, .unset, .unset, .unset, .unset, .unset] [(.int (1 : Int32))])
      exact k
  refine st2 _ ?_
  show own_Wp p e below _ s₁ (mkF m 24 #[.val (.int p0), .val (.int p1), .val (.int p2), .val (.int p3), .val (.int c1), .unset, .unset, .unset, .unset, .unset, .unset, .unset, .unset] [(.int c2)])
  refine own_step (fun _ k => XS.istore X0.here hx rfl (hb hby at_24) rfl (l' := #[.val (.int p0), .val (.int p1), .val (.int p2), .val (.int p3), .val (.int c1), .val (.int c2), .unset, .unset, .unset, .unset, .unset, .unset, .unset]) rfl k) ?_
  show own_Wp p e below _ s₁ (mkF m 26 #[.val (.int p0), .val (.int p1), .val (.int p2), .val (.int p3), .val (.int c1), .val (.int c2), .unset, .unset, .unset, .unset, .unset, .unset, .unset] [])
  refine own_step (fun _ k => XS.iloadN X0.here hx rfl (hb hby at_26) rfl k) ?_
  show own_Wp p e below _ s₁ (mkF m 27 #[.val (.int p0), .val (.int p1), .val (.int p2), .val (.int p3), .val (.int c1), .val (.int c2), .unset, .unset, .unset, .unset, .unset, .unset, .unset] [(.int p2)])
  refine own_step (fun _ k => XS.iconst X0.here hx rfl (hb hby at_27) k) ?_
  show own_Wp p e below _ s₁ (mkF m 28 #[.val (.int p0), .val (.int p1), .val (.int p2), .val (.int p3), .val (.int c1), .val (.int c2), .unset, .unset, .unset, .unset, .unset, .unset, .unset] [(.int (4 : Int32)), (.int p2)])
  refine own_step (fun _ k => XS.iand X0.here hx rfl (hb hby at_28) rfl k) ?_
  show own_Wp p e below _ s₁ (mkF m 29 #[.val (.int p0), .val (.int p1), .val (.int p2), .val (.int p3), .val (.int c1), .val (.int c2), .unset, .unset, .unset, .unset, .unset, .unset, .unset] [(.int (p2 &&& (4 : Int32)))])
  obtain ⟨c3, hc3, st3⟩ : ∃ c : Int32, (c = (0 : Int32) ∨ c = (1 : Int32)) ∧ ∀ F, own_Wp p e below F s₁ (mkF m 37 #[.val (.int p0), .val (.int p1), .val (.int p2), .val (.int p3), .val (.int c1), .val (.int c2), .unset, .unset, .unset, .unset, .unset, .unset, .unset] [(.int c)]) → own_Wp p e below F s₁ (mkF m 29 #[.val (.int p0), .val (.int p1), .val (.int p2), .val (.int p3), .val (.int c1), .val (.int c2), .unset, .unset, .unset, .unset, .unset, .unset, .unset] [(.int (p2 &&& (4 : Int32)))]) := by
    by_cases hq3 : (p2 &&& (4 : Int32)) = (0 : Int32)
    · refine ⟨(0 : Int32), Or.inl rfl, fun F k => ?_⟩
      refine own_step (fun _ k => XS.ifYes X0.here hx rfl (pc0 := 29) (pc' := 36) rfl (hb hby at_29) rfl ((if0 _ _).trans (teq hq3).1) (by decide) (by decide) k) ?_
      show own_Wp p e below _ s₁ (mkF m 36 #[.val (.int p0), .val (.int p1), .val (.int p2), .val (.int p3), .val (.int c1), .val (.int c2), .unset, .unset, .unset, .unset, .unset, .unset, .unset] [])
      refine own_step (fun _ k => XS.iconst X0.here hx rfl (hb hby at_36) k) ?_
      show own_Wp p e below _ s₁ (mkF m 37 #[.val (.int p0), .val (.int p1), .val (.int p2), .val (.int p3), .val (.int c1), .val (.int c2), .unset, .unset, .unset, .unset, .unset, .unset, .unset] [(.int (0 : Int32))])
      exact k
    · refine ⟨(1 : Int32), Or.inr rfl, fun F k => ?_⟩
      refine own_step (fun _ k => XS.ifNo X0.here hx rfl (hb hby at_29) rfl ((if0 _ _).trans (feq hq3).1) k) ?_
      show own_Wp p e below _ s₁ (mkF m 32 #[.val (.int p0), .val (.int p1), .val (.int p2), .val (.int p3), .val (.int c1), .val (.int c2), .unset, .unset, .unset, .unset, .unset, .unset, .unset] [])
      refine own_step (fun _ k => XS.iconst X0.here hx rfl (hb hby at_32) k) ?_
      show own_Wp p e below _ s₁ (mkF m 33 #[.val (.int p0), .val (.int p1), .val (.int p2), .val (.int p3), .val (.int c1), .val (.int c2), .unset, .unset, .unset, .unset, .unset, .unset, .unset] [(.int (1 : Int32))])
      refine own_step (fun _ k => XS.goto X0.here hx rfl (pc0 := 33) (pc' := 37) rfl (hb hby at_33) (by decide) (by decide) k) ?_
      show own_Wp p e below _ s₁ (mkF m 37 #[.val (.int p0), .val (.int p1), .val (.int p2), .val (.int p3), .val (.int c1), .val (.int c2), .unset, .unset, .unset, .unset, .unset, .unset, .unset] [(.int (1 : Int32))])
      exact k
  refine st3 _ ?_
  show own_Wp p e below _ s₁ (mkF m 37 #[.val (.int p0), .val (.int p1), .val (.int p2), .val (.int p3), .val (.int c1), .val (.int c2), .unset, .unset, .unset, .unset, .unset, .unset, .unset] [(.int c3)])
  refine own_step (fun _ k => XS.istore X0.here hx rfl (hb hby at_37) rfl (l' := #[.val (.int p0), .val (.int p1), .val (.int p2), .val (.int p3), .val (.int c1), .val (.int c2), .val (.int c3), .unset, .unset, .unset, .unset, .unset, .unset]) rfl k) ?_
  show own_Wp p e below _ s₁ (mkF m 39 #[.val (.int p0), .val (.int p1), .val (.int p2), .val (.int p3), .val (.int c1), .val (.int c2), .val (.int c3), .unset, .unset, .unset, .unset, .unset, .unset] [])
  refine own_step (fun _ k => XS.iloadN X0.here hx rfl (hb hby at_39) rfl k) ?_
  show own_Wp p e below _ s₁ (mkF m 40 #[.val (.int p0), .val (.int p1), .val (.int p2), .val (.int p3), .val (.int c1), .val (.int c2), .val (.int c3), .unset, .unset, .unset, .unset, .unset, .unset] [(.int p2)])
  refine own_step (fun _ k => XS.bipush X0.here hx rfl (hb hby at_40) k) ?_
  show own_Wp p e below _ s₁ (mkF m 42 #[.val (.int p0), .val (.int p1), .val (.int p2), .val (.int p3), .val (.int c1), .val (.int c2), .val (.int c3), .unset, .unset, .unset, .unset, .unset, .unset] [(.int (8 : Int32)), (.int p2)])
  refine own_step (fun _ k => XS.iand X0.here hx rfl (hb hby at_42) rfl k) ?_
  show own_Wp p e below _ s₁ (mkF m 43 #[.val (.int p0), .val (.int p1), .val (.int p2), .val (.int p3), .val (.int c1), .val (.int c2), .val (.int c3), .unset, .unset, .unset, .unset, .unset, .unset] [(.int (p2 &&& (8 : Int32)))])
  obtain ⟨c4, hc4, st4⟩ : ∃ c : Int32, (c = (0 : Int32) ∨ c = (1 : Int32)) ∧ ∀ F, own_Wp p e below F s₁ (mkF m 51 #[.val (.int p0), .val (.int p1), .val (.int p2), .val (.int p3), .val (.int c1), .val (.int c2), .val (.int c3), .unset, .unset, .unset, .unset, .unset, .unset] [(.int c)]) → own_Wp p e below F s₁ (mkF m 43 #[.val (.int p0), .val (.int p1), .val (.int p2), .val (.int p3), .val (.int c1), .val (.int c2), .val (.int c3), .unset, .unset, .unset, .unset, .unset, .unset] [(.int (p2 &&& (8 : Int32)))]) := by
    by_cases hq4 : (p2 &&& (8 : Int32)) = (0 : Int32)
    · refine ⟨(0 : Int32), Or.inl rfl, fun F k => ?_⟩
      refine own_step (fun _ k => XS.ifYes X0.here hx rfl (pc0 := 43) (pc' := 50) rfl (hb hby at_43) rfl ((if0 _ _).trans (teq hq4).1) (by decide) (by decide) k) ?_
      show own_Wp p e below _ s₁ (mkF m 50 #[.val (.int p0), .val (.int p1), .val (.int p2), .val (.int p3), .val (.int c1), .val (.int c2), .val (.int c3), .unset, .unset, .unset, .unset, .unset, .unset] [])
      refine own_step (fun _ k => XS.iconst X0.here hx rfl (hb hby at_50) k) ?_
      show own_Wp p e below _ s₁ (mkF m 51 #[.val (.int p0), .val (.int p1), .val (.int p2), .val (.int p3), .val (.int c1), .val (.int c2), .val (.int c3), .unset, .unset, .unset, .unset, .unset, .unset] [(.int (0 : Int32))])
      exact k
    · refine ⟨(1 : Int32), Or.inr rfl, fun F k => ?_⟩
      refine own_step (fun _ k => XS.ifNo X0.here hx rfl (hb hby at_43) rfl ((if0 _ _).trans (feq hq4).1) k) ?_
      show own_Wp p e below _ s₁ (mkF m 46 #[.val (.int p0), .val (.int p1), .val (.int p2), .val (.int p3), .val (.int c1), .val (.int c2), .val (.int c3), .unset, .unset, .unset, .unset, .unset, .unset] [])
      refine own_step (fun _ k => XS.iconst X0.here hx rfl (hb hby at_46) k) ?_
      show own_Wp p e below _ s₁ (mkF m 47 #[.val (.int p0), .val (.int p1), .val (.int p2), .val (.int p3), .val (.int c1), .val (.int c2), .val (.int c3), .unset, .unset, .unset, .unset, .unset, .unset] [(.int (1 : Int32))])
      refine own_step (fun _ k => XS.goto X0.here hx rfl (pc0 := 47) (pc' := 51) rfl (hb hby at_47) (by decide) (by decide) k) ?_
      show own_Wp p e below _ s₁ (mkF m 51 #[.val (.int p0), .val (.int p1), .val (.int p2), .val (.int p3), .val (.int c1), .val (.int c2), .val (.int c3), .unset, .unset, .unset, .unset, .unset, .unset] [(.int (1 : Int32))])
      exact k
  refine st4 _ ?_
  show own_Wp p e below _ s₁ (mkF m 51 #[.val (.int p0), .val (.int p1), .val (.int p2), .val (.int p3), .val (.int c1), .val (.int c2), .val (.int c3), .unset, .unset, .unset, .unset, .unset, .unset] [(.int c4)])
  refine own_step (fun _ k => XS.istore X0.here hx rfl (hb hby at_51) rfl (l' := #[.val (.int p0), .val (.int p1), .val (.int p2), .val (.int p3), .val (.int c1), .val (.int c2), .val (.int c3), .val (.int c4), .unset, .unset, .unset, .unset, .unset]) rfl k) ?_
  show own_Wp p e below _ s₁ (mkF m 53 #[.val (.int p0), .val (.int p1), .val (.int p2), .val (.int p3), .val (.int c1), .val (.int c2), .val (.int c3), .val (.int c4), .unset, .unset, .unset, .unset, .unset] [])
  refine own_step (fun _ k => XS.iloadN X0.here hx rfl (hb hby at_53) rfl k) ?_
  show own_Wp p e below _ s₁ (mkF m 54 #[.val (.int p0), .val (.int p1), .val (.int p2), .val (.int p3), .val (.int c1), .val (.int c2), .val (.int c3), .val (.int c4), .unset, .unset, .unset, .unset, .unset] [(.int p2)])
  refine own_step (fun _ k => XS.bipush X0.here hx rfl (hb hby at_54) k) ?_
  show own_Wp p e below _ s₁ (mkF m 56 #[.val (.int p0), .val (.int p1), .val (.int p2), .val (.int p3), .val (.int c1), .val (.int c2), .val (.int c3), .val (.int c4), .unset, .unset, .unset, .unset, .unset] [(.int (16 : Int32)), (.int p2)])
  refine own_step (fun _ k => XS.iand X0.here hx rfl (hb hby at_56) rfl k) ?_
  show own_Wp p e below _ s₁ (mkF m 57 #[.val (.int p0), .val (.int p1), .val (.int p2), .val (.int p3), .val (.int c1), .val (.int c2), .val (.int c3), .val (.int c4), .unset, .unset, .unset, .unset, .unset] [(.int (p2 &&& (16 : Int32)))])
  obtain ⟨c5, hc5, st5⟩ : ∃ c : Int32, (c = (0 : Int32) ∨ c = (1 : Int32)) ∧ ∀ F, own_Wp p e below F s₁ (mkF m 65 #[.val (.int p0), .val (.int p1), .val (.int p2), .val (.int p3), .val (.int c1), .val (.int c2), .val (.int c3), .val (.int c4), .unset, .unset, .unset, .unset, .unset] [(.int c)]) → own_Wp p e below F s₁ (mkF m 57 #[.val (.int p0), .val (.int p1), .val (.int p2), .val (.int p3), .val (.int c1), .val (.int c2), .val (.int c3), .val (.int c4), .unset, .unset, .unset, .unset, .unset] [(.int (p2 &&& (16 : Int32)))]) := by
    by_cases hq5 : (p2 &&& (16 : Int32)) = (0 : Int32)
    · refine ⟨(0 : Int32), Or.inl rfl, fun F k => ?_⟩
      refine own_step (fun _ k => XS.ifYes X0.here hx rfl (pc0 := 57) (pc' := 64) rfl (hb hby at_57) rfl ((if0 _ _).trans (teq hq5).1) (by decide) (by decide) k) ?_
      show own_Wp p e below _ s₁ (mkF m 64 #[.val (.int p0), .val (.int p1), .val (.int p2), .val (.int p3), .val (.int c1), .val (.int c2), .val (.int c3), .val (.int c4), .unset, .unset, .unset, .unset, .unset] [])
      refine own_step (fun _ k => XS.iconst X0.here hx rfl (hb hby at_64) k) ?_
      show own_Wp p e below _ s₁ (mkF m 65 #[.val (.int p0), .val (.int p1), .val (.int p2), .val (.int p3), .val (.int c1), .val (.int c2), .val (.int c3), .val (.int c4), .unset, .unset, .unset, .unset, .unset] [(.int (0 : Int32))])
      exact k
    · refine ⟨(1 : Int32), Or.inr rfl, fun F k => ?_⟩
      refine own_step (fun _ k => XS.ifNo X0.here hx rfl (hb hby at_57) rfl ((if0 _ _).trans (feq hq5).1) k) ?_
      show own_Wp p e below _ s₁ (mkF m 60 #[.val (.int p0), .val (.int p1), .val (.int p2), .val (.int p3), .val (.int c1), .val (.int c2), .val (.int c3), .val (.int c4), .unset, .unset, .unset, .unset, .unset] [])
      refine own_step (fun _ k => XS.iconst X0.here hx rfl (hb hby at_60) k) ?_
      show own_Wp p e below _ s₁ (mkF m 61 #[.val (.int p0), .val (.int p1), .val (.int p2), .val (.int p3), .val (.int c1), .val (.int c2), .val (.int c3), .val (.int c4), .unset, .unset, .unset, .unset, .unset] [(.int (1 : Int32))])
      refine own_step (fun _ k => XS.goto X0.here hx rfl (pc0 := 61) (pc' := 65) rfl (hb hby at_61) (by decide) (by decide) k) ?_
      show own_Wp p e below _ s₁ (mkF m 65 #[.val (.int p0), .val (.int p1), .val (.int p2), .val (.int p3), .val (.int c1), .val (.int c2), .val (.int c3), .val (.int c4), .unset, .unset, .unset, .unset, .unset] [(.int (1 : Int32))])
      exact k
  refine st5 _ ?_
  show own_Wp p e below _ s₁ (mkF m 65 #[.val (.int p0), .val (.int p1), .val (.int p2), .val (.int p3), .val (.int c1), .val (.int c2), .val (.int c3), .val (.int c4), .unset, .unset, .unset, .unset, .unset] [(.int c5)])
  refine own_step (fun _ k => XS.istore X0.here hx rfl (hb hby at_65) rfl (l' := #[.val (.int p0), .val (.int p1), .val (.int p2), .val (.int p3), .val (.int c1), .val (.int c2), .val (.int c3), .val (.int c4), .val (.int c5), .unset, .unset, .unset, .unset]) rfl k) ?_
  show own_Wp p e below _ s₁ (mkF m 67 #[.val (.int p0), .val (.int p1), .val (.int p2), .val (.int p3), .val (.int c1), .val (.int c2), .val (.int c3), .val (.int c4), .val (.int c5), .unset, .unset, .unset, .unset] [])
  refine own_step (fun _ k => XS.iloadN X0.here hx rfl (hb hby at_67) rfl k) ?_
  show own_Wp p e below _ s₁ (mkF m 68 #[.val (.int p0), .val (.int p1), .val (.int p2), .val (.int p3), .val (.int c1), .val (.int c2), .val (.int c3), .val (.int c4), .val (.int c5), .unset, .unset, .unset, .unset] [(.int p2)])
  refine own_step (fun _ k => XS.bipush X0.here hx rfl (hb hby at_68) k) ?_
  show own_Wp p e below _ s₁ (mkF m 70 #[.val (.int p0), .val (.int p1), .val (.int p2), .val (.int p3), .val (.int c1), .val (.int c2), .val (.int c3), .val (.int c4), .val (.int c5), .unset, .unset, .unset, .unset] [(.int (32 : Int32)), (.int p2)])
  refine own_step (fun _ k => XS.iand X0.here hx rfl (hb hby at_70) rfl k) ?_
  show own_Wp p e below _ s₁ (mkF m 71 #[.val (.int p0), .val (.int p1), .val (.int p2), .val (.int p3), .val (.int c1), .val (.int c2), .val (.int c3), .val (.int c4), .val (.int c5), .unset, .unset, .unset, .unset] [(.int (p2 &&& (32 : Int32)))])
  obtain ⟨c6, hc6, st6⟩ : ∃ c : Int32, (c = (0 : Int32) ∨ c = (1 : Int32)) ∧ ∀ F, own_Wp p e below F s₁ (mkF m 79 #[.val (.int p0), .val (.int p1), .val (.int p2), .val (.int p3), .val (.int c1), .val (.int c2), .val (.int c3), .val (.int c4), .val (.int c5), .unset, .unset, .unset, .unset] [(.int c)]) → own_Wp p e below F s₁ (mkF m 71 #[.val (.int p0), .val (.int p1), .val (.int p2), .val (.int p3), .val (.int c1), .val (.int c2), .val (.int c3), .val (.int c4), .val (.int c5), .unset, .unset, .unset, .unset] [(.int (p2 &&& (32 : Int32)))]) := by
    by_cases hq6 : (p2 &&& (32 : Int32)) = (0 : Int32)
    · refine ⟨(0 : Int32), Or.inl rfl, fun F k => ?_⟩
      refine own_step (fun _ k => XS.ifYes X0.here hx rfl (pc0 := 71) (pc' := 78) rfl (hb hby at_71) rfl ((if0 _ _).trans (teq hq6).1) (by decide) (by decide) k) ?_
      show own_Wp p e below _ s₁ (mkF m 78 #[.val (.int p0), .val (.int p1), .val (.int p2), .val (.int p3), .val (.int c1), .val (.int c2), .val (.int c3), .val (.int c4), .val (.int c5), .unset, .unset, .unset, .unset] [])
      refine own_step (fun _ k => XS.iconst X0.here hx rfl (hb hby at_78) k) ?_
      show own_Wp p e below _ s₁ (mkF m 79 #[.val (.int p0), .val (.int p1), .val (.int p2), .val (.int p3), .val (.int c1), .val (.int c2), .val (.int c3), .val (.int c4), .val (.int c5), .unset, .unset, .unset, .unset] [(.int (0 : Int32))])
      exact k
    · refine ⟨(1 : Int32), Or.inr rfl, fun F k => ?_⟩
      refine own_step (fun _ k => XS.ifNo X0.here hx rfl (hb hby at_71) rfl ((if0 _ _).trans (feq hq6).1) k) ?_
      show own_Wp p e below _ s₁ (mkF m 74 #[.val (.int p0), .val (.int p1), .val (.int p2), .val (.int p3), .val (.int c1), .val (.int c2), .val (.int c3), .val (.int c4), .val (.int c5), .unset, .unset, .unset, .unset] [])
      refine own_step (fun _ k => XS.iconst X0.here hx rfl (hb hby at_74) k) ?_
      show own_Wp p e below _ s₁ (mkF m 75 #[.val (.int p0), .val (.int p1), .val (.int p2), .val (.int p3), .val (.int c1), .val (.int c2), .val (.int c3), .val (.int c4), .val (.int c5), .unset, .unset, .unset, .unset] [(.int (1 : Int32))])
      refine own_step (fun _ k => XS.goto X0.here hx rfl (pc0 := 75) (pc' := 79) rfl (hb hby at_75) (by decide) (by decide) k) ?_
      show own_Wp p e below _ s₁ (mkF m 79 #[.val (.int p0), .val (.int p1), .val (.int p2), .val (.int p3), .val (.int c1), .val (.int c2), .val (.int c3), .val (.int c4), .val (.int c5), .unset, .unset, .unset, .unset] [(.int (1 : Int32))])
      exact k
  refine st6 _ ?_
  show own_Wp p e below _ s₁ (mkF m 79 #[.val (.int p0), .val (.int p1), .val (.int p2), .val (.int p3), .val (.int c1), .val (.int c2), .val (.int c3), .val (.int c4), .val (.int c5), .unset, .unset, .unset, .unset] [(.int c6)])
  refine own_step (fun _ k => XS.istore X0.here hx rfl (hb hby at_79) rfl (l' := #[.val (.int p0), .val (.int p1), .val (.int p2), .val (.int p3), .val (.int c1), .val (.int c2), .val (.int c3), .val (.int c4), .val (.int c5), .val (.int c6), .unset, .unset, .unset]) rfl k) ?_
  show own_Wp p e below _ s₁ (mkF m 81 #[.val (.int p0), .val (.int p1), .val (.int p2), .val (.int p3), .val (.int c1), .val (.int c2), .val (.int c3), .val (.int c4), .val (.int c5), .val (.int c6), .unset, .unset, .unset] [])
  refine own_step (fun _ k => XS.iloadN X0.here hx rfl (hb hby at_81) rfl k) ?_
  show own_Wp p e below _ s₁ (mkF m 82 #[.val (.int p0), .val (.int p1), .val (.int p2), .val (.int p3), .val (.int c1), .val (.int c2), .val (.int c3), .val (.int c4), .val (.int c5), .val (.int c6), .unset, .unset, .unset] [(.int p2)])
  refine own_step (fun _ k => XS.bipush X0.here hx rfl (hb hby at_82) k) ?_
  show own_Wp p e below _ s₁ (mkF m 84 #[.val (.int p0), .val (.int p1), .val (.int p2), .val (.int p3), .val (.int c1), .val (.int c2), .val (.int c3), .val (.int c4), .val (.int c5), .val (.int c6), .unset, .unset, .unset] [(.int (64 : Int32)), (.int p2)])
  refine own_step (fun _ k => XS.iand X0.here hx rfl (hb hby at_84) rfl k) ?_
  show own_Wp p e below _ s₁ (mkF m 85 #[.val (.int p0), .val (.int p1), .val (.int p2), .val (.int p3), .val (.int c1), .val (.int c2), .val (.int c3), .val (.int c4), .val (.int c5), .val (.int c6), .unset, .unset, .unset] [(.int (p2 &&& (64 : Int32)))])
  by_cases hc7 : (p2 &&& (64 : Int32)) = (0 : Int32)
  · skip
    refine own_step (fun _ k => XS.ifYes X0.here hx rfl (pc0 := 85) (pc' := 92) rfl (hb hby at_85) rfl ((if0 _ _).trans (teq hc7).1) (by decide) (by decide) k) ?_
    show own_Wp p e below _ s₁ (mkF m 92 #[.val (.int p0), .val (.int p1), .val (.int p2), .val (.int p3), .val (.int c1), .val (.int c2), .val (.int c3), .val (.int c4), .val (.int c5), .val (.int c6), .unset, .unset, .unset] [])
    obtain ⟨T8, h8, X8, e8, E8, A8, D8, -, st8⟩ := newO X0 hx hZ hown (hw _ (List.mem_of_getElem? (i := 0) rfl)) (hw _ (List.mem_of_getElem? (i := 1) rfl)) (hw _ (List.mem_of_getElem? (i := 2) rfl)) e0 (g := (mkF m 92 #[.val (.int p0), .val (.int p1), .val (.int p2), .val (.int p3), .val (.int c1), .val (.int c2), .val (.int c3), .val (.int c4), .val (.int c5), .val (.int c6), .unset, .unset, .unset] [])) rfl (hb hby at_92) (by decide) (by decide)
    obtain ⟨b8, z8⟩ : ∃ z, z = h0.size := ⟨_, rfl⟩
    rw [← z8] at A8 D8 st8
    refine own_step st8 ?_
    have g8 : n0 ≤ b8 := Nat.le_trans (O0.1 ▸ O0.2.1) (Nat.le_of_eq z8.symm)
    have y8 : h0.size ≤ b8 := Nat.le_trans (Nat.le_refl _) (Nat.le_of_eq z8.symm)
    have O8 := O0.ext E8
    have K8 : Keep h0 h8 [] := (Keep.refl h0 []).ext E8
    have F8_27 : Fld Z h8 b8 "java/lang/String" "coder" "B" (.int (0 : Int32)) := D8 (Or.inr (hw _ (List.mem_of_getElem? (i := 27) rfl))) (ty := .byte) (by decide)
    have F8_29 : Fld Z h8 b8 "java/lang/String" "value" "[B" .null := D8 (Or.inr (hw _ (List.mem_of_getElem? (i := 29) rfl))) (ty := (.array .byte)) (by decide)
    show own_Wp p e below _ T8 (mkF m 95 #[.val (.int p0), .val (.int p1), .val (.int p2), .val (.int p3), .val (.int c1), .val (.int c2), .val (.int c3), .val (.int c4), .val (.int c5), .val (.int c6), .unset, .unset, .unset] [(.ref b8)])
    refine own_step (fun _ k => XS.dup X8.here hx rfl (hb hby at_95) rfl rfl k) ?_
    show own_Wp p e below _ T8 (mkF m 96 #[.val (.int p0), .val (.int p1), .val (.int p2), .val (.int p3), .val (.int c1), .val (.int c2), .val (.int c3), .val (.int c4), .val (.int c5), .val (.int c6), .unset, .unset, .unset] [(.ref b8), (.ref b8)])
    refine own_step (fun _ k => XS.iconst X8.here hx rfl (hb hby at_96) k) ?_
    show own_Wp p e below _ T8 (mkF m 97 #[.val (.int p0), .val (.int p1), .val (.int p2), .val (.int p3), .val (.int c1), .val (.int c2), .val (.int c3), .val (.int c4), .val (.int c5), .val (.int c6), .unset, .unset, .unset] [(.int (2 : Int32)), (.ref b8), (.ref b8)])
    obtain ⟨T9, h9, k9, X9, e9, E9, A9, st9⟩ := newP X8 hx hZ (hw _ (List.mem_of_getElem? (i := 3) rfl)) e8 (g := (mkF m 97 #[.val (.int p0), .val (.int p1), .val (.int p2), .val (.int p3), .val (.int c1), .val (.int c2), .val (.int c3), .val (.int c4), .val (.int c5), .val (.int c6), .unset, .unset, .unset] [(.int (2 : Int32)), (.ref b8), (.ref b8)])) rfl (hb hby at_97) rfl (by decide) (cap := 2) (by decide) (by decide) (by decide) (by decide)
    obtain ⟨b9, z9⟩ : ∃ z, z = h8.size := ⟨_, rfl⟩
    rw [← z9] at A9 st9
    refine own_step st9 ?_
    have g9 : n0 ≤ b9 := Nat.le_trans (O8.1 ▸ O8.2.1) (Nat.le_of_eq z9.symm)
    have ne9_0 : b8 ≠ b9 := Nat.ne_of_lt (Nat.lt_of_lt_of_le A8.lt (Nat.le_of_eq z9.symm))
    have y9 : h0.size ≤ b9 := Nat.le_trans (K8.1) (Nat.le_of_eq z9.symm)
    have O9 := O8.ext E9
    have K9 : Keep h0 h9 [] := K8.ext E9
    have V9 : Arv Z h9 b9 k9 .char (2 : Int32) [(.int (0 : Int32)), (.int (0 : Int32))] (.int (0 : Int32)) := (Arv.new A9 (by decide)).pad (pad_rep [] (.int (0 : Int32)) 2)
    show own_Wp p e below _ T9 (mkF m 99 #[.val (.int p0), .val (.int p1), .val (.int p2), .val (.int p3), .val (.int c1), .val (.int c2), .val (.int c3), .val (.int c4), .val (.int c5), .val (.int c6), .unset, .unset, .unset] [(.ref b9), (.ref b8), (.ref b8)])
    refine own_step (fun _ k => XS.dup X9.here hx rfl (hb hby at_99) rfl rfl k) ?_
    show own_Wp p e below _ T9 (mkF m 100 #[.val (.int p0), .val (.int p1), .val (.int p2), .val (.int p3), .val (.int c1), .val (.int c2), .val (.int c3), .val (.int c4), .val (.int c5), .val (.int c6), .unset, .unset, .unset] [(.ref b9), (.ref b9), (.ref b8), (.ref b8)])
    refine own_step (fun _ k => XS.iconst X9.here hx rfl (hb hby at_100) k) ?_
    show own_Wp p e below _ T9 (mkF m 101 #[.val (.int p0), .val (.int p1), .val (.int p2), .val (.int p3), .val (.int c1), .val (.int c2), .val (.int c3), .val (.int c4), .val (.int c5), .val (.int c6), .unset, .unset, .unset] [(.int (0 : Int32)), (.ref b9), (.ref b9), (.ref b8), (.ref b8)])
    refine own_step (fun _ k => XS.iloadN X9.here hx rfl (hb hby at_101) rfl k) ?_
    show own_Wp p e below _ T9 (mkF m 102 #[.val (.int p0), .val (.int p1), .val (.int p2), .val (.int p3), .val (.int c1), .val (.int c2), .val (.int c3), .val (.int c4), .val (.int c5), .val (.int c6), .unset, .unset, .unset] [(.int p3), (.int (0 : Int32)), (.ref b9), (.ref b9), (.ref b8), (.ref b8)])
    refine own_step (fun _ k => XS.sipush X9.here hx rfl (hb hby at_102) k) ?_
    show own_Wp p e below _ T9 (mkF m 105 #[.val (.int p0), .val (.int p1), .val (.int p2), .val (.int p3), .val (.int c1), .val (.int c2), .val (.int c3), .val (.int c4), .val (.int c5), .val (.int c6), .unset, .unset, .unset] [(.int (255 : Int32)), (.int p3), (.int (0 : Int32)), (.ref b9), (.ref b9), (.ref b8), (.ref b8)])
    refine own_step (fun _ k => XS.iand X9.here hx rfl (hb hby at_105) rfl k) ?_
    show own_Wp p e below _ T9 (mkF m 106 #[.val (.int p0), .val (.int p1), .val (.int p2), .val (.int p3), .val (.int c1), .val (.int c2), .val (.int c3), .val (.int c4), .val (.int c5), .val (.int c6), .unset, .unset, .unset] [(.int (p3 &&& (255 : Int32))), (.int (0 : Int32)), (.ref b9), (.ref b9), (.ref b8), (.ref b8)])
    refine own_step (fun _ k => XS.i2c X9.here hx rfl (hb hby at_106) rfl k) ?_
    show own_Wp p e below _ T9 (mkF m 107 #[.val (.int p0), .val (.int p1), .val (.int p2), .val (.int p3), .val (.int c1), .val (.int c2), .val (.int c3), .val (.int c4), .val (.int c5), .val (.int c6), .unset, .unset, .unset] [(.int ((p3 &&& (255 : Int32)).toUInt32.toUInt16.toUInt32.toInt32)), (.int (0 : Int32)), (.ref b9), (.ref b9), (.ref b8), (.ref b8)])
    obtain ⟨c10, hc10⟩ : ∃ z, z = ((p3 &&& (255 : Int32)).toUInt32.toUInt16.toUInt32.toInt32) := ⟨_, rfl⟩
    rw [← hc10]
    have ha10 : ¬ (c10 < (0 : Int32)) := by rw [hc10]; exact (own_ch _).1
    have hb10 : ¬ ((255 : Int32) < c10) := by rw [hc10]; exact (own_ch _).2.1
    have hn10 : nar .char c10 = c10 := by rw [hc10]; exact (own_ch _).2.2
    show own_Wp p e below _ T9 (mkF m 107 #[.val (.int p0), .val (.int p1), .val (.int p2), .val (.int p3), .val (.int c1), .val (.int c2), .val (.int c3), .val (.int c4), .val (.int c5), .val (.int c6), .unset, .unset, .unset] [(.int c10), (.int (0 : Int32)), (.ref b9), (.ref b9), (.ref b8), (.ref b8)])
    obtain ⟨c11, r11, q11, t11, u11, y11h, y11g⟩ := id V9
    have i11 : ¬ ((0 : Int32) < 0 ∨ c11.slots.size ≤ ((0 : Int32)).toNatClampNeg) := inb_of t11 ⟨by decide, by decide⟩
    obtain ⟨T11, h11, X11, e11, W11, st11⟩ := stC X9 hx hZ e9 r11 (j := (0 : Int32)) i11 (g := (mkF m 107 #[.val (.int p0), .val (.int p1), .val (.int p2), .val (.int p3), .val (.int c1), .val (.int c2), .val (.int c3), .val (.int c4), .val (.int c5), .val (.int c6), .unset, .unset, .unset] [(.int c10), (.int (0 : Int32)), (.ref b9), (.ref b9), (.ref b8), (.ref b8)])) rfl rfl (hb hby at_107)
    rw [hn10] at W11
    refine own_step st11 ?_
    have N11 := Fr.snoc X11 (Fr.nil n0) g9
    have O11 := O9.wr W11 g9
    have K11 : Keep h0 h11 [] := K9.wr W11 (Or.inr y9)
    have V11 : Arv Z h11 b9 k9 .char (2 : Int32) [(.int c10), (.int (0 : Int32))] (.int (0 : Int32)) := Arv.set r11 q11 t11 u11 y11h y11g (own_fitc hn10) W11 0 rfl (Nat.le_of_ble_eq_true rfl)
    show own_Wp p e below _ T11 (mkF m 108 #[.val (.int p0), .val (.int p1), .val (.int p2), .val (.int p3), .val (.int c1), .val (.int c2), .val (.int c3), .val (.int c4), .val (.int c5), .val (.int c6), .unset, .unset, .unset] [(.ref b9), (.ref b8), (.ref b8)])
    refine own_step (fun _ k => XS.dup X11.here hx rfl (hb hby at_108) rfl rfl k) ?_
    show own_Wp p e below _ T11 (mkF m 109 #[.val (.int p0), .val (.int p1), .val (.int p2), .val (.int p3), .val (.int c1), .val (.int c2), .val (.int c3), .val (.int c4), .val (.int c5), .val (.int c6), .unset, .unset, .unset] [(.ref b9), (.ref b9), (.ref b8), (.ref b8)])
    refine own_step (fun _ k => XS.iconst X11.here hx rfl (hb hby at_109) k) ?_
    show own_Wp p e below _ T11 (mkF m 110 #[.val (.int p0), .val (.int p1), .val (.int p2), .val (.int p3), .val (.int c1), .val (.int c2), .val (.int c3), .val (.int c4), .val (.int c5), .val (.int c6), .unset, .unset, .unset] [(.int (1 : Int32)), (.ref b9), (.ref b9), (.ref b8), (.ref b8)])
    refine own_step (fun _ k => XS.iloadN X11.here hx rfl (hb hby at_110) rfl k) ?_
    show own_Wp p e below _ T11 (mkF m 111 #[.val (.int p0), .val (.int p1), .val (.int p2), .val (.int p3), .val (.int c1), .val (.int c2), .val (.int c3), .val (.int c4), .val (.int c5), .val (.int c6), .unset, .unset, .unset] [(.int p3), (.int (1 : Int32)), (.ref b9), (.ref b9), (.ref b8), (.ref b8)])
    refine own_step (fun _ k => XS.bipush X11.here hx rfl (hb hby at_111) k) ?_
    show own_Wp p e below _ T11 (mkF m 113 #[.val (.int p0), .val (.int p1), .val (.int p2), .val (.int p3), .val (.int c1), .val (.int c2), .val (.int c3), .val (.int c4), .val (.int c5), .val (.int c6), .unset, .unset, .unset] [(.int (8 : Int32)), (.int p3), (.int (1 : Int32)), (.ref b9), (.ref b9), (.ref b8), (.ref b8)])
    refine own_step (fun _ k => XS.iushr X11.here hx rfl (hb hby at_113) rfl k) ?_
    show own_Wp p e below _ T11 (mkF m 114 #[.val (.int p0), .val (.int p1), .val (.int p2), .val (.int p3), .val (.int c1), .val (.int c2), .val (.int c3), .val (.int c4), .val (.int c5), .val (.int c6), .unset, .unset, .unset] [(.int ((p3.toUInt32 >>> ((8 : Int32) &&& 31).toUInt32).toInt32)), (.int (1 : Int32)), (.ref b9), (.ref b9), (.ref b8), (.ref b8)])
    refine own_step (fun _ k => XS.sipush X11.here hx rfl (hb hby at_114) k) ?_
    show own_Wp p e below _ T11 (mkF m 117 #[.val (.int p0), .val (.int p1), .val (.int p2), .val (.int p3), .val (.int c1), .val (.int c2), .val (.int c3), .val (.int c4), .val (.int c5), .val (.int c6), .unset, .unset, .unset] [(.int (255 : Int32)), (.int ((p3.toUInt32 >>> ((8 : Int32) &&& 31).toUInt32).toInt32)), (.int (1 : Int32)), (.ref b9), (.ref b9), (.ref b8), (.ref b8)])
    refine own_step (fun _ k => XS.iand X11.here hx rfl (hb hby at_117) rfl k) ?_
    show own_Wp p e below _ T11 (mkF m 118 #[.val (.int p0), .val (.int p1), .val (.int p2), .val (.int p3), .val (.int c1), .val (.int c2), .val (.int c3), .val (.int c4), .val (.int c5), .val (.int c6), .unset, .unset, .unset] [(.int (((p3.toUInt32 >>> ((8 : Int32) &&& 31).toUInt32).toInt32) &&& (255 : Int32))), (.int (1 : Int32)), (.ref b9), (.ref b9), (.ref b8), (.ref b8)])
    refine own_step (fun _ k => XS.i2c X11.here hx rfl (hb hby at_118) rfl k) ?_
    show own_Wp p e below _ T11 (mkF m 119 #[.val (.int p0), .val (.int p1), .val (.int p2), .val (.int p3), .val (.int c1), .val (.int c2), .val (.int c3), .val (.int c4), .val (.int c5), .val (.int c6), .unset, .unset, .unset] [(.int ((((p3.toUInt32 >>> ((8 : Int32) &&& 31).toUInt32).toInt32) &&& (255 : Int32)).toUInt32.toUInt16.toUInt32.toInt32)), (.int (1 : Int32)), (.ref b9), (.ref b9), (.ref b8), (.ref b8)])
    obtain ⟨c12, hc12⟩ : ∃ z, z = ((((p3.toUInt32 >>> ((8 : Int32) &&& 31).toUInt32).toInt32) &&& (255 : Int32)).toUInt32.toUInt16.toUInt32.toInt32) := ⟨_, rfl⟩
    rw [← hc12]
    have ha12 : ¬ (c12 < (0 : Int32)) := by rw [hc12]; exact (own_ch _).1
    have hb12 : ¬ ((255 : Int32) < c12) := by rw [hc12]; exact (own_ch _).2.1
    have hn12 : nar .char c12 = c12 := by rw [hc12]; exact (own_ch _).2.2
    show own_Wp p e below _ T11 (mkF m 119 #[.val (.int p0), .val (.int p1), .val (.int p2), .val (.int p3), .val (.int c1), .val (.int c2), .val (.int c3), .val (.int c4), .val (.int c5), .val (.int c6), .unset, .unset, .unset] [(.int c12), (.int (1 : Int32)), (.ref b9), (.ref b9), (.ref b8), (.ref b8)])
    obtain ⟨c13, r13, q13, t13, u13, y13h, y13g⟩ := id V11
    have i13 : ¬ ((1 : Int32) < 0 ∨ c13.slots.size ≤ ((1 : Int32)).toNatClampNeg) := inb_of t13 ⟨by decide, by decide⟩
    obtain ⟨T13, h13, X13, e13, W13, st13⟩ := stC X11 hx hZ e11 r13 (j := (1 : Int32)) i13 (g := (mkF m 119 #[.val (.int p0), .val (.int p1), .val (.int p2), .val (.int p3), .val (.int c1), .val (.int c2), .val (.int c3), .val (.int c4), .val (.int c5), .val (.int c6), .unset, .unset, .unset] [(.int c12), (.int (1 : Int32)), (.ref b9), (.ref b9), (.ref b8), (.ref b8)])) rfl rfl (hb hby at_119)
    rw [hn12] at W13
    refine own_step st13 ?_
    have N13 := Fr.snoc X13 N11 g9
    have O13 := O11.wr W13 g9
    have K13 : Keep h0 h13 [] := K11.wr W13 (Or.inr y9)
    have V13 : Arv Z h13 b9 k9 .char (2 : Int32) [(.int c10), (.int c12)] (.int (0 : Int32)) := Arv.set r13 q13 t13 u13 y13h y13g (own_fitc hn12) W13 1 rfl (Nat.le_of_ble_eq_true rfl)
    show own_Wp p e below _ T13 (mkF m 120 #[.val (.int p0), .val (.int p1), .val (.int p2), .val (.int p3), .val (.int c1), .val (.int c2), .val (.int c3), .val (.int c4), .val (.int c5), .val (.int c6), .unset, .unset, .unset] [(.ref b9), (.ref b8), (.ref b8)])
    have f14 := (((A8.ext E9).wr W11).wr W13)
    have f15 := (((F8_27.ext E9).other W11 (Or.inl ne9_0)).other W13 (Or.inl ne9_0))
    have f16 := (((F8_29.ext E9).other W11 (Or.inl ne9_0)).other W13 (Or.inl ne9_0))
    obtain ⟨_, T17, L17, X17, hQ17, st17⟩ := own_callN X13 hx hZ rfl hown (hw _ (List.mem_of_getElem? (i := 4) rfl)) (hw _ (List.mem_of_getElem? (i := 5) rfl)) (hw _ (List.mem_of_getElem? (i := 2) rfl)) (hw _ (List.mem_of_getElem? (i := 6) rfl)) (by decide) (rm1_4 l Z a0 hw hS [] b8 b9 c10 c12 k9 h13 n0 O13 f14 f15 f16 V13 g8 hb10 hb12) (b := b8) (W := 1) (by decide) (by decide) [(.ref b9)] rfl (lenOf pd6 rfl) (Ls := #[.val (.int p0), .val (.int p1), .val (.int p2), .val (.int p3), .val (.int c1), .val (.int c2), .val (.int c3), .val (.int c4), .val (.int c5), .val (.int c6), .unset, .unset, .unset]) (by rw [hml]; rfl) (rest := [(.ref b8)]) (Nat.le_of_eq rfl) (hb hby at_120) e13 (by decide) (by decide)
    refine st17 _ ?_
    obtain ⟨b18, k19, rfl, N17q, K17q, y17_0, m17_0, F17_0, F17_1, F17_2, F17_3⟩ := hQ17
    have N17 := Fr.app N13 N17q
    have g17_0 : n0 ≤ b18 := Nat.le_trans (O13.1 ▸ O13.2.1) y17_0
    have ne17_0_0 : b8 ≠ b18 := Nat.ne_of_lt (Nat.lt_of_lt_of_le f14.lt y17_0)
    have ne17_0_1 : b9 ≠ b18 := Nat.ne_of_lt (Nat.lt_of_lt_of_le V13.lt y17_0)
    have u17_0 : h0.size ≤ b18 := Nat.le_trans (K13.1) y17_0
    have O17 := O13.keep K17q (allS g8 all0)
    have K17 : Keep h0 T17.heap [] := Keep.trans K13 K17q (allS (Or.inr y8) all0)
    show own_Wp p e below _ T17 (mkF m 123 #[.val (.int p0), .val (.int p1), .val (.int p2), .val (.int p3), .val (.int c1), .val (.int c2), .val (.int c3), .val (.int c4), .val (.int c5), .val (.int c6), .unset, .unset, .unset] [(.ref b8)])
    refine own_step (fun _ k => XS.astore X17.here hx rfl (hb hby at_123) rfl rfl (l' := #[.val (.int p0), .val (.int p1), .val (.int p2), .val (.int p3), .val (.int c1), .val (.int c2), .val (.int c3), .val (.int c4), .val (.int c5), .val (.int c6), .val (.ref b8), .unset, .unset]) rfl k) ?_
    show own_Wp p e below _ T17 (mkF m 125 #[.val (.int p0), .val (.int p1), .val (.int p2), .val (.int p3), .val (.int c1), .val (.int c2), .val (.int c3), .val (.int c4), .val (.int c5), .val (.int c6), .val (.ref b8), .unset, .unset] [])
    refine own_step (fun _ k => XS.iloadN X17.here hx rfl (hb hby at_125) rfl k) ?_
    show own_Wp p e below _ T17 (mkF m 126 #[.val (.int p0), .val (.int p1), .val (.int p2), .val (.int p3), .val (.int c1), .val (.int c2), .val (.int c3), .val (.int c4), .val (.int c5), .val (.int c6), .val (.ref b8), .unset, .unset] [(.int p2)])
    refine own_step (fun _ k => XS.sipush X17.here hx rfl (hb hby at_126) k) ?_
    show own_Wp p e below _ T17 (mkF m 129 #[.val (.int p0), .val (.int p1), .val (.int p2), .val (.int p3), .val (.int c1), .val (.int c2), .val (.int c3), .val (.int c4), .val (.int c5), .val (.int c6), .val (.ref b8), .unset, .unset] [(.int (128 : Int32)), (.int p2)])
    refine own_step (fun _ k => XS.iand X17.here hx rfl (hb hby at_129) rfl k) ?_
    show own_Wp p e below _ T17 (mkF m 130 #[.val (.int p0), .val (.int p1), .val (.int p2), .val (.int p3), .val (.int c1), .val (.int c2), .val (.int c3), .val (.int c4), .val (.int c5), .val (.int c6), .val (.ref b8), .unset, .unset] [(.int (p2 &&& (128 : Int32)))])
    by_cases hc20 : (p2 &&& (128 : Int32)) = (0 : Int32)
    · skip
      refine own_step (fun _ k => XS.ifYes X17.here hx rfl (pc0 := 130) (pc' := 137) rfl (hb hby at_130) rfl ((if0 _ _).trans (teq hc20).1) (by decide) (by decide) k) ?_
      show own_Wp p e below _ T17 (mkF m 137 #[.val (.int p0), .val (.int p1), .val (.int p2), .val (.int p3), .val (.int c1), .val (.int c2), .val (.int c3), .val (.int c4), .val (.int c5), .val (.int c6), .val (.ref b8), .unset, .unset] [])
      obtain ⟨T21, h21, X21, e21, E21, A21, D21, -, st21⟩ := newO X17 hx hZ hown (hw _ (List.mem_of_getElem? (i := 0) rfl)) (hw _ (List.mem_of_getElem? (i := 1) rfl)) (hw _ (List.mem_of_getElem? (i := 2) rfl)) rfl (g := (mkF m 137 #[.val (.int p0), .val (.int p1), .val (.int p2), .val (.int p3), .val (.int c1), .val (.int c2), .val (.int c3), .val (.int c4), .val (.int c5), .val (.int c6), .val (.ref b8), .unset, .unset] [])) rfl (hb hby at_137) (by decide) (by decide)
      obtain ⟨b21, z21⟩ : ∃ z, z = T17.heap.size := ⟨_, rfl⟩
      rw [← z21] at A21 D21 st21
      refine own_step st21 ?_
      have g21 : n0 ≤ b21 := Nat.le_trans (O17.1 ▸ O17.2.1) (Nat.le_of_eq z21.symm)
      have ne21_0 : b8 ≠ b21 := Nat.ne_of_lt (Nat.lt_of_lt_of_le F17_0.lt (Nat.le_of_eq z21.symm))
      have f22 := (V13.keep K17q (ninS (Ne.symm ne9_0) nin0))
      have ne21_1 : b9 ≠ b21 := Nat.ne_of_lt (Nat.lt_of_lt_of_le f22.lt (Nat.le_of_eq z21.symm))
      have ne21_2 : b18 ≠ b21 := Nat.ne_of_lt (Nat.lt_of_lt_of_le F17_3.lt (Nat.le_of_eq z21.symm))
      have y21 : h0.size ≤ b21 := Nat.le_trans (K17.1) (Nat.le_of_eq z21.symm)
      have O21 := O17.ext E21
      have K21 : Keep h0 h21 [] := K17.ext E21
      have F21_27 : Fld Z h21 b21 "java/lang/String" "coder" "B" (.int (0 : Int32)) := D21 (Or.inr (hw _ (List.mem_of_getElem? (i := 27) rfl))) (ty := .byte) (by decide)
      have F21_29 : Fld Z h21 b21 "java/lang/String" "value" "[B" .null := D21 (Or.inr (hw _ (List.mem_of_getElem? (i := 29) rfl))) (ty := (.array .byte)) (by decide)
      show own_Wp p e below _ T21 (mkF m 140 #[.val (.int p0), .val (.int p1), .val (.int p2), .val (.int p3), .val (.int c1), .val (.int c2), .val (.int c3), .val (.int c4), .val (.int c5), .val (.int c6), .val (.ref b8), .unset, .unset] [(.ref b21)])
      refine own_step (fun _ k => XS.dup X21.here hx rfl (hb hby at_140) rfl rfl k) ?_
      show own_Wp p e below _ T21 (mkF m 141 #[.val (.int p0), .val (.int p1), .val (.int p2), .val (.int p3), .val (.int c1), .val (.int c2), .val (.int c3), .val (.int c4), .val (.int c5), .val (.int c6), .val (.ref b8), .unset, .unset] [(.ref b21), (.ref b21)])
      refine own_step (fun _ k => XS.iconst X21.here hx rfl (hb hby at_141) k) ?_
      show own_Wp p e below _ T21 (mkF m 142 #[.val (.int p0), .val (.int p1), .val (.int p2), .val (.int p3), .val (.int c1), .val (.int c2), .val (.int c3), .val (.int c4), .val (.int c5), .val (.int c6), .val (.ref b8), .unset, .unset] [(.int (2 : Int32)), (.ref b21), (.ref b21)])
      obtain ⟨T23, h23, k23, X23, e23, E23, A23, st23⟩ := newP X21 hx hZ (hw _ (List.mem_of_getElem? (i := 3) rfl)) e21 (g := (mkF m 142 #[.val (.int p0), .val (.int p1), .val (.int p2), .val (.int p3), .val (.int c1), .val (.int c2), .val (.int c3), .val (.int c4), .val (.int c5), .val (.int c6), .val (.ref b8), .unset, .unset] [(.int (2 : Int32)), (.ref b21), (.ref b21)])) rfl (hb hby at_142) rfl (by decide) (cap := 2) (by decide) (by decide) (by decide) (by decide)
      obtain ⟨b23, z23⟩ : ∃ z, z = h21.size := ⟨_, rfl⟩
      rw [← z23] at A23 st23
      refine own_step st23 ?_
      have g23 : n0 ≤ b23 := Nat.le_trans (O21.1 ▸ O21.2.1) (Nat.le_of_eq z23.symm)
      have f24 := (F17_0.ext E21)
      have ne23_0 : b8 ≠ b23 := Nat.ne_of_lt (Nat.lt_of_lt_of_le f24.lt (Nat.le_of_eq z23.symm))
      have f25 := (f22.ext E21)
      have ne23_1 : b9 ≠ b23 := Nat.ne_of_lt (Nat.lt_of_lt_of_le f25.lt (Nat.le_of_eq z23.symm))
      have f26 := (F17_3.ext E21)
      have ne23_2 : b18 ≠ b23 := Nat.ne_of_lt (Nat.lt_of_lt_of_le f26.lt (Nat.le_of_eq z23.symm))
      have ne23_3 : b21 ≠ b23 := Nat.ne_of_lt (Nat.lt_of_lt_of_le A21.lt (Nat.le_of_eq z23.symm))
      have y23 : h0.size ≤ b23 := Nat.le_trans (K21.1) (Nat.le_of_eq z23.symm)
      have O23 := O21.ext E23
      have K23 : Keep h0 h23 [] := K21.ext E23
      have V23 : Arv Z h23 b23 k23 .char (2 : Int32) [(.int (0 : Int32)), (.int (0 : Int32))] (.int (0 : Int32)) := (Arv.new A23 (by decide)).pad (pad_rep [] (.int (0 : Int32)) 2)
      show own_Wp p e below _ T23 (mkF m 144 #[.val (.int p0), .val (.int p1), .val (.int p2), .val (.int p3), .val (.int c1), .val (.int c2), .val (.int c3), .val (.int c4), .val (.int c5), .val (.int c6), .val (.ref b8), .unset, .unset] [(.ref b23), (.ref b21), (.ref b21)])
      refine own_step (fun _ k => XS.dup X23.here hx rfl (hb hby at_144) rfl rfl k) ?_
      show own_Wp p e below _ T23 (mkF m 145 #[.val (.int p0), .val (.int p1), .val (.int p2), .val (.int p3), .val (.int c1), .val (.int c2), .val (.int c3), .val (.int c4), .val (.int c5), .val (.int c6), .val (.ref b8), .unset, .unset] [(.ref b23), (.ref b23), (.ref b21), (.ref b21)])
      refine own_step (fun _ k => XS.iconst X23.here hx rfl (hb hby at_145) k) ?_
      show own_Wp p e below _ T23 (mkF m 146 #[.val (.int p0), .val (.int p1), .val (.int p2), .val (.int p3), .val (.int c1), .val (.int c2), .val (.int c3), .val (.int c4), .val (.int c5), .val (.int c6), .val (.ref b8), .unset, .unset] [(.int (0 : Int32)), (.ref b23), (.ref b23), (.ref b21), (.ref b21)])
      refine own_step (fun _ k => XS.iloadN X23.here hx rfl (hb hby at_146) rfl k) ?_
      show own_Wp p e below _ T23 (mkF m 147 #[.val (.int p0), .val (.int p1), .val (.int p2), .val (.int p3), .val (.int c1), .val (.int c2), .val (.int c3), .val (.int c4), .val (.int c5), .val (.int c6), .val (.ref b8), .unset, .unset] [(.int p3), (.int (0 : Int32)), (.ref b23), (.ref b23), (.ref b21), (.ref b21)])
      refine own_step (fun _ k => XS.bipush X23.here hx rfl (hb hby at_147) k) ?_
      show own_Wp p e below _ T23 (mkF m 149 #[.val (.int p0), .val (.int p1), .val (.int p2), .val (.int p3), .val (.int c1), .val (.int c2), .val (.int c3), .val (.int c4), .val (.int c5), .val (.int c6), .val (.ref b8), .unset, .unset] [(.int (16 : Int32)), (.int p3), (.int (0 : Int32)), (.ref b23), (.ref b23), (.ref b21), (.ref b21)])
      refine own_step (fun _ k => XS.iushr X23.here hx rfl (hb hby at_149) rfl k) ?_
      show own_Wp p e below _ T23 (mkF m 150 #[.val (.int p0), .val (.int p1), .val (.int p2), .val (.int p3), .val (.int c1), .val (.int c2), .val (.int c3), .val (.int c4), .val (.int c5), .val (.int c6), .val (.ref b8), .unset, .unset] [(.int ((p3.toUInt32 >>> ((16 : Int32) &&& 31).toUInt32).toInt32)), (.int (0 : Int32)), (.ref b23), (.ref b23), (.ref b21), (.ref b21)])
      refine own_step (fun _ k => XS.sipush X23.here hx rfl (hb hby at_150) k) ?_
      show own_Wp p e below _ T23 (mkF m 153 #[.val (.int p0), .val (.int p1), .val (.int p2), .val (.int p3), .val (.int c1), .val (.int c2), .val (.int c3), .val (.int c4), .val (.int c5), .val (.int c6), .val (.ref b8), .unset, .unset] [(.int (255 : Int32)), (.int ((p3.toUInt32 >>> ((16 : Int32) &&& 31).toUInt32).toInt32)), (.int (0 : Int32)), (.ref b23), (.ref b23), (.ref b21), (.ref b21)])
      refine own_step (fun _ k => XS.iand X23.here hx rfl (hb hby at_153) rfl k) ?_
      show own_Wp p e below _ T23 (mkF m 154 #[.val (.int p0), .val (.int p1), .val (.int p2), .val (.int p3), .val (.int c1), .val (.int c2), .val (.int c3), .val (.int c4), .val (.int c5), .val (.int c6), .val (.ref b8), .unset, .unset] [(.int (((p3.toUInt32 >>> ((16 : Int32) &&& 31).toUInt32).toInt32) &&& (255 : Int32))), (.int (0 : Int32)), (.ref b23), (.ref b23), (.ref b21), (.ref b21)])
      refine own_step (fun _ k => XS.i2c X23.here hx rfl (hb hby at_154) rfl k) ?_
      show own_Wp p e below _ T23 (mkF m 155 #[.val (.int p0), .val (.int p1), .val (.int p2), .val (.int p3), .val (.int c1), .val (.int c2), .val (.int c3), .val (.int c4), .val (.int c5), .val (.int c6), .val (.ref b8), .unset, .unset] [(.int ((((p3.toUInt32 >>> ((16 : Int32) &&& 31).toUInt32).toInt32) &&& (255 : Int32)).toUInt32.toUInt16.toUInt32.toInt32)), (.int (0 : Int32)), (.ref b23), (.ref b23), (.ref b21), (.ref b21)])
      obtain ⟨c27, hc27⟩ : ∃ z, z = ((((p3.toUInt32 >>> ((16 : Int32) &&& 31).toUInt32).toInt32) &&& (255 : Int32)).toUInt32.toUInt16.toUInt32.toInt32) := ⟨_, rfl⟩
      rw [← hc27]
      have ha27 : ¬ (c27 < (0 : Int32)) := by rw [hc27]; exact (own_ch _).1
      have hb27 : ¬ ((255 : Int32) < c27) := by rw [hc27]; exact (own_ch _).2.1
      have hn27 : nar .char c27 = c27 := by rw [hc27]; exact (own_ch _).2.2
      show own_Wp p e below _ T23 (mkF m 155 #[.val (.int p0), .val (.int p1), .val (.int p2), .val (.int p3), .val (.int c1), .val (.int c2), .val (.int c3), .val (.int c4), .val (.int c5), .val (.int c6), .val (.ref b8), .unset, .unset] [(.int c27), (.int (0 : Int32)), (.ref b23), (.ref b23), (.ref b21), (.ref b21)])
      obtain ⟨c28, r28, q28, t28, u28, y28h, y28g⟩ := id V23
      have i28 : ¬ ((0 : Int32) < 0 ∨ c28.slots.size ≤ ((0 : Int32)).toNatClampNeg) := inb_of t28 ⟨by decide, by decide⟩
      obtain ⟨T28, h28, X28, e28, W28, st28⟩ := stC X23 hx hZ e23 r28 (j := (0 : Int32)) i28 (g := (mkF m 155 #[.val (.int p0), .val (.int p1), .val (.int p2), .val (.int p3), .val (.int c1), .val (.int c2), .val (.int c3), .val (.int c4), .val (.int c5), .val (.int c6), .val (.ref b8), .unset, .unset] [(.int c27), (.int (0 : Int32)), (.ref b23), (.ref b23), (.ref b21), (.ref b21)])) rfl rfl (hb hby at_155)
      rw [hn27] at W28
      refine own_step st28 ?_
      have N28 := Fr.snoc X28 N17 g23
      have O28 := O23.wr W28 g23
      have K28 : Keep h0 h28 [] := K23.wr W28 (Or.inr y23)
      have V28 : Arv Z h28 b23 k23 .char (2 : Int32) [(.int c27), (.int (0 : Int32))] (.int (0 : Int32)) := Arv.set r28 q28 t28 u28 y28h y28g (own_fitc hn27) W28 0 rfl (Nat.le_of_ble_eq_true rfl)
      show own_Wp p e below _ T28 (mkF m 156 #[.val (.int p0), .val (.int p1), .val (.int p2), .val (.int p3), .val (.int c1), .val (.int c2), .val (.int c3), .val (.int c4), .val (.int c5), .val (.int c6), .val (.ref b8), .unset, .unset] [(.ref b23), (.ref b21), (.ref b21)])
      refine own_step (fun _ k => XS.dup X28.here hx rfl (hb hby at_156) rfl rfl k) ?_
      show own_Wp p e below _ T28 (mkF m 157 #[.val (.int p0), .val (.int p1), .val (.int p2), .val (.int p3), .val (.int c1), .val (.int c2), .val (.int c3), .val (.int c4), .val (.int c5), .val (.int c6), .val (.ref b8), .unset, .unset] [(.ref b23), (.ref b23), (.ref b21), (.ref b21)])
      refine own_step (fun _ k => XS.iconst X28.here hx rfl (hb hby at_157) k) ?_
      show own_Wp p e below _ T28 (mkF m 158 #[.val (.int p0), .val (.int p1), .val (.int p2), .val (.int p3), .val (.int c1), .val (.int c2), .val (.int c3), .val (.int c4), .val (.int c5), .val (.int c6), .val (.ref b8), .unset, .unset] [(.int (1 : Int32)), (.ref b23), (.ref b23), (.ref b21), (.ref b21)])
      refine own_step (fun _ k => XS.iloadN X28.here hx rfl (hb hby at_158) rfl k) ?_
      show own_Wp p e below _ T28 (mkF m 159 #[.val (.int p0), .val (.int p1), .val (.int p2), .val (.int p3), .val (.int c1), .val (.int c2), .val (.int c3), .val (.int c4), .val (.int c5), .val (.int c6), .val (.ref b8), .unset, .unset] [(.int p3), (.int (1 : Int32)), (.ref b23), (.ref b23), (.ref b21), (.ref b21)])
      refine own_step (fun _ k => XS.bipush X28.here hx rfl (hb hby at_159) k) ?_
      show own_Wp p e below _ T28 (mkF m 161 #[.val (.int p0), .val (.int p1), .val (.int p2), .val (.int p3), .val (.int c1), .val (.int c2), .val (.int c3), .val (.int c4), .val (.int c5), .val (.int c6), .val (.ref b8), .unset, .unset] [(.int (24 : Int32)), (.int p3), (.int (1 : Int32)), (.ref b23), (.ref b23), (.ref b21), (.ref b21)])
      refine own_step (fun _ k => XS.iushr X28.here hx rfl (hb hby at_161) rfl k) ?_
      show own_Wp p e below _ T28 (mkF m 162 #[.val (.int p0), .val (.int p1), .val (.int p2), .val (.int p3), .val (.int c1), .val (.int c2), .val (.int c3), .val (.int c4), .val (.int c5), .val (.int c6), .val (.ref b8), .unset, .unset] [(.int ((p3.toUInt32 >>> ((24 : Int32) &&& 31).toUInt32).toInt32)), (.int (1 : Int32)), (.ref b23), (.ref b23), (.ref b21), (.ref b21)])
      refine own_step (fun _ k => XS.sipush X28.here hx rfl (hb hby at_162) k) ?_
      show own_Wp p e below _ T28 (mkF m 165 #[.val (.int p0), .val (.int p1), .val (.int p2), .val (.int p3), .val (.int c1), .val (.int c2), .val (.int c3), .val (.int c4), .val (.int c5), .val (.int c6), .val (.ref b8), .unset, .unset] [(.int (255 : Int32)), (.int ((p3.toUInt32 >>> ((24 : Int32) &&& 31).toUInt32).toInt32)), (.int (1 : Int32)), (.ref b23), (.ref b23), (.ref b21), (.ref b21)])
      refine own_step (fun _ k => XS.iand X28.here hx rfl (hb hby at_165) rfl k) ?_
      show own_Wp p e below _ T28 (mkF m 166 #[.val (.int p0), .val (.int p1), .val (.int p2), .val (.int p3), .val (.int c1), .val (.int c2), .val (.int c3), .val (.int c4), .val (.int c5), .val (.int c6), .val (.ref b8), .unset, .unset] [(.int (((p3.toUInt32 >>> ((24 : Int32) &&& 31).toUInt32).toInt32) &&& (255 : Int32))), (.int (1 : Int32)), (.ref b23), (.ref b23), (.ref b21), (.ref b21)])
      refine own_step (fun _ k => XS.i2c X28.here hx rfl (hb hby at_166) rfl k) ?_
      show own_Wp p e below _ T28 (mkF m 167 #[.val (.int p0), .val (.int p1), .val (.int p2), .val (.int p3), .val (.int c1), .val (.int c2), .val (.int c3), .val (.int c4), .val (.int c5), .val (.int c6), .val (.ref b8), .unset, .unset] [(.int ((((p3.toUInt32 >>> ((24 : Int32) &&& 31).toUInt32).toInt32) &&& (255 : Int32)).toUInt32.toUInt16.toUInt32.toInt32)), (.int (1 : Int32)), (.ref b23), (.ref b23), (.ref b21), (.ref b21)])
      obtain ⟨c29, hc29⟩ : ∃ z, z = ((((p3.toUInt32 >>> ((24 : Int32) &&& 31).toUInt32).toInt32) &&& (255 : Int32)).toUInt32.toUInt16.toUInt32.toInt32) := ⟨_, rfl⟩
      rw [← hc29]
      have ha29 : ¬ (c29 < (0 : Int32)) := by rw [hc29]; exact (own_ch _).1
      have hb29 : ¬ ((255 : Int32) < c29) := by rw [hc29]; exact (own_ch _).2.1
      have hn29 : nar .char c29 = c29 := by rw [hc29]; exact (own_ch _).2.2
      show own_Wp p e below _ T28 (mkF m 167 #[.val (.int p0), .val (.int p1), .val (.int p2), .val (.int p3), .val (.int c1), .val (.int c2), .val (.int c3), .val (.int c4), .val (.int c5), .val (.int c6), .val (.ref b8), .unset, .unset] [(.int c29), (.int (1 : Int32)), (.ref b23), (.ref b23), (.ref b21), (.ref b21)])
      obtain ⟨c30, r30, q30, t30, u30, y30h, y30g⟩ := id V28
      have i30 : ¬ ((1 : Int32) < 0 ∨ c30.slots.size ≤ ((1 : Int32)).toNatClampNeg) := inb_of t30 ⟨by decide, by decide⟩
      obtain ⟨T30, h30, X30, e30, W30, st30⟩ := stC X28 hx hZ e28 r30 (j := (1 : Int32)) i30 (g := (mkF m 167 #[.val (.int p0), .val (.int p1), .val (.int p2), .val (.int p3), .val (.int c1), .val (.int c2), .val (.int c3), .val (.int c4), .val (.int c5), .val (.int c6), .val (.ref b8), .unset, .unset] [(.int c29), (.int (1 : Int32)), (.ref b23), (.ref b23), (.ref b21), (.ref b21)])) rfl rfl (hb hby at_167)
      rw [hn29] at W30
      refine own_step st30 ?_
      have N30 := Fr.snoc X30 N28 g23
      have O30 := O28.wr W30 g23
      have K30 : Keep h0 h30 [] := K28.wr W30 (Or.inr y23)
      have V30 : Arv Z h30 b23 k23 .char (2 : Int32) [(.int c27), (.int c29)] (.int (0 : Int32)) := Arv.set r30 q30 t30 u30 y30h y30g (own_fitc hn29) W30 1 rfl (Nat.le_of_ble_eq_true rfl)
      show own_Wp p e below _ T30 (mkF m 168 #[.val (.int p0), .val (.int p1), .val (.int p2), .val (.int p3), .val (.int c1), .val (.int c2), .val (.int c3), .val (.int c4), .val (.int c5), .val (.int c6), .val (.ref b8), .unset, .unset] [(.ref b23), (.ref b21), (.ref b21)])
      have f31 := (((A21.ext E23).wr W28).wr W30)
      have f32 := (((F21_27.ext E23).other W28 (Or.inl ne23_3)).other W30 (Or.inl ne23_3))
      have f33 := (((F21_29.ext E23).other W28 (Or.inl ne23_3)).other W30 (Or.inl ne23_3))
      obtain ⟨_, T34, L34, X34, hQ34, st34⟩ := own_callN X30 hx hZ rfl hown (hw _ (List.mem_of_getElem? (i := 4) rfl)) (hw _ (List.mem_of_getElem? (i := 5) rfl)) (hw _ (List.mem_of_getElem? (i := 2) rfl)) (hw _ (List.mem_of_getElem? (i := 6) rfl)) (by decide) (rm1_4 l Z a0 hw hS [] b21 b23 c27 c29 k23 h30 n0 O30 f31 f32 f33 V30 g21 hb27 hb29) (b := b21) (W := 1) (by decide) (by decide) [(.ref b23)] rfl (lenOf pd6 rfl) (Ls := #[.val (.int p0), .val (.int p1), .val (.int p2), .val (.int p3), .val (.int c1), .val (.int c2), .val (.int c3), .val (.int c4), .val (.int c5), .val (.int c6), .val (.ref b8), .unset, .unset]) (by rw [hml]; rfl) (rest := [(.ref b21)]) (Nat.le_of_eq rfl) (hb hby at_168) e30 (by decide) (by decide)
      refine st34 _ ?_
      obtain ⟨b35, k36, rfl, N34q, K34q, y34_0, m34_0, F34_0, F34_1, F34_2, F34_3⟩ := hQ34
      have N34 := Fr.app N30 N34q
      have g34_0 : n0 ≤ b35 := Nat.le_trans (O30.1 ▸ O30.2.1) y34_0
      have f37 := (((f24.ext E23).wr W28).wr W30)
      have ne34_0_0 : b8 ≠ b35 := Nat.ne_of_lt (Nat.lt_of_lt_of_le f37.lt y34_0)
      have f38 := (((f25.ext E23).other W28 ne23_1).other W30 ne23_1)
      have ne34_0_1 : b9 ≠ b35 := Nat.ne_of_lt (Nat.lt_of_lt_of_le f38.lt y34_0)
      have f39 := (((f26.ext E23).other W28 ne23_2).other W30 ne23_2)
      have ne34_0_2 : b18 ≠ b35 := Nat.ne_of_lt (Nat.lt_of_lt_of_le f39.lt y34_0)
      have ne34_0_3 : b21 ≠ b35 := Nat.ne_of_lt (Nat.lt_of_lt_of_le f31.lt y34_0)
      have ne34_0_4 : b23 ≠ b35 := Nat.ne_of_lt (Nat.lt_of_lt_of_le V30.lt y34_0)
      have u34_0 : h0.size ≤ b35 := Nat.le_trans (K30.1) y34_0
      have O34 := O30.keep K34q (allS g21 all0)
      have K34 : Keep h0 T34.heap [] := Keep.trans K30 K34q (allS (Or.inr y21) all0)
      show own_Wp p e below _ T34 (mkF m 171 #[.val (.int p0), .val (.int p1), .val (.int p2), .val (.int p3), .val (.int c1), .val (.int c2), .val (.int c3), .val (.int c4), .val (.int c5), .val (.int c6), .val (.ref b8), .unset, .unset] [(.ref b21)])
      refine own_step (fun _ k => XS.astore X34.here hx rfl (hb hby at_171) rfl rfl (l' := #[.val (.int p0), .val (.int p1), .val (.int p2), .val (.int p3), .val (.int c1), .val (.int c2), .val (.int c3), .val (.int c4), .val (.int c5), .val (.int c6), .val (.ref b8), .val (.ref b21), .unset]) rfl k) ?_
      show own_Wp p e below _ T34 (mkF m 173 #[.val (.int p0), .val (.int p1), .val (.int p2), .val (.int p3), .val (.int c1), .val (.int c2), .val (.int c3), .val (.int c4), .val (.int c5), .val (.int c6), .val (.ref b8), .val (.ref b21), .unset] [])
      obtain ⟨T40, h40, X40, e40, E40, A40, D40, -, st40⟩ := newO X34 hx hZ hown (hw _ (List.mem_of_getElem? (i := 30) rfl)) (hw _ (List.mem_of_getElem? (i := 31) rfl)) (hw _ (List.mem_of_getElem? (i := 32) rfl)) rfl (g := (mkF m 173 #[.val (.int p0), .val (.int p1), .val (.int p2), .val (.int p3), .val (.int c1), .val (.int c2), .val (.int c3), .val (.int c4), .val (.int c5), .val (.int c6), .val (.ref b8), .val (.ref b21), .unset] [])) rfl (hb hby at_173) (by decide) (by decide)
      obtain ⟨b40, z40⟩ : ∃ z, z = T34.heap.size := ⟨_, rfl⟩
      rw [← z40] at A40 D40 st40
      refine own_step st40 ?_
      have g40 : n0 ≤ b40 := Nat.le_trans (O34.1 ▸ O34.2.1) (Nat.le_of_eq z40.symm)
      have f41 := (f37.keep K34q)
      have ne40_0 : b8 ≠ b40 := Nat.ne_of_lt (Nat.lt_of_lt_of_le f41.lt (Nat.le_of_eq z40.symm))
      have f42 := (f38.keep K34q (ninS ne21_1 nin0))
      have ne40_1 : b9 ≠ b40 := Nat.ne_of_lt (Nat.lt_of_lt_of_le f42.lt (Nat.le_of_eq z40.symm))
      have f43 := (f39.keep K34q (ninS ne21_2 nin0))
      have ne40_2 : b18 ≠ b40 := Nat.ne_of_lt (Nat.lt_of_lt_of_le f43.lt (Nat.le_of_eq z40.symm))
      have ne40_3 : b21 ≠ b40 := Nat.ne_of_lt (Nat.lt_of_lt_of_le F34_0.lt (Nat.le_of_eq z40.symm))
      have f44 := (V30.keep K34q (ninS (Ne.symm ne23_3) nin0))
      have ne40_4 : b23 ≠ b40 := Nat.ne_of_lt (Nat.lt_of_lt_of_le f44.lt (Nat.le_of_eq z40.symm))
      have ne40_5 : b35 ≠ b40 := Nat.ne_of_lt (Nat.lt_of_lt_of_le F34_3.lt (Nat.le_of_eq z40.symm))
      have y40 : h0.size ≤ b40 := Nat.le_trans (K34.1) (Nat.le_of_eq z40.symm)
      have O40 := O34.ext E40
      have K40 : Keep h0 h40 [] := K34.ext E40
      have F40_43 : Fld Z h40 b40 "com/example/fieldnote/fieldnote/text/TextSyntax$Entry" "name" "Ljava/lang/String;" .null := D40 (Or.inl (hw _ (List.mem_of_getElem? (i := 43) rfl))) (ty := (.object "java/lang/String")) (by decide)
      have F40_45 : Fld Z h40 b40 "com/example/fieldnote/fieldnote/text/TextSyntax$Entry" "place" "I" (.int (0 : Int32)) := D40 (Or.inl (hw _ (List.mem_of_getElem? (i := 45) rfl))) (ty := .int) (by decide)
      have F40_47 : Fld Z h40 b40 "com/example/fieldnote/fieldnote/text/TextSyntax$Entry" "field" "Lcom/example/fieldnote/fieldnote/schema/Field;" .null := D40 (Or.inl (hw _ (List.mem_of_getElem? (i := 47) rfl))) (ty := (.object "com/example/fieldnote/fieldnote/schema/Field")) (by decide)
      have F40_49 : Fld Z h40 b40 "com/example/fieldnote/fieldnote/text/TextSyntax$Entry" "colon" "Z" (.int (0 : Int32)) := D40 (Or.inl (hw _ (List.mem_of_getElem? (i := 49) rfl))) (ty := .boolean) (by decide)
      have F40_51 : Fld Z h40 b40 "com/example/fieldnote/fieldnote/text/TextSyntax$Entry" "inList" "Z" (.int (0 : Int32)) := D40 (Or.inl (hw _ (List.mem_of_getElem? (i := 51) rfl))) (ty := .boolean) (by decide)
      have F40_53 : Fld Z h40 b40 "com/example/fieldnote/fieldnote/text/TextSyntax$Entry" "messages" "Z" (.int (0 : Int32)) := D40 (Or.inl (hw _ (List.mem_of_getElem? (i := 53) rfl))) (ty := .boolean) (by decide)
      show own_Wp p e below _ T40 (mkF m 176 #[.val (.int p0), .val (.int p1), .val (.int p2), .val (.int p3), .val (.int c1), .val (.int c2), .val (.int c3), .val (.int c4), .val (.int c5), .val (.int c6), .val (.ref b8), .val (.ref b21), .unset] [(.ref b40)])
      refine own_step (fun _ k => XS.dup X40.here hx rfl (hb hby at_176) rfl rfl k) ?_
      show own_Wp p e below _ T40 (mkF m 177 #[.val (.int p0), .val (.int p1), .val (.int p2), .val (.int p3), .val (.int c1), .val (.int c2), .val (.int c3), .val (.int c4), .val (.int c5), .val (.int c6), .val (.ref b8), .val (.ref b21), .unset] [(.ref b40), (.ref b40)])
      obtain ⟨_, T45, L45, X45, hQ45, st45⟩ := own_callN X40 hx hZ rfl hown (hw _ (List.mem_of_getElem? (i := 33) rfl)) (hw _ (List.mem_of_getElem? (i := 34) rfl)) (hw _ (List.mem_of_getElem? (i := 32) rfl)) (hw _ (List.mem_of_getElem? (i := 35) rfl)) (by decide) (rm7_5 l Z a0 hw hS [] b40 h40 n0 O40) (b := b40) (W := 1) (by decide) (by decide) [] rfl (lenOf pd8 rfl) (Ls := #[.val (.int p0), .val (.int p1), .val (.int p2), .val (.int p3), .val (.int c1), .val (.int c2), .val (.int c3), .val (.int c4), .val (.int c5), .val (.int c6), .val (.ref b8), .val (.ref b21), .unset]) (by rw [hml]; rfl) (rest := [(.ref b40)]) (Nat.le_of_eq rfl) (hb hby at_177) e40 (by decide) (by decide)
      refine st45 _ ?_
      obtain ⟨rfl, N45q, e45⟩ := hQ45
      have N45 := Fr.app N34 N45q
      show own_Wp p e below _ T45 (mkF m 180 #[.val (.int p0), .val (.int p1), .val (.int p2), .val (.int p3), .val (.int c1), .val (.int c2), .val (.int c3), .val (.int c4), .val (.int c5), .val (.int c6), .val (.ref b8), .val (.ref b21), .unset] [(.ref b40)])
      refine own_step (fun _ k => XS.astore X45.here hx rfl (hb hby at_180) rfl rfl (l' := #[.val (.int p0), .val (.int p1), .val (.int p2), .val (.int p3), .val (.int c1), .val (.int c2), .val (.int c3), .val (.int c4), .val (.int c5), .val (.int c6), .val (.ref b8), .val (.ref b21), .val (.ref b40)]) rfl k) ?_
      show own_Wp p e below _ T45 (mkF m 182 #[.val (.int p0), .val (.int p1), .val (.int p2), .val (.int p3), .val (.int c1), .val (.int c2), .val (.int c3), .val (.int c4), .val (.int c5), .val (.int c6), .val (.ref b8), .val (.ref b21), .val (.ref b40)] [])
      refine own_step (fun _ k => XS.aload X45.here hx rfl (hb hby at_182) rfl rfl k) ?_
      show own_Wp p e below _ T45 (mkF m 184 #[.val (.int p0), .val (.int p1), .val (.int p2), .val (.int p3), .val (.int c1), .val (.int c2), .val (.int c3), .val (.int c4), .val (.int c5), .val (.int c6), .val (.ref b8), .val (.ref b21), .val (.ref b40)] [(.ref b40)])
      refine own_step (fun _ k => XS.aload X45.here hx rfl (hb hby at_184) rfl rfl k) ?_
      show own_Wp p e below _ T45 (mkF m 186 #[.val (.int p0), .val (.int p1), .val (.int p2), .val (.int p3), .val (.int c1), .val (.int c2), .val (.int c3), .val (.int c4), .val (.int c5), .val (.int c6), .val (.ref b8), .val (.ref b21), .val (.ref b40)] [(.ref b8), (.ref b40)])
      refine own_step (fun _ k => XS.iloadN X45.here hx rfl (hb hby at_186) rfl k) ?_
      show own_Wp p e below _ T45 (mkF m 187 #[.val (.int p0), .val (.int p1), .val (.int p2), .val (.int p3), .val (.int c1), .val (.int c2), .val (.int c3), .val (.int c4), .val (.int c5), .val (.int c6), .val (.ref b8), .val (.ref b21), .val (.ref b40)] [(.int p0), (.ref b8), (.ref b40)])
      refine own_step (fun _ k => XS.aconstNull X45.here hx rfl (hb hby at_187) k) ?_
      show own_Wp p e below _ T45 (mkF m 188 #[.val (.int p0), .val (.int p1), .val (.int p2), .val (.int p3), .val (.int c1), .val (.int c2), .val (.int c3), .val (.int c4), .val (.int c5), .val (.int c6), .val (.ref b8), .val (.ref b21), .val (.ref b40)] [.null, (.int p0), (.ref b8), (.ref b40)])
      refine own_step (fun _ k => XS.iload X45.here hx rfl (hb hby at_188) rfl k) ?_
      show own_Wp p e below _ T45 (mkF m 190 #[.val (.int p0), .val (.int p1), .val (.int p2), .val (.int p3), .val (.int c1), .val (.int c2), .val (.int c3), .val (.int c4), .val (.int c5), .val (.int c6), .val (.ref b8), .val (.ref b21), .val (.ref b40)] [(.int c1), .null, (.int p0), (.ref b8), (.ref b40)])
      refine own_step (fun _ k => XS.iload X45.here hx rfl (hb hby at_190) rfl k) ?_
      show own_Wp p e below _ T45 (mkF m 192 #[.val (.int p0), .val (.int p1), .val (.int p2), .val (.int p3), .val (.int c1), .val (.int c2), .val (.int c3), .val (.int c4), .val (.int c5), .val (.int c6), .val (.ref b8), .val (.ref b21), .val (.ref b40)] [(.int c2), (.int c1), .null, (.int p0), (.ref b8), (.ref b40)])
      refine own_step (fun _ k => XS.iload X45.here hx rfl (hb hby at_192) rfl k) ?_
      show own_Wp p e below _ T45 (mkF m 194 #[.val (.int p0), .val (.int p1), .val (.int p2), .val (.int p3), .val (.int c1), .val (.int c2), .val (.int c3), .val (.int c4), .val (.int c5), .val (.int c6), .val (.ref b8), .val (.ref b21), .val (.ref b40)] [(.int c3), (.int c2), (.int c1), .null, (.int p0), (.ref b8), (.ref b40)])
      obtain ⟨_, T46, L46, X46, hQ46, st46⟩ := own_callV X45 hx hZ hown (hw _ (List.mem_of_getElem? (i := 37) rfl)) (hw _ (List.mem_of_getElem? (i := 38) rfl)) (notFace_of_selects (args := #[]) (mvT hZ (hw _ (List.mem_of_getElem? (i := 40) rfl)))) (hw _ (List.mem_of_getElem? (i := 40) rfl)) (hw _ (List.mem_of_getElem? (i := 39) rfl)) (hw _ (List.mem_of_getElem? (i := 32) rfl)) (hw _ (List.mem_of_getElem? (i := 41) rfl)) (by decide) A40 (rm8_6 l Z a0 hw hS [] b40 b8 p0 c1 c2 c3 h40 n0 O40 A40 F40_43 F40_45 F40_47 F40_49 F40_51 F40_53 g40 hc1 hc2 hc3) (W := 0) (by decide) (by decide) [(.ref b8), (.int p0), .null, (.int c1), (.int c2), (.int c3)] rfl (lenOf pd9 rfl) (Ls := #[.val (.int p0), .val (.int p1), .val (.int p2), .val (.int p3), .val (.int c1), .val (.int c2), .val (.int c3), .val (.int c4), .val (.int c5), .val (.int c6), .val (.ref b8), .val (.ref b21), .val (.ref b40)]) (by rw [hml]; rfl) (rest := []) (Nat.le_of_eq rfl) (hb hby at_194) e45 (by decide) (by decide)
      refine st46 _ ?_
      obtain ⟨rfl, N46q, K46q, F46_0, F46_1, F46_2, F46_3, F46_4, F46_5, F46_6⟩ := hQ46
      have N46 := Fr.app N45 N46q
      have O46 := O40.keep K46q (allS g40 all0)
      have K46 : Keep h0 T46.heap [] := Keep.trans K40 K46q (allS (Or.inr y40) all0)
      show own_Wp p e below _ T46 (mkF m 197 #[.val (.int p0), .val (.int p1), .val (.int p2), .val (.int p3), .val (.int c1), .val (.int c2), .val (.int c3), .val (.int c4), .val (.int c5), .val (.int c6), .val (.ref b8), .val (.ref b21), .val (.ref b40)] [])
      refine own_step (fun _ k => XS.aload X46.here hx rfl (hb hby at_197) rfl rfl k) ?_
      show own_Wp p e below _ T46 (mkF m 199 #[.val (.int p0), .val (.int p1), .val (.int p2), .val (.int p3), .val (.int c1), .val (.int c2), .val (.int c3), .val (.int c4), .val (.int c5), .val (.int c6), .val (.ref b8), .val (.ref b21), .val (.ref b40)] [(.ref b40)])
      refine own_step (fun _ k => XS.aload X46.here hx rfl (hb hby at_199) rfl rfl k) ?_
      show own_Wp p e below _ T46 (mkF m 201 #[.val (.int p0), .val (.int p1), .val (.int p2), .val (.int p3), .val (.int c1), .val (.int c2), .val (.int c3), .val (.int c4), .val (.int c5), .val (.int c6), .val (.ref b8), .val (.ref b21), .val (.ref b40)] [(.ref b21), (.ref b40)])
      refine own_step (fun _ k => XS.iloadN X46.here hx rfl (hb hby at_201) rfl k) ?_
      show own_Wp p e below _ T46 (mkF m 202 #[.val (.int p0), .val (.int p1), .val (.int p2), .val (.int p3), .val (.int c1), .val (.int c2), .val (.int c3), .val (.int c4), .val (.int c5), .val (.int c6), .val (.ref b8), .val (.ref b21), .val (.ref b40)] [(.int p1), (.ref b21), (.ref b40)])
      refine own_step (fun _ k => XS.aconstNull X46.here hx rfl (hb hby at_202) k) ?_
      show own_Wp p e below _ T46 (mkF m 203 #[.val (.int p0), .val (.int p1), .val (.int p2), .val (.int p3), .val (.int c1), .val (.int c2), .val (.int c3), .val (.int c4), .val (.int c5), .val (.int c6), .val (.ref b8), .val (.ref b21), .val (.ref b40)] [.null, (.int p1), (.ref b21), (.ref b40)])
      refine own_step (fun _ k => XS.iload X46.here hx rfl (hb hby at_203) rfl k) ?_
      show own_Wp p e below _ T46 (mkF m 205 #[.val (.int p0), .val (.int p1), .val (.int p2), .val (.int p3), .val (.int c1), .val (.int c2), .val (.int c3), .val (.int c4), .val (.int c5), .val (.int c6), .val (.ref b8), .val (.ref b21), .val (.ref b40)] [(.int c4), .null, (.int p1), (.ref b21), (.ref b40)])
      refine own_step (fun _ k => XS.iload X46.here hx rfl (hb hby at_205) rfl k) ?_
      show own_Wp p e below _ T46 (mkF m 207 #[.val (.int p0), .val (.int p1), .val (.int p2), .val (.int p3), .val (.int c1), .val (.int c2), .val (.int c3), .val (.int c4), .val (.int c5), .val (.int c6), .val (.ref b8), .val (.ref b21), .val (.ref b40)] [(.int c5), (.int c4), .null, (.int p1), (.ref b21), (.ref b40)])
      refine own_step (fun _ k => XS.iload X46.here hx rfl (hb hby at_207) rfl k) ?_
      show own_Wp p e below _ T46 (mkF m 209 #[.val (.int p0), .val (.int p1), .val (.int p2), .val (.int p3), .val (.int c1), .val (.int c2), .val (.int c3), .val (.int c4), .val (.int c5), .val (.int c6), .val (.ref b8), .val (.ref b21), .val (.ref b40)] [(.int c6), (.int c5), (.int c4), .null, (.int p1), (.ref b21), (.ref b40)])
      obtain ⟨_, T47, L47, X47, hQ47, st47⟩ := own_callV X46 hx hZ hown (hw _ (List.mem_of_getElem? (i := 37) rfl)) (hw _ (List.mem_of_getElem? (i := 38) rfl)) (notFace_of_selects (args := #[]) (mvT hZ (hw _ (List.mem_of_getElem? (i := 40) rfl)))) (hw _ (List.mem_of_getElem? (i := 40) rfl)) (hw _ (List.mem_of_getElem? (i := 39) rfl)) (hw _ (List.mem_of_getElem? (i := 32) rfl)) (hw _ (List.mem_of_getElem? (i := 41) rfl)) (by decide) F46_0 (rm8_7 l Z a0 hw hS [] b40 b21 p1 c4 c5 c6 b8 p0 c1 c2 c3 T46.heap n0 O46 F46_0 F46_1 F46_2 F46_3 F46_4 F46_5 F46_6 g40 hc4 hc5 hc6) (W := 0) (by decide) (by decide) [(.ref b21), (.int p1), .null, (.int c4), (.int c5), (.int c6)] rfl (lenOf pd9 rfl) (Ls := #[.val (.int p0), .val (.int p1), .val (.int p2), .val (.int p3), .val (.int c1), .val (.int c2), .val (.int c3), .val (.int c4), .val (.int c5), .val (.int c6), .val (.ref b8), .val (.ref b21), .val (.ref b40)]) (by rw [hml]; rfl) (rest := []) (Nat.le_of_eq rfl) (hb hby at_209) rfl (by decide) (by decide)
      refine st47 _ ?_
      obtain ⟨rfl, N47q, K47q, F47_0, F47_1, F47_2, F47_3, F47_4, F47_5, F47_6⟩ := hQ47
      have N47 := Fr.app N46 N47q
      have O47 := O46.keep K47q (allS g40 all0)
      have K47 : Keep h0 T47.heap [] := Keep.trans K46 K47q (allS (Or.inr y40) all0)
      show own_Wp p e below _ T47 (mkF m 212 #[.val (.int p0), .val (.int p1), .val (.int p2), .val (.int p3), .val (.int c1), .val (.int c2), .val (.int c3), .val (.int c4), .val (.int c5), .val (.int c6), .val (.ref b8), .val (.ref b21), .val (.ref b40)] [])
      refine own_step (fun _ k => XS.aload X47.here hx rfl (hb hby at_212) rfl rfl k) ?_
      show own_Wp p e below _ T47 (mkF m 214 #[.val (.int p0), .val (.int p1), .val (.int p2), .val (.int p3), .val (.int c1), .val (.int c2), .val (.int c3), .val (.int c4), .val (.int c5), .val (.int c6), .val (.ref b8), .val (.ref b21), .val (.ref b40)] [(.ref b40)])
      obtain ⟨_, T48, L48, X48, hQ48, st48⟩ := own_callV X47 hx hZ hown (hw _ (List.mem_of_getElem? (i := 54) rfl)) (hw _ (List.mem_of_getElem? (i := 55) rfl)) (notFace_of_selects (args := #[]) (mvT hZ (hw _ (List.mem_of_getElem? (i := 57) rfl)))) (hw _ (List.mem_of_getElem? (i := 57) rfl)) (hw _ (List.mem_of_getElem? (i := 56) rfl)) (hw _ (List.mem_of_getElem? (i := 32) rfl)) (hw _ (List.mem_of_getElem? (i := 58) rfl)) (by decide) F47_0 (rm9_8 l Z a0 hw hS [] b40 b21 T47.heap n0 O47 F47_1) (W := 0) (by decide) (by decide) [] rfl (lenOf pd10 rfl) (Ls := #[.val (.int p0), .val (.int p1), .val (.int p2), .val (.int p3), .val (.int c1), .val (.int c2), .val (.int c3), .val (.int c4), .val (.int c5), .val (.int c6), .val (.ref b8), .val (.ref b21), .val (.ref b40)]) (by rw [hml]; rfl) (rest := []) (Nat.le_of_eq rfl) (hb hby at_214) rfl (by decide) (by decide)
      refine st48 _ ?_
      obtain ⟨rfl, N48q, e48⟩ := hQ48
      have N48 := Fr.app N47 N48q
      show own_Wp p e below _ T48 (mkF m 217 #[.val (.int p0), .val (.int p1), .val (.int p2), .val (.int p3), .val (.int c1), .val (.int c2), .val (.int c3), .val (.int c4), .val (.int c5), .val (.int c6), .val (.ref b8), .val (.ref b21), .val (.ref b40)] [(.ref b21)])
      refine own_step (fun _ k => XS.aload X48.here hx rfl (hb hby at_217) rfl rfl k) ?_
      show own_Wp p e below _ T48 (mkF m 219 #[.val (.int p0), .val (.int p1), .val (.int p2), .val (.int p3), .val (.int c1), .val (.int c2), .val (.int c3), .val (.int c4), .val (.int c5), .val (.int c6), .val (.ref b8), .val (.ref b21), .val (.ref b40)] [(.ref b21), (.ref b21)])
      refine own_step (fun _ k => Jvm.RoadKit.acmp (g := (mkF m 219 #[.val (.int p0), .val (.int p1), .val (.int p2), .val (.int p3), .val (.int c1), .val (.int c2), .val (.int c3), .val (.int c4), .val (.int c5), .val (.int c6), .val (.ref b8), .val (.ref b21), .val (.ref b40)] [(.ref b21), (.ref b21)])) X48 hx rfl rfl rfl (pc0 := 219) (pc' := 222) (same := true) rfl (hb hby at_219) rfl (decide_eq_true rfl) (by decide) (by decide) k) ?_
      show own_Wp p e below _ T48 (mkF m 222 #[.val (.int p0), .val (.int p1), .val (.int p2), .val (.int p3), .val (.int c1), .val (.int c2), .val (.int c3), .val (.int c4), .val (.int c5), .val (.int c6), .val (.ref b8), .val (.ref b21), .val (.ref b40)] [])
      refine own_step (fun _ k => XS.aload X48.here hx rfl (hb hby at_222) rfl rfl k) ?_
      show own_Wp p e below _ T48 (mkF m 224 #[.val (.int p0), .val (.int p1), .val (.int p2), .val (.int p3), .val (.int c1), .val (.int c2), .val (.int c3), .val (.int c4), .val (.int c5), .val (.int c6), .val (.ref b8), .val (.ref b21), .val (.ref b40)] [(.ref b40)])
      obtain ⟨_, T49, L49, X49, hQ49, st49⟩ := own_callV X48 hx hZ hown (hw _ (List.mem_of_getElem? (i := 59) rfl)) (hw _ (List.mem_of_getElem? (i := 60) rfl)) (notFace_of_selects (args := #[]) (mvT hZ (hw _ (List.mem_of_getElem? (i := 62) rfl)))) (hw _ (List.mem_of_getElem? (i := 62) rfl)) (hw _ (List.mem_of_getElem? (i := 61) rfl)) (hw _ (List.mem_of_getElem? (i := 32) rfl)) (hw _ (List.mem_of_getElem? (i := 63) rfl)) (by decide) F47_0 (rm10_9 l Z a0 hw hS [] b40 p1 T47.heap n0 O47 F47_2) (W := 0) (by decide) (by decide) [] rfl (lenOf pd11 rfl) (Ls := #[.val (.int p0), .val (.int p1), .val (.int p2), .val (.int p3), .val (.int c1), .val (.int c2), .val (.int c3), .val (.int c4), .val (.int c5), .val (.int c6), .val (.ref b8), .val (.ref b21), .val (.ref b40)]) (by rw [hml]; rfl) (rest := []) (Nat.le_of_eq rfl) (hb hby at_224) e48 (by decide) (by decide)
      refine st49 _ ?_
      obtain ⟨rfl, N49q, e49⟩ := hQ49
      have N49 := Fr.app N48 N49q
      show own_Wp p e below _ T49 (mkF m 227 #[.val (.int p0), .val (.int p1), .val (.int p2), .val (.int p3), .val (.int c1), .val (.int c2), .val (.int c3), .val (.int c4), .val (.int c5), .val (.int c6), .val (.ref b8), .val (.ref b21), .val (.ref b40)] [(.int p1)])
      refine own_step (fun _ k => XS.iloadN X49.here hx rfl (hb hby at_227) rfl k) ?_
      show own_Wp p e below _ T49 (mkF m 228 #[.val (.int p0), .val (.int p1), .val (.int p2), .val (.int p3), .val (.int c1), .val (.int c2), .val (.int c3), .val (.int c4), .val (.int c5), .val (.int c6), .val (.ref b8), .val (.ref b21), .val (.ref b40)] [(.int p1), (.int p1)])
      refine own_step (fun _ k => XS.icmpNo X49.here hx rfl (hb hby at_228) rfl (teq (rfl : p1 = p1)).2 k) ?_
      show own_Wp p e below _ T49 (mkF m 231 #[.val (.int p0), .val (.int p1), .val (.int p2), .val (.int p3), .val (.int c1), .val (.int c2), .val (.int c3), .val (.int c4), .val (.int c5), .val (.int c6), .val (.ref b8), .val (.ref b21), .val (.ref b40)] [])
      refine own_step (fun _ k => XS.aload X49.here hx rfl (hb hby at_231) rfl rfl k) ?_
      show own_Wp p e below _ T49 (mkF m 233 #[.val (.int p0), .val (.int p1), .val (.int p2), .val (.int p3), .val (.int c1), .val (.int c2), .val (.int c3), .val (.int c4), .val (.int c5), .val (.int c6), .val (.ref b8), .val (.ref b21), .val (.ref b40)] [(.ref b40)])
      obtain ⟨_, T50, L50, X50, hQ50, st50⟩ := own_callV X49 hx hZ hown (hw _ (List.mem_of_getElem? (i := 64) rfl)) (hw _ (List.mem_of_getElem? (i := 65) rfl)) (notFace_of_selects (args := #[]) (mvT hZ (hw _ (List.mem_of_getElem? (i := 67) rfl)))) (hw _ (List.mem_of_getElem? (i := 67) rfl)) (hw _ (List.mem_of_getElem? (i := 66) rfl)) (hw _ (List.mem_of_getElem? (i := 32) rfl)) (hw _ (List.mem_of_getElem? (i := 68) rfl)) (by decide) F47_0 (rm11_10 l Z a0 hw hS [] b40 T47.heap n0 O47 F47_3) (W := 0) (by decide) (by decide) [] rfl (lenOf pd12 rfl) (Ls := #[.val (.int p0), .val (.int p1), .val (.int p2), .val (.int p3), .val (.int c1), .val (.int c2), .val (.int c3), .val (.int c4), .val (.int c5), .val (.int c6), .val (.ref b8), .val (.ref b21), .val (.ref b40)]) (by rw [hml]; rfl) (rest := []) (Nat.le_of_eq rfl) (hb hby at_233) e49 (by decide) (by decide)
      refine st50 _ ?_
      obtain ⟨rfl, N50q, e50⟩ := hQ50
      have N50 := Fr.app N49 N50q
      show own_Wp p e below _ T50 (mkF m 236 #[.val (.int p0), .val (.int p1), .val (.int p2), .val (.int p3), .val (.int c1), .val (.int c2), .val (.int c3), .val (.int c4), .val (.int c5), .val (.int c6), .val (.ref b8), .val (.ref b21), .val (.ref b40)] [.null])
      refine own_step (fun _ k => XS.ifnonnullNo X50.here hx rfl (hb hby at_236) rfl k) ?_
      show own_Wp p e below _ T50 (mkF m 239 #[.val (.int p0), .val (.int p1), .val (.int p2), .val (.int p3), .val (.int c1), .val (.int c2), .val (.int c3), .val (.int c4), .val (.int c5), .val (.int c6), .val (.ref b8), .val (.ref b21), .val (.ref b40)] [])
      refine own_step (fun _ k => XS.aload X50.here hx rfl (hb hby at_239) rfl rfl k) ?_
      show own_Wp p e below _ T50 (mkF m 241 #[.val (.int p0), .val (.int p1), .val (.int p2), .val (.int p3), .val (.int c1), .val (.int c2), .val (.int c3), .val (.int c4), .val (.int c5), .val (.int c6), .val (.ref b8), .val (.ref b21), .val (.ref b40)] [(.ref b40)])
      obtain ⟨_, T51, L51, X51, hQ51, st51⟩ := own_callV X50 hx hZ hown (hw _ (List.mem_of_getElem? (i := 69) rfl)) (hw _ (List.mem_of_getElem? (i := 70) rfl)) (notFace_of_selects (args := #[]) (mvT hZ (hw _ (List.mem_of_getElem? (i := 72) rfl)))) (hw _ (List.mem_of_getElem? (i := 72) rfl)) (hw _ (List.mem_of_getElem? (i := 71) rfl)) (hw _ (List.mem_of_getElem? (i := 32) rfl)) (hw _ (List.mem_of_getElem? (i := 73) rfl)) (by decide) F47_0 (rm12_11 l Z a0 hw hS [] b40 c4 T47.heap n0 O47 F47_4 hc4) (W := 0) (by decide) (by decide) [] rfl (lenOf pd13 rfl) (Ls := #[.val (.int p0), .val (.int p1), .val (.int p2), .val (.int p3), .val (.int c1), .val (.int c2), .val (.int c3), .val (.int c4), .val (.int c5), .val (.int c6), .val (.ref b8), .val (.ref b21), .val (.ref b40)]) (by rw [hml]; rfl) (rest := []) (Nat.le_of_eq rfl) (hb hby at_241) e50 (by decide) (by decide)
      refine st51 _ ?_
      obtain ⟨rfl, N51q, e51⟩ := hQ51
      have N51 := Fr.app N50 N51q
      show own_Wp p e below _ T51 (mkF m 244 #[.val (.int p0), .val (.int p1), .val (.int p2), .val (.int p3), .val (.int c1), .val (.int c2), .val (.int c3), .val (.int c4), .val (.int c5), .val (.int c6), .val (.ref b8), .val (.ref b21), .val (.ref b40)] [(.int c4)])
      refine own_step (fun _ k => XS.iload X51.here hx rfl (hb hby at_244) rfl k) ?_
      show own_Wp p e below _ T51 (mkF m 246 #[.val (.int p0), .val (.int p1), .val (.int p2), .val (.int p3), .val (.int c1), .val (.int c2), .val (.int c3), .val (.int c4), .val (.int c5), .val (.int c6), .val (.ref b8), .val (.ref b21), .val (.ref b40)] [(.int c4), (.int c4)])
      refine own_step (fun _ k => XS.icmpNo X51.here hx rfl (hb hby at_246) rfl (teq (rfl : c4 = c4)).2 k) ?_
      show own_Wp p e below _ T51 (mkF m 249 #[.val (.int p0), .val (.int p1), .val (.int p2), .val (.int p3), .val (.int c1), .val (.int c2), .val (.int c3), .val (.int c4), .val (.int c5), .val (.int c6), .val (.ref b8), .val (.ref b21), .val (.ref b40)] [])
      refine own_step (fun _ k => XS.aload X51.here hx rfl (hb hby at_249) rfl rfl k) ?_
      show own_Wp p e below _ T51 (mkF m 251 #[.val (.int p0), .val (.int p1), .val (.int p2), .val (.int p3), .val (.int c1), .val (.int c2), .val (.int c3), .val (.int c4), .val (.int c5), .val (.int c6), .val (.ref b8), .val (.ref b21), .val (.ref b40)] [(.ref b40)])
      obtain ⟨_, T52, L52, X52, hQ52, st52⟩ := own_callV X51 hx hZ hown (hw _ (List.mem_of_getElem? (i := 74) rfl)) (hw _ (List.mem_of_getElem? (i := 75) rfl)) (notFace_of_selects (args := #[]) (mvT hZ (hw _ (List.mem_of_getElem? (i := 77) rfl)))) (hw _ (List.mem_of_getElem? (i := 77) rfl)) (hw _ (List.mem_of_getElem? (i := 76) rfl)) (hw _ (List.mem_of_getElem? (i := 32) rfl)) (hw _ (List.mem_of_getElem? (i := 78) rfl)) (by decide) F47_0 (rm13_12 l Z a0 hw hS [] b40 c5 T47.heap n0 O47 F47_5 hc5) (W := 0) (by decide) (by decide) [] rfl (lenOf pd13 rfl) (Ls := #[.val (.int p0), .val (.int p1), .val (.int p2), .val (.int p3), .val (.int c1), .val (.int c2), .val (.int c3), .val (.int c4), .val (.int c5), .val (.int c6), .val (.ref b8), .val (.ref b21), .val (.ref b40)]) (by rw [hml]; rfl) (rest := []) (Nat.le_of_eq rfl) (hb hby at_251) e51 (by decide) (by decide)
      refine st52 _ ?_
      obtain ⟨rfl, N52q, e52⟩ := hQ52
      have N52 := Fr.app N51 N52q
      show own_Wp p e below _ T52 (mkF m 254 #[.val (.int p0), .val (.int p1), .val (.int p2), .val (.int p3), .val (.int c1), .val (.int c2), .val (.int c3), .val (.int c4), .val (.int c5), .val (.int c6), .val (.ref b8), .val (.ref b21), .val (.ref b40)] [(.int c5)])
      refine own_step (fun _ k => XS.iload X52.here hx rfl (hb hby at_254) rfl k) ?_
      show own_Wp p e below _ T52 (mkF m 256 #[.val (.int p0), .val (.int p1), .val (.int p2), .val (.int p3), .val (.int c1), .val (.int c2), .val (.int c3), .val (.int c4), .val (.int c5), .val (.int c6), .val (.ref b8), .val (.ref b21), .val (.ref b40)] [(.int c5), (.int c5)])
      refine own_step (fun _ k => XS.icmpNo X52.here hx rfl (hb hby at_256) rfl (teq (rfl : c5 = c5)).2 k) ?_
      show own_Wp p e below _ T52 (mkF m 259 #[.val (.int p0), .val (.int p1), .val (.int p2), .val (.int p3), .val (.int c1), .val (.int c2), .val (.int c3), .val (.int c4), .val (.int c5), .val (.int c6), .val (.ref b8), .val (.ref b21), .val (.ref b40)] [])
      refine own_step (fun _ k => XS.aload X52.here hx rfl (hb hby at_259) rfl rfl k) ?_
      show own_Wp p e below _ T52 (mkF m 261 #[.val (.int p0), .val (.int p1), .val (.int p2), .val (.int p3), .val (.int c1), .val (.int c2), .val (.int c3), .val (.int c4), .val (.int c5), .val (.int c6), .val (.ref b8), .val (.ref b21), .val (.ref b40)] [(.ref b40)])
      obtain ⟨_, T53, L53, X53, hQ53, st53⟩ := own_callV X52 hx hZ hown (hw _ (List.mem_of_getElem? (i := 79) rfl)) (hw _ (List.mem_of_getElem? (i := 80) rfl)) (notFace_of_selects (args := #[]) (mvT hZ (hw _ (List.mem_of_getElem? (i := 82) rfl)))) (hw _ (List.mem_of_getElem? (i := 82) rfl)) (hw _ (List.mem_of_getElem? (i := 81) rfl)) (hw _ (List.mem_of_getElem? (i := 32) rfl)) (hw _ (List.mem_of_getElem? (i := 83) rfl)) (by decide) F47_0 (rm14_13 l Z a0 hw hS [] b40 c6 T47.heap n0 O47 F47_6 hc6) (W := 0) (by decide) (by decide) [] rfl (lenOf pd13 rfl) (Ls := #[.val (.int p0), .val (.int p1), .val (.int p2), .val (.int p3), .val (.int c1), .val (.int c2), .val (.int c3), .val (.int c4), .val (.int c5), .val (.int c6), .val (.ref b8), .val (.ref b21), .val (.ref b40)]) (by rw [hml]; rfl) (rest := []) (Nat.le_of_eq rfl) (hb hby at_261) e52 (by decide) (by decide)
      refine st53 _ ?_
      obtain ⟨rfl, N53q, e53⟩ := hQ53
      have N53 := Fr.app N52 N53q
      show own_Wp p e below _ T53 (mkF m 264 #[.val (.int p0), .val (.int p1), .val (.int p2), .val (.int p3), .val (.int c1), .val (.int c2), .val (.int c3), .val (.int c4), .val (.int c5), .val (.int c6), .val (.ref b8), .val (.ref b21), .val (.ref b40)] [(.int c6)])
      refine own_step (fun _ k => XS.iload X53.here hx rfl (hb hby at_264) rfl k) ?_
      show own_Wp p e below _ T53 (mkF m 266 #[.val (.int p0), .val (.int p1), .val (.int p2), .val (.int p3), .val (.int c1), .val (.int c2), .val (.int c3), .val (.int c4), .val (.int c5), .val (.int c6), .val (.ref b8), .val (.ref b21), .val (.ref b40)] [(.int c6), (.int c6)])
      refine own_step (fun _ k => XS.icmpNo X53.here hx rfl (hb hby at_266) rfl (teq (rfl : c6 = c6)).2 k) ?_
      show own_Wp p e below _ T53 (mkF m 269 #[.val (.int p0), .val (.int p1), .val (.int p2), .val (.int p3), .val (.int c1), .val (.int c2), .val (.int c3), .val (.int c4), .val (.int c5), .val (.int c6), .val (.ref b8), .val (.ref b21), .val (.ref b40)] [])
      refine own_step (fun _ k => XS.iconst X53.here hx rfl (hb hby at_269) k) ?_
      show own_Wp p e below _ T53 (mkF m 270 #[.val (.int p0), .val (.int p1), .val (.int p2), .val (.int p3), .val (.int c1), .val (.int c2), .val (.int c3), .val (.int c4), .val (.int c5), .val (.int c6), .val (.ref b8), .val (.ref b21), .val (.ref b40)] [(.int (1 : Int32))])
      refine own_step (fun _ k => XS.goto X53.here hx rfl (pc0 := 270) (pc' := 274) rfl (hb hby at_270) (by decide) (by decide) k) ?_
      show own_Wp p e below _ T53 (mkF m 274 #[.val (.int p0), .val (.int p1), .val (.int p2), .val (.int p3), .val (.int c1), .val (.int c2), .val (.int c3), .val (.int c4), .val (.int c5), .val (.int c6), .val (.ref b8), .val (.ref b21), .val (.ref b40)] [(.int (1 : Int32))])
      exact own_retN X53 hx (t := .boolean) hret (by simp) hlk (hb hby at_274) (by decide) (by decide) ⟨rfl, N53⟩
    · skip
      refine own_step (fun _ k => XS.ifNo X17.here hx rfl (hb hby at_130) rfl ((if0 _ _).trans (feq hc20).1) k) ?_
      show own_Wp p e below _ T17 (mkF m 133 #[.val (.int p0), .val (.int p1), .val (.int p2), .val (.int p3), .val (.int c1), .val (.int c2), .val (.int c3), .val (.int c4), .val (.int c5), .val (.int c6), .val (.ref b8), .unset, .unset] [])
      refine own_step (fun _ k => XS.aconstNull X17.here hx rfl (hb hby at_133) k) ?_
      show own_Wp p e below _ T17 (mkF m 134 #[.val (.int p0), .val (.int p1), .val (.int p2), .val (.int p3), .val (.int c1), .val (.int c2), .val (.int c3), .val (.int c4), .val (.int c5), .val (.int c6), .val (.ref b8), .unset, .unset] [.null])
      refine own_step (fun _ k => XS.goto X17.here hx rfl (pc0 := 134) (pc' := 171) rfl (hb hby at_134) (by decide) (by decide) k) ?_
      show own_Wp p e below _ T17 (mkF m 171 #[.val (.int p0), .val (.int p1), .val (.int p2), .val (.int p3), .val (.int c1), .val (.int c2), .val (.int c3), .val (.int c4), .val (.int c5), .val (.int c6), .val (.ref b8), .unset, .unset] [.null])
      refine own_step (fun _ k => XS.astore X17.here hx rfl (hb hby at_171) rfl rfl (l' := #[.val (.int p0), .val (.int p1), .val (.int p2), .val (.int p3), .val (.int c1), .val (.int c2), .val (.int c3), .val (.int c4), .val (.int c5), .val (.int c6), .val (.ref b8), .val .null, .unset]) rfl k) ?_
      show own_Wp p e below _ T17 (mkF m 173 #[.val (.int p0), .val (.int p1), .val (.int p2), .val (.int p3), .val (.int c1), .val (.int c2), .val (.int c3), .val (.int c4), .val (.int c5), .val (.int c6), .val (.ref b8), .val .null, .unset] [])
      obtain ⟨T54, h54, X54, e54, E54, A54, D54, -, st54⟩ := newO X17 hx hZ hown (hw _ (List.mem_of_getElem? (i := 30) rfl)) (hw _ (List.mem_of_getElem? (i := 31) rfl)) (hw _ (List.mem_of_getElem? (i := 32) rfl)) rfl (g := (mkF m 173 #[.val (.int p0), .val (.int p1), .val (.int p2), .val (.int p3), .val (.int c1), .val (.int c2), .val (.int c3), .val (.int c4), .val (.int c5), .val (.int c6), .val (.ref b8), .val .null, .unset] [])) rfl (hb hby at_173) (by decide) (by decide)
      obtain ⟨b54, z54⟩ : ∃ z, z = T17.heap.size := ⟨_, rfl⟩
      rw [← z54] at A54 D54 st54
      refine own_step st54 ?_
      have g54 : n0 ≤ b54 := Nat.le_trans (O17.1 ▸ O17.2.1) (Nat.le_of_eq z54.symm)
      have ne54_0 : b8 ≠ b54 := Nat.ne_of_lt (Nat.lt_of_lt_of_le F17_0.lt (Nat.le_of_eq z54.symm))
      have f55 := (V13.keep K17q (ninS (Ne.symm ne9_0) nin0))
      have ne54_1 : b9 ≠ b54 := Nat.ne_of_lt (Nat.lt_of_lt_of_le f55.lt (Nat.le_of_eq z54.symm))
      have ne54_2 : b18 ≠ b54 := Nat.ne_of_lt (Nat.lt_of_lt_of_le F17_3.lt (Nat.le_of_eq z54.symm))
      have y54 : h0.size ≤ b54 := Nat.le_trans (K17.1) (Nat.le_of_eq z54.symm)
      have O54 := O17.ext E54
      have K54 : Keep h0 h54 [] := K17.ext E54
      have F54_43 : Fld Z h54 b54 "com/example/fieldnote/fieldnote/text/TextSyntax$Entry" "name" "Ljava/lang/String;" .null := D54 (Or.inl (hw _ (List.mem_of_getElem? (i := 43) rfl))) (ty := (.object "java/lang/String")) (by decide)
      have F54_45 : Fld Z h54 b54 "com/example/fieldnote/fieldnote/text/TextSyntax$Entry" "place" "I" (.int (0 : Int32)) := D54 (Or.inl (hw _ (List.mem_of_getElem? (i := 45) rfl))) (ty := .int) (by decide)
      have F54_47 : Fld Z h54 b54 "com/example/fieldnote/fieldnote/text/TextSyntax$Entry" "field" "Lcom/example/fieldnote/fieldnote/schema/Field;" .null := D54 (Or.inl (hw _ (List.mem_of_getElem? (i := 47) rfl))) (ty := (.object "com/example/fieldnote/fieldnote/schema/Field")) (by decide)
      have F54_49 : Fld Z h54 b54 "com/example/fieldnote/fieldnote/text/TextSyntax$Entry" "colon" "Z" (.int (0 : Int32)) := D54 (Or.inl (hw _ (List.mem_of_getElem? (i := 49) rfl))) (ty := .boolean) (by decide)
      have F54_51 : Fld Z h54 b54 "com/example/fieldnote/fieldnote/text/TextSyntax$Entry" "inList" "Z" (.int (0 : Int32)) := D54 (Or.inl (hw _ (List.mem_of_getElem? (i := 51) rfl))) (ty := .boolean) (by decide)
      have F54_53 : Fld Z h54 b54 "com/example/fieldnote/fieldnote/text/TextSyntax$Entry" "messages" "Z" (.int (0 : Int32)) := D54 (Or.inl (hw _ (List.mem_of_getElem? (i := 53) rfl))) (ty := .boolean) (by decide)
      show own_Wp p e below _ T54 (mkF m 176 #[.val (.int p0), .val (.int p1), .val (.int p2), .val (.int p3), .val (.int c1), .val (.int c2), .val (.int c3), .val (.int c4), .val (.int c5), .val (.int c6), .val (.ref b8), .val .null, .unset] [(.ref b54)])
      refine own_step (fun _ k => XS.dup X54.here hx rfl (hb hby at_176) rfl rfl k) ?_
      show own_Wp p e below _ T54 (mkF m 177 #[.val (.int p0), .val (.int p1), .val (.int p2), .val (.int p3), .val (.int c1), .val (.int c2), .val (.int c3), .val (.int c4), .val (.int c5), .val (.int c6), .val (.ref b8), .val .null, .unset] [(.ref b54), (.ref b54)])
      obtain ⟨_, T56, L56, X56, hQ56, st56⟩ := own_callN X54 hx hZ rfl hown (hw _ (List.mem_of_getElem? (i := 33) rfl)) (hw _ (List.mem_of_getElem? (i := 34) rfl)) (hw _ (List.mem_of_getElem? (i := 32) rfl)) (hw _ (List.mem_of_getElem? (i := 35) rfl)) (by decide) (rm7_5 l Z a0 hw hS [] b54 h54 n0 O54) (b := b54) (W := 1) (by decide) (by decide) [] rfl (lenOf pd8 rfl) (Ls := #[.val (.int p0), .val (.int p1), .val (.int p2), .val (.int p3), .val (.int c1), .val (.int c2), .val (.int c3), .val (.int c4), .val (.int c5), .val (.int c6), .val (.ref b8), .val .null, .unset]) (by rw [hml]; rfl) (rest := [(.ref b54)]) (Nat.le_of_eq rfl) (hb hby at_177) e54 (by decide) (by decide)
      refine st56 _ ?_
      obtain ⟨rfl, N56q, e56⟩ := hQ56
      have N56 := Fr.app N17 N56q
      show own_Wp p e below _ T56 (mkF m 180 #[.val (.int p0), .val (.int p1), .val (.int p2), .val (.int p3), .val (.int c1), .val (.int c2), .val (.int c3), .val (.int c4), .val (.int c5), .val (.int c6), .val (.ref b8), .val .null, .unset] [(.ref b54)])
      refine own_step (fun _ k => XS.astore X56.here hx rfl (hb hby at_180) rfl rfl (l' := #[.val (.int p0), .val (.int p1), .val (.int p2), .val (.int p3), .val (.int c1), .val (.int c2), .val (.int c3), .val (.int c4), .val (.int c5), .val (.int c6), .val (.ref b8), .val .null, .val (.ref b54)]) rfl k) ?_
      show own_Wp p e below _ T56 (mkF m 182 #[.val (.int p0), .val (.int p1), .val (.int p2), .val (.int p3), .val (.int c1), .val (.int c2), .val (.int c3), .val (.int c4), .val (.int c5), .val (.int c6), .val (.ref b8), .val .null, .val (.ref b54)] [])
      refine own_step (fun _ k => XS.aload X56.here hx rfl (hb hby at_182) rfl rfl k) ?_
      show own_Wp p e below _ T56 (mkF m 184 #[.val (.int p0), .val (.int p1), .val (.int p2), .val (.int p3), .val (.int c1), .val (.int c2), .val (.int c3), .val (.int c4), .val (.int c5), .val (.int c6), .val (.ref b8), .val .null, .val (.ref b54)] [(.ref b54)])
      refine own_step (fun _ k => XS.aload X56.here hx rfl (hb hby at_184) rfl rfl k) ?_
      show own_Wp p e below _ T56 (mkF m 186 #[.val (.int p0), .val (.int p1), .val (.int p2), .val (.int p3), .val (.int c1), .val (.int c2), .val (.int c3), .val (.int c4), .val (.int c5), .val (.int c6), .val (.ref b8), .val .null, .val (.ref b54)] [(.ref b8), (.ref b54)])
      refine own_step (fun _ k => XS.iloadN X56.here hx rfl (hb hby at_186) rfl k) ?_
      show own_Wp p e below _ T56 (mkF m 187 #[.val (.int p0), .val (.int p1), .val (.int p2), .val (.int p3), .val (.int c1), .val (.int c2), .val (.int c3), .val (.int c4), .val (.int c5), .val (.int c6), .val (.ref b8), .val .null, .val (.ref b54)] [(.int p0), (.ref b8), (.ref b54)])
      refine own_step (fun _ k => XS.aconstNull X56.here hx rfl (hb hby at_187) k) ?_
      show own_Wp p e below _ T56 (mkF m 188 #[.val (.int p0), .val (.int p1), .val (.int p2), .val (.int p3), .val (.int c1), .val (.int c2), .val (.int c3), .val (.int c4), .val (.int c5), .val (.int c6), .val (.ref b8), .val .null, .val (.ref b54)] [.null, (.int p0), (.ref b8), (.ref b54)])
      refine own_step (fun _ k => XS.iload X56.here hx rfl (hb hby at_188) rfl k) ?_
      show own_Wp p e below _ T56 (mkF m 190 #[.val (.int p0), .val (.int p1), .val (.int p2), .val (.int p3), .val (.int c1), .val (.int c2), .val (.int c3), .val (.int c4), .val (.int c5), .val (.int c6), .val (.ref b8), .val .null, .val (.ref b54)] [(.int c1), .null, (.int p0), (.ref b8), (.ref b54)])
      refine own_step (fun _ k => XS.iload X56.here hx rfl (hb hby at_190) rfl k) ?_
      show own_Wp p e below _ T56 (mkF m 192 #[.val (.int p0), .val (.int p1), .val (.int p2), .val (.int p3), .val (.int c1), .val (.int c2), .val (.int c3), .val (.int c4), .val (.int c5), .val (.int c6), .val (.ref b8), .val .null, .val (.ref b54)] [(.int c2), (.int c1), .null, (.int p0), (.ref b8), (.ref b54)])
      refine own_step (fun _ k => XS.iload X56.here hx rfl (hb hby at_192) rfl k) ?_
      show own_Wp p e below _ T56 (mkF m 194 #[.val (.int p0), .val (.int p1), .val (.int p2), .val (.int p3), .val (.int c1), .val (.int c2), .val (.int c3), .val (.int c4), .val (.int c5), .val (.int c6), .val (.ref b8), .val .null, .val (.ref b54)] [(.int c3), (.int c2), (.int c1), .null, (.int p0), (.ref b8), (.ref b54)])
      obtain ⟨_, T57, L57, X57, hQ57, st57⟩ := own_callV X56 hx hZ hown (hw _ (List.mem_of_getElem? (i := 37) rfl)) (hw _ (List.mem_of_getElem? (i := 38) rfl)) (notFace_of_selects (args := #[]) (mvT hZ (hw _ (List.mem_of_getElem? (i := 40) rfl)))) (hw _ (List.mem_of_getElem? (i := 40) rfl)) (hw _ (List.mem_of_getElem? (i := 39) rfl)) (hw _ (List.mem_of_getElem? (i := 32) rfl)) (hw _ (List.mem_of_getElem? (i := 41) rfl)) (by decide) A54 (rm8_6 l Z a0 hw hS [] b54 b8 p0 c1 c2 c3 h54 n0 O54 A54 F54_43 F54_45 F54_47 F54_49 F54_51 F54_53 g54 hc1 hc2 hc3) (W := 0) (by decide) (by decide) [(.ref b8), (.int p0), .null, (.int c1), (.int c2), (.int c3)] rfl (lenOf pd9 rfl) (Ls := #[.val (.int p0), .val (.int p1), .val (.int p2), .val (.int p3), .val (.int c1), .val (.int c2), .val (.int c3), .val (.int c4), .val (.int c5), .val (.int c6), .val (.ref b8), .val .null, .val (.ref b54)]) (by rw [hml]; rfl) (rest := []) (Nat.le_of_eq rfl) (hb hby at_194) e56 (by decide) (by decide)
      refine st57 _ ?_
      obtain ⟨rfl, N57q, K57q, F57_0, F57_1, F57_2, F57_3, F57_4, F57_5, F57_6⟩ := hQ57
      have N57 := Fr.app N56 N57q
      have O57 := O54.keep K57q (allS g54 all0)
      have K57 : Keep h0 T57.heap [] := Keep.trans K54 K57q (allS (Or.inr y54) all0)
      show own_Wp p e below _ T57 (mkF m 197 #[.val (.int p0), .val (.int p1), .val (.int p2), .val (.int p3), .val (.int c1), .val (.int c2), .val (.int c3), .val (.int c4), .val (.int c5), .val (.int c6), .val (.ref b8), .val .null, .val (.ref b54)] [])
      refine own_step (fun _ k => XS.aload X57.here hx rfl (hb hby at_197) rfl rfl k) ?_
      show own_Wp p e below _ T57 (mkF m 199 #[.val (.int p0), .val (.int p1), .val (.int p2), .val (.int p3), .val (.int c1), .val (.int c2), .val (.int c3), .val (.int c4), .val (.int c5), .val (.int c6), .val (.ref b8), .val .null, .val (.ref b54)] [(.ref b54)])
      refine own_step (fun _ k => XS.aload X57.here hx rfl (hb hby at_199) rfl rfl k) ?_
      show own_Wp p e below _ T57 (mkF m 201 #[.val (.int p0), .val (.int p1), .val (.int p2), .val (.int p3), .val (.int c1), .val (.int c2), .val (.int c3), .val (.int c4), .val (.int c5), .val (.int c6), .val (.ref b8), .val .null, .val (.ref b54)] [.null, (.ref b54)])
      refine own_step (fun _ k => XS.iloadN X57.here hx rfl (hb hby at_201) rfl k) ?_
      show own_Wp p e below _ T57 (mkF m 202 #[.val (.int p0), .val (.int p1), .val (.int p2), .val (.int p3), .val (.int c1), .val (.int c2), .val (.int c3), .val (.int c4), .val (.int c5), .val (.int c6), .val (.ref b8), .val .null, .val (.ref b54)] [(.int p1), .null, (.ref b54)])
      refine own_step (fun _ k => XS.aconstNull X57.here hx rfl (hb hby at_202) k) ?_
      show own_Wp p e below _ T57 (mkF m 203 #[.val (.int p0), .val (.int p1), .val (.int p2), .val (.int p3), .val (.int c1), .val (.int c2), .val (.int c3), .val (.int c4), .val (.int c5), .val (.int c6), .val (.ref b8), .val .null, .val (.ref b54)] [.null, (.int p1), .null, (.ref b54)])
      refine own_step (fun _ k => XS.iload X57.here hx rfl (hb hby at_203) rfl k) ?_
      show own_Wp p e below _ T57 (mkF m 205 #[.val (.int p0), .val (.int p1), .val (.int p2), .val (.int p3), .val (.int c1), .val (.int c2), .val (.int c3), .val (.int c4), .val (.int c5), .val (.int c6), .val (.ref b8), .val .null, .val (.ref b54)] [(.int c4), .null, (.int p1), .null, (.ref b54)])
      refine own_step (fun _ k => XS.iload X57.here hx rfl (hb hby at_205) rfl k) ?_
      show own_Wp p e below _ T57 (mkF m 207 #[.val (.int p0), .val (.int p1), .val (.int p2), .val (.int p3), .val (.int c1), .val (.int c2), .val (.int c3), .val (.int c4), .val (.int c5), .val (.int c6), .val (.ref b8), .val .null, .val (.ref b54)] [(.int c5), (.int c4), .null, (.int p1), .null, (.ref b54)])
      refine own_step (fun _ k => XS.iload X57.here hx rfl (hb hby at_207) rfl k) ?_
      show own_Wp p e below _ T57 (mkF m 209 #[.val (.int p0), .val (.int p1), .val (.int p2), .val (.int p3), .val (.int c1), .val (.int c2), .val (.int c3), .val (.int c4), .val (.int c5), .val (.int c6), .val (.ref b8), .val .null, .val (.ref b54)] [(.int c6), (.int c5), (.int c4), .null, (.int p1), .null, (.ref b54)])
      obtain ⟨_, T58, L58, X58, hQ58, st58⟩ := own_callV X57 hx hZ hown (hw _ (List.mem_of_getElem? (i := 37) rfl)) (hw _ (List.mem_of_getElem? (i := 38) rfl)) (notFace_of_selects (args := #[]) (mvT hZ (hw _ (List.mem_of_getElem? (i := 40) rfl)))) (hw _ (List.mem_of_getElem? (i := 40) rfl)) (hw _ (List.mem_of_getElem? (i := 39) rfl)) (hw _ (List.mem_of_getElem? (i := 32) rfl)) (hw _ (List.mem_of_getElem? (i := 41) rfl)) (by decide) F57_0 (rm8_14 l Z a0 hw hS [] b54 p1 c4 c5 c6 b8 p0 c1 c2 c3 T57.heap n0 O57 F57_0 F57_1 F57_2 F57_3 F57_4 F57_5 F57_6 g54 hc4 hc5 hc6) (W := 0) (by decide) (by decide) [.null, (.int p1), .null, (.int c4), (.int c5), (.int c6)] rfl (lenOf pd9 rfl) (Ls := #[.val (.int p0), .val (.int p1), .val (.int p2), .val (.int p3), .val (.int c1), .val (.int c2), .val (.int c3), .val (.int c4), .val (.int c5), .val (.int c6), .val (.ref b8), .val .null, .val (.ref b54)]) (by rw [hml]; rfl) (rest := []) (Nat.le_of_eq rfl) (hb hby at_209) rfl (by decide) (by decide)
      refine st58 _ ?_
      obtain ⟨rfl, N58q, K58q, F58_0, F58_1, F58_2, F58_3, F58_4, F58_5, F58_6⟩ := hQ58
      have N58 := Fr.app N57 N58q
      have O58 := O57.keep K58q (allS g54 all0)
      have K58 : Keep h0 T58.heap [] := Keep.trans K57 K58q (allS (Or.inr y54) all0)
      show own_Wp p e below _ T58 (mkF m 212 #[.val (.int p0), .val (.int p1), .val (.int p2), .val (.int p3), .val (.int c1), .val (.int c2), .val (.int c3), .val (.int c4), .val (.int c5), .val (.int c6), .val (.ref b8), .val .null, .val (.ref b54)] [])
      refine own_step (fun _ k => XS.aload X58.here hx rfl (hb hby at_212) rfl rfl k) ?_
      show own_Wp p e below _ T58 (mkF m 214 #[.val (.int p0), .val (.int p1), .val (.int p2), .val (.int p3), .val (.int c1), .val (.int c2), .val (.int c3), .val (.int c4), .val (.int c5), .val (.int c6), .val (.ref b8), .val .null, .val (.ref b54)] [(.ref b54)])
      obtain ⟨_, T59, L59, X59, hQ59, st59⟩ := own_callV X58 hx hZ hown (hw _ (List.mem_of_getElem? (i := 54) rfl)) (hw _ (List.mem_of_getElem? (i := 55) rfl)) (notFace_of_selects (args := #[]) (mvT hZ (hw _ (List.mem_of_getElem? (i := 57) rfl)))) (hw _ (List.mem_of_getElem? (i := 57) rfl)) (hw _ (List.mem_of_getElem? (i := 56) rfl)) (hw _ (List.mem_of_getElem? (i := 32) rfl)) (hw _ (List.mem_of_getElem? (i := 58) rfl)) (by decide) F58_0 (rm9_15 l Z a0 hw hS [] b54 T58.heap n0 O58 F58_1) (W := 0) (by decide) (by decide) [] rfl (lenOf pd10 rfl) (Ls := #[.val (.int p0), .val (.int p1), .val (.int p2), .val (.int p3), .val (.int c1), .val (.int c2), .val (.int c3), .val (.int c4), .val (.int c5), .val (.int c6), .val (.ref b8), .val .null, .val (.ref b54)]) (by rw [hml]; rfl) (rest := []) (Nat.le_of_eq rfl) (hb hby at_214) rfl (by decide) (by decide)
      refine st59 _ ?_
      obtain ⟨rfl, N59q, e59⟩ := hQ59
      have N59 := Fr.app N58 N59q
      show own_Wp p e below _ T59 (mkF m 217 #[.val (.int p0), .val (.int p1), .val (.int p2), .val (.int p3), .val (.int c1), .val (.int c2), .val (.int c3), .val (.int c4), .val (.int c5), .val (.int c6), .val (.ref b8), .val .null, .val (.ref b54)] [.null])
      refine own_step (fun _ k => XS.aload X59.here hx rfl (hb hby at_217) rfl rfl k) ?_
      show own_Wp p e below _ T59 (mkF m 219 #[.val (.int p0), .val (.int p1), .val (.int p2), .val (.int p3), .val (.int c1), .val (.int c2), .val (.int c3), .val (.int c4), .val (.int c5), .val (.int c6), .val (.ref b8), .val .null, .val (.ref b54)] [.null, .null])
      refine own_step (fun _ k => Jvm.RoadKit.acmp (g := (mkF m 219 #[.val (.int p0), .val (.int p1), .val (.int p2), .val (.int p3), .val (.int c1), .val (.int c2), .val (.int c3), .val (.int c4), .val (.int c5), .val (.int c6), .val (.ref b8), .val .null, .val (.ref b54)] [.null, .null])) X59 hx rfl rfl rfl (pc0 := 219) (pc' := 222) (same := true) rfl (hb hby at_219) rfl (decide_eq_true rfl) (by decide) (by decide) k) ?_
      show own_Wp p e below _ T59 (mkF m 222 #[.val (.int p0), .val (.int p1), .val (.int p2), .val (.int p3), .val (.int c1), .val (.int c2), .val (.int c3), .val (.int c4), .val (.int c5), .val (.int c6), .val (.ref b8), .val .null, .val (.ref b54)] [])
      refine own_step (fun _ k => XS.aload X59.here hx rfl (hb hby at_222) rfl rfl k) ?_
      show own_Wp p e below _ T59 (mkF m 224 #[.val (.int p0), .val (.int p1), .val (.int p2), .val (.int p3), .val (.int c1), .val (.int c2), .val (.int c3), .val (.int c4), .val (.int c5), .val (.int c6), .val (.ref b8), .val .null, .val (.ref b54)] [(.ref b54)])
      obtain ⟨_, T60, L60, X60, hQ60, st60⟩ := own_callV X59 hx hZ hown (hw _ (List.mem_of_getElem? (i := 59) rfl)) (hw _ (List.mem_of_getElem? (i := 60) rfl)) (notFace_of_selects (args := #[]) (mvT hZ (hw _ (List.mem_of_getElem? (i := 62) rfl)))) (hw _ (List.mem_of_getElem? (i := 62) rfl)) (hw _ (List.mem_of_getElem? (i := 61) rfl)) (hw _ (List.mem_of_getElem? (i := 32) rfl)) (hw _ (List.mem_of_getElem? (i := 63) rfl)) (by decide) F58_0 (rm10_9 l Z a0 hw hS [] b54 p1 T58.heap n0 O58 F58_2) (W := 0) (by decide) (by decide) [] rfl (lenOf pd11 rfl) (Ls := #[.val (.int p0), .val (.int p1), .val (.int p2), .val (.int p3), .val (.int c1), .val (.int c2), .val (.int c3), .val (.int c4), .val (.int c5), .val (.int c6), .val (.ref b8), .val .null, .val (.ref b54)]) (by rw [hml]; rfl) (rest := []) (Nat.le_of_eq rfl) (hb hby at_224) e59 (by decide) (by decide)
      refine st60 _ ?_
      obtain ⟨rfl, N60q, e60⟩ := hQ60
      have N60 := Fr.app N59 N60q
      show own_Wp p e below _ T60 (mkF m 227 #[.val (.int p0), .val (.int p1), .val (.int p2), .val (.int p3), .val (.int c1), .val (.int c2), .val (.int c3), .val (.int c4), .val (.int c5), .val (.int c6), .val (.ref b8), .val .null, .val (.ref b54)] [(.int p1)])
      refine own_step (fun _ k => XS.iloadN X60.here hx rfl (hb hby at_227) rfl k) ?_
      show own_Wp p e below _ T60 (mkF m 228 #[.val (.int p0), .val (.int p1), .val (.int p2), .val (.int p3), .val (.int c1), .val (.int c2), .val (.int c3), .val (.int c4), .val (.int c5), .val (.int c6), .val (.ref b8), .val .null, .val (.ref b54)] [(.int p1), (.int p1)])
      refine own_step (fun _ k => XS.icmpNo X60.here hx rfl (hb hby at_228) rfl (teq (rfl : p1 = p1)).2 k) ?_
      show own_Wp p e below _ T60 (mkF m 231 #[.val (.int p0), .val (.int p1), .val (.int p2), .val (.int p3), .val (.int c1), .val (.int c2), .val (.int c3), .val (.int c4), .val (.int c5), .val (.int c6), .val (.ref b8), .val .null, .val (.ref b54)] [])
      refine own_step (fun _ k => XS.aload X60.here hx rfl (hb hby at_231) rfl rfl k) ?_
      show own_Wp p e below _ T60 (mkF m 233 #[.val (.int p0), .val (.int p1), .val (.int p2), .val (.int p3), .val (.int c1), .val (.int c2), .val (.int c3), .val (.int c4), .val (.int c5), .val (.int c6), .val (.ref b8), .val .null, .val (.ref b54)] [(.ref b54)])
      obtain ⟨_, T61, L61, X61, hQ61, st61⟩ := own_callV X60 hx hZ hown (hw _ (List.mem_of_getElem? (i := 64) rfl)) (hw _ (List.mem_of_getElem? (i := 65) rfl)) (notFace_of_selects (args := #[]) (mvT hZ (hw _ (List.mem_of_getElem? (i := 67) rfl)))) (hw _ (List.mem_of_getElem? (i := 67) rfl)) (hw _ (List.mem_of_getElem? (i := 66) rfl)) (hw _ (List.mem_of_getElem? (i := 32) rfl)) (hw _ (List.mem_of_getElem? (i := 68) rfl)) (by decide) F58_0 (rm11_10 l Z a0 hw hS [] b54 T58.heap n0 O58 F58_3) (W := 0) (by decide) (by decide) [] rfl (lenOf pd12 rfl) (Ls := #[.val (.int p0), .val (.int p1), .val (.int p2), .val (.int p3), .val (.int c1), .val (.int c2), .val (.int c3), .val (.int c4), .val (.int c5), .val (.int c6), .val (.ref b8), .val .null, .val (.ref b54)]) (by rw [hml]; rfl) (rest := []) (Nat.le_of_eq rfl) (hb hby at_233) e60 (by decide) (by decide)
      refine st61 _ ?_
      obtain ⟨rfl, N61q, e61⟩ := hQ61
      have N61 := Fr.app N60 N61q
      show own_Wp p e below _ T61 (mkF m 236 #[.val (.int p0), .val (.int p1), .val (.int p2), .val (.int p3), .val (.int c1), .val (.int c2), .val (.int c3), .val (.int c4), .val (.int c5), .val (.int c6), .val (.ref b8), .val .null, .val (.ref b54)] [.null])
      refine own_step (fun _ k => XS.ifnonnullNo X61.here hx rfl (hb hby at_236) rfl k) ?_
      show own_Wp p e below _ T61 (mkF m 239 #[.val (.int p0), .val (.int p1), .val (.int p2), .val (.int p3), .val (.int c1), .val (.int c2), .val (.int c3), .val (.int c4), .val (.int c5), .val (.int c6), .val (.ref b8), .val .null, .val (.ref b54)] [])
      refine own_step (fun _ k => XS.aload X61.here hx rfl (hb hby at_239) rfl rfl k) ?_
      show own_Wp p e below _ T61 (mkF m 241 #[.val (.int p0), .val (.int p1), .val (.int p2), .val (.int p3), .val (.int c1), .val (.int c2), .val (.int c3), .val (.int c4), .val (.int c5), .val (.int c6), .val (.ref b8), .val .null, .val (.ref b54)] [(.ref b54)])
      obtain ⟨_, T62, L62, X62, hQ62, st62⟩ := own_callV X61 hx hZ hown (hw _ (List.mem_of_getElem? (i := 69) rfl)) (hw _ (List.mem_of_getElem? (i := 70) rfl)) (notFace_of_selects (args := #[]) (mvT hZ (hw _ (List.mem_of_getElem? (i := 72) rfl)))) (hw _ (List.mem_of_getElem? (i := 72) rfl)) (hw _ (List.mem_of_getElem? (i := 71) rfl)) (hw _ (List.mem_of_getElem? (i := 32) rfl)) (hw _ (List.mem_of_getElem? (i := 73) rfl)) (by decide) F58_0 (rm12_16 l Z a0 hw hS [] b54 c4 T58.heap n0 O58 F58_4 hc4) (W := 0) (by decide) (by decide) [] rfl (lenOf pd13 rfl) (Ls := #[.val (.int p0), .val (.int p1), .val (.int p2), .val (.int p3), .val (.int c1), .val (.int c2), .val (.int c3), .val (.int c4), .val (.int c5), .val (.int c6), .val (.ref b8), .val .null, .val (.ref b54)]) (by rw [hml]; rfl) (rest := []) (Nat.le_of_eq rfl) (hb hby at_241) e61 (by decide) (by decide)
      refine st62 _ ?_
      obtain ⟨rfl, N62q, e62⟩ := hQ62
      have N62 := Fr.app N61 N62q
      show own_Wp p e below _ T62 (mkF m 244 #[.val (.int p0), .val (.int p1), .val (.int p2), .val (.int p3), .val (.int c1), .val (.int c2), .val (.int c3), .val (.int c4), .val (.int c5), .val (.int c6), .val (.ref b8), .val .null, .val (.ref b54)] [(.int c4)])
      refine own_step (fun _ k => XS.iload X62.here hx rfl (hb hby at_244) rfl k) ?_
      show own_Wp p e below _ T62 (mkF m 246 #[.val (.int p0), .val (.int p1), .val (.int p2), .val (.int p3), .val (.int c1), .val (.int c2), .val (.int c3), .val (.int c4), .val (.int c5), .val (.int c6), .val (.ref b8), .val .null, .val (.ref b54)] [(.int c4), (.int c4)])
      refine own_step (fun _ k => XS.icmpNo X62.here hx rfl (hb hby at_246) rfl (teq (rfl : c4 = c4)).2 k) ?_
      show own_Wp p e below _ T62 (mkF m 249 #[.val (.int p0), .val (.int p1), .val (.int p2), .val (.int p3), .val (.int c1), .val (.int c2), .val (.int c3), .val (.int c4), .val (.int c5), .val (.int c6), .val (.ref b8), .val .null, .val (.ref b54)] [])
      refine own_step (fun _ k => XS.aload X62.here hx rfl (hb hby at_249) rfl rfl k) ?_
      show own_Wp p e below _ T62 (mkF m 251 #[.val (.int p0), .val (.int p1), .val (.int p2), .val (.int p3), .val (.int c1), .val (.int c2), .val (.int c3), .val (.int c4), .val (.int c5), .val (.int c6), .val (.ref b8), .val .null, .val (.ref b54)] [(.ref b54)])
      obtain ⟨_, T63, L63, X63, hQ63, st63⟩ := own_callV X62 hx hZ hown (hw _ (List.mem_of_getElem? (i := 74) rfl)) (hw _ (List.mem_of_getElem? (i := 75) rfl)) (notFace_of_selects (args := #[]) (mvT hZ (hw _ (List.mem_of_getElem? (i := 77) rfl)))) (hw _ (List.mem_of_getElem? (i := 77) rfl)) (hw _ (List.mem_of_getElem? (i := 76) rfl)) (hw _ (List.mem_of_getElem? (i := 32) rfl)) (hw _ (List.mem_of_getElem? (i := 78) rfl)) (by decide) F58_0 (rm13_17 l Z a0 hw hS [] b54 c5 T58.heap n0 O58 F58_5 hc5) (W := 0) (by decide) (by decide) [] rfl (lenOf pd13 rfl) (Ls := #[.val (.int p0), .val (.int p1), .val (.int p2), .val (.int p3), .val (.int c1), .val (.int c2), .val (.int c3), .val (.int c4), .val (.int c5), .val (.int c6), .val (.ref b8), .val .null, .val (.ref b54)]) (by rw [hml]; rfl) (rest := []) (Nat.le_of_eq rfl) (hb hby at_251) e62 (by decide) (by decide)
      refine st63 _ ?_
      obtain ⟨rfl, N63q, e63⟩ := hQ63
      have N63 := Fr.app N62 N63q
      show own_Wp p e below _ T63 (mkF m 254 #[.val (.int p0), .val (.int p1), .val (.int p2), .val (.int p3), .val (.int c1), .val (.int c2), .val (.int c3), .val (.int c4), .val (.int c5), .val (.int c6), .val (.ref b8), .val .null, .val (.ref b54)] [(.int c5)])
      refine own_step (fun _ k => XS.iload X63.here hx rfl (hb hby at_254) rfl k) ?_
      show own_Wp p e below _ T63 (mkF m 256 #[.val (.int p0), .val (.int p1), .val (.int p2), .val (.int p3), .val (.int c1), .val (.int c2), .val (.int c3), .val (.int c4), .val (.int c5), .val (.int c6), .val (.ref b8), .val .null, .val (.ref b54)] [(.int c5), (.int c5)])
      refine own_step (fun _ k => XS.icmpNo X63.here hx rfl (hb hby at_256) rfl (teq (rfl : c5 = c5)).2 k) ?_
      show own_Wp p e below _ T63 (mkF m 259 #[.val (.int p0), .val (.int p1), .val (.int p2), .val (.int p3), .val (.int c1), .val (.int c2), .val (.int c3), .val (.int c4), .val (.int c5), .val (.int c6), .val (.ref b8), .val .null, .val (.ref b54)] [])
      refine own_step (fun _ k => XS.aload X63.here hx rfl (hb hby at_259) rfl rfl k) ?_
      show own_Wp p e below _ T63 (mkF m 261 #[.val (.int p0), .val (.int p1), .val (.int p2), .val (.int p3), .val (.int c1), .val (.int c2), .val (.int c3), .val (.int c4), .val (.int c5), .val (.int c6), .val (.ref b8), .val .null, .val (.ref b54)] [(.ref b54)])
      obtain ⟨_, T64, L64, X64, hQ64, st64⟩ := own_callV X63 hx hZ hown (hw _ (List.mem_of_getElem? (i := 79) rfl)) (hw _ (List.mem_of_getElem? (i := 80) rfl)) (notFace_of_selects (args := #[]) (mvT hZ (hw _ (List.mem_of_getElem? (i := 82) rfl)))) (hw _ (List.mem_of_getElem? (i := 82) rfl)) (hw _ (List.mem_of_getElem? (i := 81) rfl)) (hw _ (List.mem_of_getElem? (i := 32) rfl)) (hw _ (List.mem_of_getElem? (i := 83) rfl)) (by decide) F58_0 (rm14_18 l Z a0 hw hS [] b54 c6 T58.heap n0 O58 F58_6 hc6) (W := 0) (by decide) (by decide) [] rfl (lenOf pd13 rfl) (Ls := #[.val (.int p0), .val (.int p1), .val (.int p2), .val (.int p3), .val (.int c1), .val (.int c2), .val (.int c3), .val (.int c4), .val (.int c5), .val (.int c6), .val (.ref b8), .val .null, .val (.ref b54)]) (by rw [hml]; rfl) (rest := []) (Nat.le_of_eq rfl) (hb hby at_261) e63 (by decide) (by decide)
      refine st64 _ ?_
      obtain ⟨rfl, N64q, e64⟩ := hQ64
      have N64 := Fr.app N63 N64q
      show own_Wp p e below _ T64 (mkF m 264 #[.val (.int p0), .val (.int p1), .val (.int p2), .val (.int p3), .val (.int c1), .val (.int c2), .val (.int c3), .val (.int c4), .val (.int c5), .val (.int c6), .val (.ref b8), .val .null, .val (.ref b54)] [(.int c6)])
      refine own_step (fun _ k => XS.iload X64.here hx rfl (hb hby at_264) rfl k) ?_
      show own_Wp p e below _ T64 (mkF m 266 #[.val (.int p0), .val (.int p1), .val (.int p2), .val (.int p3), .val (.int c1), .val (.int c2), .val (.int c3), .val (.int c4), .val (.int c5), .val (.int c6), .val (.ref b8), .val .null, .val (.ref b54)] [(.int c6), (.int c6)])
      refine own_step (fun _ k => XS.icmpNo X64.here hx rfl (hb hby at_266) rfl (teq (rfl : c6 = c6)).2 k) ?_
      show own_Wp p e below _ T64 (mkF m 269 #[.val (.int p0), .val (.int p1), .val (.int p2), .val (.int p3), .val (.int c1), .val (.int c2), .val (.int c3), .val (.int c4), .val (.int c5), .val (.int c6), .val (.ref b8), .val .null, .val (.ref b54)] [])
      refine own_step (fun _ k => XS.iconst X64.here hx rfl (hb hby at_269) k) ?_
      show own_Wp p e below _ T64 (mkF m 270 #[.val (.int p0), .val (.int p1), .val (.int p2), .val (.int p3), .val (.int c1), .val (.int c2), .val (.int c3), .val (.int c4), .val (.int c5), .val (.int c6), .val (.ref b8), .val .null, .val (.ref b54)] [(.int (1 : Int32))])
      refine own_step (fun _ k => XS.goto X64.here hx rfl (pc0 := 270) (pc' := 274) rfl (hb hby at_270) (by decide) (by decide) k) ?_
      show own_Wp p e below _ T64 (mkF m 274 #[.val (.int p0), .val (.int p1), .val (.int p2), .val (.int p3), .val (.int c1), .val (.int c2), .val (.int c3), .val (.int c4), .val (.int c5), .val (.int c6), .val (.ref b8), .val .null, .val (.ref b54)] [(.int (1 : Int32))])
      exact own_retN X64 hx (t := .boolean) hret (by simp) hlk (hb hby at_274) (by decide) (by decide) ⟨rfl, N64⟩
  · skip
    refine own_step (fun _ k => XS.ifNo X0.here hx rfl (hb hby at_85) rfl ((if0 _ _).trans (feq hc7).1) k) ?_
    show own_Wp p e below _ s₁ (mkF m 88 #[.val (.int p0), .val (.int p1), .val (.int p2), .val (.int p3), .val (.int c1), .val (.int c2), .val (.int c3), .val (.int c4), .val (.int c5), .val (.int c6), .unset, .unset, .unset] [])
    refine own_step (fun _ k => XS.aconstNull X0.here hx rfl (hb hby at_88) k) ?_
    show own_Wp p e below _ s₁ (mkF m 89 #[.val (.int p0), .val (.int p1), .val (.int p2), .val (.int p3), .val (.int c1), .val (.int c2), .val (.int c3), .val (.int c4), .val (.int c5), .val (.int c6), .unset, .unset, .unset] [.null])
    refine own_step (fun _ k => XS.goto X0.here hx rfl (pc0 := 89) (pc' := 123) rfl (hb hby at_89) (by decide) (by decide) k) ?_
    show own_Wp p e below _ s₁ (mkF m 123 #[.val (.int p0), .val (.int p1), .val (.int p2), .val (.int p3), .val (.int c1), .val (.int c2), .val (.int c3), .val (.int c4), .val (.int c5), .val (.int c6), .unset, .unset, .unset] [.null])
    refine own_step (fun _ k => XS.astore X0.here hx rfl (hb hby at_123) rfl rfl (l' := #[.val (.int p0), .val (.int p1), .val (.int p2), .val (.int p3), .val (.int c1), .val (.int c2), .val (.int c3), .val (.int c4), .val (.int c5), .val (.int c6), .val .null, .unset, .unset]) rfl k) ?_
    show own_Wp p e below _ s₁ (mkF m 125 #[.val (.int p0), .val (.int p1), .val (.int p2), .val (.int p3), .val (.int c1), .val (.int c2), .val (.int c3), .val (.int c4), .val (.int c5), .val (.int c6), .val .null, .unset, .unset] [])
    refine own_step (fun _ k => XS.iloadN X0.here hx rfl (hb hby at_125) rfl k) ?_
    show own_Wp p e below _ s₁ (mkF m 126 #[.val (.int p0), .val (.int p1), .val (.int p2), .val (.int p3), .val (.int c1), .val (.int c2), .val (.int c3), .val (.int c4), .val (.int c5), .val (.int c6), .val .null, .unset, .unset] [(.int p2)])
    refine own_step (fun _ k => XS.sipush X0.here hx rfl (hb hby at_126) k) ?_
    show own_Wp p e below _ s₁ (mkF m 129 #[.val (.int p0), .val (.int p1), .val (.int p2), .val (.int p3), .val (.int c1), .val (.int c2), .val (.int c3), .val (.int c4), .val (.int c5), .val (.int c6), .val .null, .unset, .unset] [(.int (128 : Int32)), (.int p2)])
    refine own_step (fun _ k => XS.iand X0.here hx rfl (hb hby at_129) rfl k) ?_
    show own_Wp p e below _ s₁ (mkF m 130 #[.val (.int p0), .val (.int p1), .val (.int p2), .val (.int p3), .val (.int c1), .val (.int c2), .val (.int c3), .val (.int c4), .val (.int c5), .val (.int c6), .val .null, .unset, .unset] [(.int (p2 &&& (128 : Int32)))])
    by_cases hc65 : (p2 &&& (128 : Int32)) = (0 : Int32)
    · skip
      refine own_step (fun _ k => XS.ifYes X0.here hx rfl (pc0 := 130) (pc' := 137) rfl (hb hby at_130) rfl ((if0 _ _).trans (teq hc65).1) (by decide) (by decide) k) ?_
      show own_Wp p e below _ s₁ (mkF m 137 #[.val (.int p0), .val (.int p1), .val (.int p2), .val (.int p3), .val (.int c1), .val (.int c2), .val (.int c3), .val (.int c4), .val (.int c5), .val (.int c6), .val .null, .unset, .unset] [])
      obtain ⟨T66, h66, X66, e66, E66, A66, D66, -, st66⟩ := newO X0 hx hZ hown (hw _ (List.mem_of_getElem? (i := 0) rfl)) (hw _ (List.mem_of_getElem? (i := 1) rfl)) (hw _ (List.mem_of_getElem? (i := 2) rfl)) e0 (g := (mkF m 137 #[.val (.int p0), .val (.int p1), .val (.int p2), .val (.int p3), .val (.int c1), .val (.int c2), .val (.int c3), .val (.int c4), .val (.int c5), .val (.int c6), .val .null, .unset, .unset] [])) rfl (hb hby at_137) (by decide) (by decide)
      obtain ⟨b66, z66⟩ : ∃ z, z = h0.size := ⟨_, rfl⟩
      rw [← z66] at A66 D66 st66
      refine own_step st66 ?_
      have g66 : n0 ≤ b66 := Nat.le_trans (O0.1 ▸ O0.2.1) (Nat.le_of_eq z66.symm)
      have y66 : h0.size ≤ b66 := Nat.le_trans (Nat.le_refl _) (Nat.le_of_eq z66.symm)
      have O66 := O0.ext E66
      have K66 : Keep h0 h66 [] := (Keep.refl h0 []).ext E66
      have F66_27 : Fld Z h66 b66 "java/lang/String" "coder" "B" (.int (0 : Int32)) := D66 (Or.inr (hw _ (List.mem_of_getElem? (i := 27) rfl))) (ty := .byte) (by decide)
      have F66_29 : Fld Z h66 b66 "java/lang/String" "value" "[B" .null := D66 (Or.inr (hw _ (List.mem_of_getElem? (i := 29) rfl))) (ty := (.array .byte)) (by decide)
      show own_Wp p e below _ T66 (mkF m 140 #[.val (.int p0), .val (.int p1), .val (.int p2), .val (.int p3), .val (.int c1), .val (.int c2), .val (.int c3), .val (.int c4), .val (.int c5), .val (.int c6), .val .null, .unset, .unset] [(.ref b66)])
      refine own_step (fun _ k => XS.dup X66.here hx rfl (hb hby at_140) rfl rfl k) ?_
      show own_Wp p e below _ T66 (mkF m 141 #[.val (.int p0), .val (.int p1), .val (.int p2), .val (.int p3), .val (.int c1), .val (.int c2), .val (.int c3), .val (.int c4), .val (.int c5), .val (.int c6), .val .null, .unset, .unset] [(.ref b66), (.ref b66)])
      refine own_step (fun _ k => XS.iconst X66.here hx rfl (hb hby at_141) k) ?_
      show own_Wp p e below _ T66 (mkF m 142 #[.val (.int p0), .val (.int p1), .val (.int p2), .val (.int p3), .val (.int c1), .val (.int c2), .val (.int c3), .val (.int c4), .val (.int c5), .val (.int c6), .val .null, .unset, .unset] [(.int (2 : Int32)), (.ref b66), (.ref b66)])
      obtain ⟨T67, h67, k67, X67, e67, E67, A67, st67⟩ := newP X66 hx hZ (hw _ (List.mem_of_getElem? (i := 3) rfl)) e66 (g := (mkF m 142 #[.val (.int p0), .val (.int p1), .val (.int p2), .val (.int p3), .val (.int c1), .val (.int c2), .val (.int c3), .val (.int c4), .val (.int c5), .val (.int c6), .val .null, .unset, .unset] [(.int (2 : Int32)), (.ref b66), (.ref b66)])) rfl (hb hby at_142) rfl (by decide) (cap := 2) (by decide) (by decide) (by decide) (by decide)
      obtain ⟨b67, z67⟩ : ∃ z, z = h66.size := ⟨_, rfl⟩
      rw [← z67] at A67 st67
      refine own_step st67 ?_
      have g67 : n0 ≤ b67 := Nat.le_trans (O66.1 ▸ O66.2.1) (Nat.le_of_eq z67.symm)
      have ne67_0 : b66 ≠ b67 := Nat.ne_of_lt (Nat.lt_of_lt_of_le A66.lt (Nat.le_of_eq z67.symm))
      have y67 : h0.size ≤ b67 := Nat.le_trans (K66.1) (Nat.le_of_eq z67.symm)
      have O67 := O66.ext E67
      have K67 : Keep h0 h67 [] := K66.ext E67
      have V67 : Arv Z h67 b67 k67 .char (2 : Int32) [(.int (0 : Int32)), (.int (0 : Int32))] (.int (0 : Int32)) := (Arv.new A67 (by decide)).pad (pad_rep [] (.int (0 : Int32)) 2)
      show own_Wp p e below _ T67 (mkF m 144 #[.val (.int p0), .val (.int p1), .val (.int p2), .val (.int p3), .val (.int c1), .val (.int c2), .val (.int c3), .val (.int c4), .val (.int c5), .val (.int c6), .val .null, .unset, .unset] [(.ref b67), (.ref b66), (.ref b66)])
      refine own_step (fun _ k => XS.dup X67.here hx rfl (hb hby at_144) rfl rfl k) ?_
      show own_Wp p e below _ T67 (mkF m 145 #[.val (.int p0), .val (.int p1), .val (.int p2), .val (.int p3), .val (.int c1), .val (.int c2), .val (.int c3), .val (.int c4), .val (.int c5), .val (.int c6), .val .null, .unset, .unset] [(.ref b67), (.ref b67), (.ref b66), (.ref b66)])
      refine own_step (fun _ k => XS.iconst X67.here hx rfl (hb hby at_145) k) ?_
      show own_Wp p e below _ T67 (mkF m 146 #[.val (.int p0), .val (.int p1), .val (.int p2), .val (.int p3), .val (.int c1), .val (.int c2), .val (.int c3), .val (.int c4), .val (.int c5), .val (.int c6), .val .null, .unset, .unset] [(.int (0 : Int32)), (.ref b67), (.ref b67), (.ref b66), (.ref b66)])
      refine own_step (fun _ k => XS.iloadN X67.here hx rfl (hb hby at_146) rfl k) ?_
      show own_Wp p e below _ T67 (mkF m 147 #[.val (.int p0), .val (.int p1), .val (.int p2), .val (.int p3), .val (.int c1), .val (.int c2), .val (.int c3), .val (.int c4), .val (.int c5), .val (.int c6), .val .null, .unset, .unset] [(.int p3), (.int (0 : Int32)), (.ref b67), (.ref b67), (.ref b66), (.ref b66)])
      refine own_step (fun _ k => XS.bipush X67.here hx rfl (hb hby at_147) k) ?_
      show own_Wp p e below _ T67 (mkF m 149 #[.val (.int p0), .val (.int p1), .val (.int p2), .val (.int p3), .val (.int c1), .val (.int c2), .val (.int c3), .val (.int c4), .val (.int c5), .val (.int c6), .val .null, .unset, .unset] [(.int (16 : Int32)), (.int p3), (.int (0 : Int32)), (.ref b67), (.ref b67), (.ref b66), (.ref b66)])
      refine own_step (fun _ k => XS.iushr X67.here hx rfl (hb hby at_149) rfl k) ?_
      show own_Wp p e below _ T67 (mkF m 150 #[.val (.int p0), .val (.int p1), .val (.int p2), .val (.int p3), .val (.int c1), .val (.int c2), .val (.int c3), .val (.int c4), .val (.int c5), .val (.int c6), .val .null, .unset, .unset] [(.int ((p3.toUInt32 >>> ((16 : Int32) &&& 31).toUInt32).toInt32)), (.int (0 : Int32)), (.ref b67), (.ref b67), (.ref b66), (.ref b66)])
      refine own_step (fun _ k => XS.sipush X67.here hx rfl (hb hby at_150) k) ?_
      show own_Wp p e below _ T67 (mkF m 153 #[.val (.int p0), .val (.int p1), .val (.int p2), .val (.int p3), .val (.int c1), .val (.int c2), .val (.int c3), .val (.int c4), .val (.int c5), .val (.int c6), .val .null, .unset, .unset] [(.int (255 : Int32)), (.int ((p3.toUInt32 >>> ((16 : Int32) &&& 31).toUInt32).toInt32)), (.int (0 : Int32)), (.ref b67), (.ref b67), (.ref b66), (.ref b66)])
      refine own_step (fun _ k => XS.iand X67.here hx rfl (hb hby at_153) rfl k) ?_
      show own_Wp p e below _ T67 (mkF m 154 #[.val (.int p0), .val (.int p1), .val (.int p2), .val (.int p3), .val (.int c1), .val (.int c2), .val (.int c3), .val (.int c4), .val (.int c5), .val (.int c6), .val .null, .unset, .unset] [(.int (((p3.toUInt32 >>> ((16 : Int32) &&& 31).toUInt32).toInt32) &&& (255 : Int32))), (.int (0 : Int32)), (.ref b67), (.ref b67), (.ref b66), (.ref b66)])
      refine own_step (fun _ k => XS.i2c X67.here hx rfl (hb hby at_154) rfl k) ?_
      show own_Wp p e below _ T67 (mkF m 155 #[.val (.int p0), .val (.int p1), .val (.int p2), .val (.int p3), .val (.int c1), .val (.int c2), .val (.int c3), .val (.int c4), .val (.int c5), .val (.int c6), .val .null, .unset, .unset] [(.int ((((p3.toUInt32 >>> ((16 : Int32) &&& 31).toUInt32).toInt32) &&& (255 : Int32)).toUInt32.toUInt16.toUInt32.toInt32)), (.int (0 : Int32)), (.ref b67), (.ref b67), (.ref b66), (.ref b66)])
      obtain ⟨c68, hc68⟩ : ∃ z, z = ((((p3.toUInt32 >>> ((16 : Int32) &&& 31).toUInt32).toInt32) &&& (255 : Int32)).toUInt32.toUInt16.toUInt32.toInt32) := ⟨_, rfl⟩
      rw [← hc68]
      have ha68 : ¬ (c68 < (0 : Int32)) := by rw [hc68]; exact (own_ch _).1
      have hb68 : ¬ ((255 : Int32) < c68) := by rw [hc68]; exact (own_ch _).2.1
      have hn68 : nar .char c68 = c68 := by rw [hc68]; exact (own_ch _).2.2
      show own_Wp p e below _ T67 (mkF m 155 #[.val (.int p0), .val (.int p1), .val (.int p2), .val (.int p3), .val (.int c1), .val (.int c2), .val (.int c3), .val (.int c4), .val (.int c5), .val (.int c6), .val .null, .unset, .unset] [(.int c68), (.int (0 : Int32)), (.ref b67), (.ref b67), (.ref b66), (.ref b66)])
      obtain ⟨c69, r69, q69, t69, u69, y69h, y69g⟩ := id V67
      have i69 : ¬ ((0 : Int32) < 0 ∨ c69.slots.size ≤ ((0 : Int32)).toNatClampNeg) := inb_of t69 ⟨by decide, by decide⟩
      obtain ⟨T69, h69, X69, e69, W69, st69⟩ := stC X67 hx hZ e67 r69 (j := (0 : Int32)) i69 (g := (mkF m 155 #[.val (.int p0), .val (.int p1), .val (.int p2), .val (.int p3), .val (.int c1), .val (.int c2), .val (.int c3), .val (.int c4), .val (.int c5), .val (.int c6), .val .null, .unset, .unset] [(.int c68), (.int (0 : Int32)), (.ref b67), (.ref b67), (.ref b66), (.ref b66)])) rfl rfl (hb hby at_155)
      rw [hn68] at W69
      refine own_step st69 ?_
      have N69 := Fr.snoc X69 (Fr.nil n0) g67
      have O69 := O67.wr W69 g67
      have K69 : Keep h0 h69 [] := K67.wr W69 (Or.inr y67)
      have V69 : Arv Z h69 b67 k67 .char (2 : Int32) [(.int c68), (.int (0 : Int32))] (.int (0 : Int32)) := Arv.set r69 q69 t69 u69 y69h y69g (own_fitc hn68) W69 0 rfl (Nat.le_of_ble_eq_true rfl)
      show own_Wp p e below _ T69 (mkF m 156 #[.val (.int p0), .val (.int p1), .val (.int p2), .val (.int p3), .val (.int c1), .val (.int c2), .val (.int c3), .val (.int c4), .val (.int c5), .val (.int c6), .val .null, .unset, .unset] [(.ref b67), (.ref b66), (.ref b66)])
      refine own_step (fun _ k => XS.dup X69.here hx rfl (hb hby at_156) rfl rfl k) ?_
      show own_Wp p e below _ T69 (mkF m 157 #[.val (.int p0), .val (.int p1), .val (.int p2), .val (.int p3), .val (.int c1), .val (.int c2), .val (.int c3), .val (.int c4), .val (.int c5), .val (.int c6), .val .null, .unset, .unset] [(.ref b67), (.ref b67), (.ref b66), (.ref b66)])
      refine own_step (fun _ k => XS.iconst X69.here hx rfl (hb hby at_157) k) ?_
      show own_Wp p e below _ T69 (mkF m 158 #[.val (.int p0), .val (.int p1), .val (.int p2), .val (.int p3), .val (.int c1), .val (.int c2), .val (.int c3), .val (.int c4), .val (.int c5), .val (.int c6), .val .null, .unset, .unset] [(.int (1 : Int32)), (.ref b67), (.ref b67), (.ref b66), (.ref b66)])
      refine own_step (fun _ k => XS.iloadN X69.here hx rfl (hb hby at_158) rfl k) ?_
      show own_Wp p e below _ T69 (mkF m 159 #[.val (.int p0), .val (.int p1), .val (.int p2), .val (.int p3), .val (.int c1), .val (.int c2), .val (.int c3), .val (.int c4), .val (.int c5), .val (.int c6), .val .null, .unset, .unset] [(.int p3), (.int (1 : Int32)), (.ref b67), (.ref b67), (.ref b66), (.ref b66)])
      refine own_step (fun _ k => XS.bipush X69.here hx rfl (hb hby at_159) k) ?_
      show own_Wp p e below _ T69 (mkF m 161 #[.val (.int p0), .val (.int p1), .val (.int p2), .val (.int p3), .val (.int c1), .val (.int c2), .val (.int c3), .val (.int c4), .val (.int c5), .val (.int c6), .val .null, .unset, .unset] [(.int (24 : Int32)), (.int p3), (.int (1 : Int32)), (.ref b67), (.ref b67), (.ref b66), (.ref b66)])
      refine own_step (fun _ k => XS.iushr X69.here hx rfl (hb hby at_161) rfl k) ?_
      show own_Wp p e below _ T69 (mkF m 162 #[.val (.int p0), .val (.int p1), .val (.int p2), .val (.int p3), .val (.int c1), .val (.int c2), .val (.int c3), .val (.int c4), .val (.int c5), .val (.int c6), .val .null, .unset, .unset] [(.int ((p3.toUInt32 >>> ((24 : Int32) &&& 31).toUInt32).toInt32)), (.int (1 : Int32)), (.ref b67), (.ref b67), (.ref b66), (.ref b66)])
      refine own_step (fun _ k => XS.sipush X69.here hx rfl (hb hby at_162) k) ?_
      show own_Wp p e below _ T69 (mkF m 165 #[.val (.int p0), .val (.int p1), .val (.int p2), .val (.int p3), .val (.int c1), .val (.int c2), .val (.int c3), .val (.int c4), .val (.int c5), .val (.int c6), .val .null, .unset, .unset] [(.int (255 : Int32)), (.int ((p3.toUInt32 >>> ((24 : Int32) &&& 31).toUInt32).toInt32)), (.int (1 : Int32)), (.ref b67), (.ref b67), (.ref b66), (.ref b66)])
      refine own_step (fun _ k => XS.iand X69.here hx rfl (hb hby at_165) rfl k) ?_
      show own_Wp p e below _ T69 (mkF m 166 #[.val (.int p0), .val (.int p1), .val (.int p2), .val (.int p3), .val (.int c1), .val (.int c2), .val (.int c3), .val (.int c4), .val (.int c5), .val (.int c6), .val .null, .unset, .unset] [(.int (((p3.toUInt32 >>> ((24 : Int32) &&& 31).toUInt32).toInt32) &&& (255 : Int32))), (.int (1 : Int32)), (.ref b67), (.ref b67), (.ref b66), (.ref b66)])
      refine own_step (fun _ k => XS.i2c X69.here hx rfl (hb hby at_166) rfl k) ?_
      show own_Wp p e below _ T69 (mkF m 167 #[.val (.int p0), .val (.int p1), .val (.int p2), .val (.int p3), .val (.int c1), .val (.int c2), .val (.int c3), .val (.int c4), .val (.int c5), .val (.int c6), .val .null, .unset, .unset] [(.int ((((p3.toUInt32 >>> ((24 : Int32) &&& 31).toUInt32).toInt32) &&& (255 : Int32)).toUInt32.toUInt16.toUInt32.toInt32)), (.int (1 : Int32)), (.ref b67), (.ref b67), (.ref b66), (.ref b66)])
      obtain ⟨c70, hc70⟩ : ∃ z, z = ((((p3.toUInt32 >>> ((24 : Int32) &&& 31).toUInt32).toInt32) &&& (255 : Int32)).toUInt32.toUInt16.toUInt32.toInt32) := ⟨_, rfl⟩
      rw [← hc70]
      have ha70 : ¬ (c70 < (0 : Int32)) := by rw [hc70]; exact (own_ch _).1
      have hb70 : ¬ ((255 : Int32) < c70) := by rw [hc70]; exact (own_ch _).2.1
      have hn70 : nar .char c70 = c70 := by rw [hc70]; exact (own_ch _).2.2
      show own_Wp p e below _ T69 (mkF m 167 #[.val (.int p0), .val (.int p1), .val (.int p2), .val (.int p3), .val (.int c1), .val (.int c2), .val (.int c3), .val (.int c4), .val (.int c5), .val (.int c6), .val .null, .unset, .unset] [(.int c70), (.int (1 : Int32)), (.ref b67), (.ref b67), (.ref b66), (.ref b66)])
      obtain ⟨c71, r71, q71, t71, u71, y71h, y71g⟩ := id V69
      have i71 : ¬ ((1 : Int32) < 0 ∨ c71.slots.size ≤ ((1 : Int32)).toNatClampNeg) := inb_of t71 ⟨by decide, by decide⟩
      obtain ⟨T71, h71, X71, e71, W71, st71⟩ := stC X69 hx hZ e69 r71 (j := (1 : Int32)) i71 (g := (mkF m 167 #[.val (.int p0), .val (.int p1), .val (.int p2), .val (.int p3), .val (.int c1), .val (.int c2), .val (.int c3), .val (.int c4), .val (.int c5), .val (.int c6), .val .null, .unset, .unset] [(.int c70), (.int (1 : Int32)), (.ref b67), (.ref b67), (.ref b66), (.ref b66)])) rfl rfl (hb hby at_167)
      rw [hn70] at W71
      refine own_step st71 ?_
      have N71 := Fr.snoc X71 N69 g67
      have O71 := O69.wr W71 g67
      have K71 : Keep h0 h71 [] := K69.wr W71 (Or.inr y67)
      have V71 : Arv Z h71 b67 k67 .char (2 : Int32) [(.int c68), (.int c70)] (.int (0 : Int32)) := Arv.set r71 q71 t71 u71 y71h y71g (own_fitc hn70) W71 1 rfl (Nat.le_of_ble_eq_true rfl)
      show own_Wp p e below _ T71 (mkF m 168 #[.val (.int p0), .val (.int p1), .val (.int p2), .val (.int p3), .val (.int c1), .val (.int c2), .val (.int c3), .val (.int c4), .val (.int c5), .val (.int c6), .val .null, .unset, .unset] [(.ref b67), (.ref b66), (.ref b66)])
      have f72 := (((A66.ext E67).wr W69).wr W71)
      have f73 := (((F66_27.ext E67).other W69 (Or.inl ne67_0)).other W71 (Or.inl ne67_0))
      have f74 := (((F66_29.ext E67).other W69 (Or.inl ne67_0)).other W71 (Or.inl ne67_0))
      obtain ⟨_, T75, L75, X75, hQ75, st75⟩ := own_callN X71 hx hZ rfl hown (hw _ (List.mem_of_getElem? (i := 4) rfl)) (hw _ (List.mem_of_getElem? (i := 5) rfl)) (hw _ (List.mem_of_getElem? (i := 2) rfl)) (hw _ (List.mem_of_getElem? (i := 6) rfl)) (by decide) (rm1_19 l Z a0 hw hS [] b66 b67 c68 c70 k67 h71 n0 O71 f72 f73 f74 V71 g66 hb68 hb70) (b := b66) (W := 1) (by decide) (by decide) [(.ref b67)] rfl (lenOf pd6 rfl) (Ls := #[.val (.int p0), .val (.int p1), .val (.int p2), .val (.int p3), .val (.int c1), .val (.int c2), .val (.int c3), .val (.int c4), .val (.int c5), .val (.int c6), .val .null, .unset, .unset]) (by rw [hml]; rfl) (rest := [(.ref b66)]) (Nat.le_of_eq rfl) (hb hby at_168) e71 (by decide) (by decide)
      refine st75 _ ?_
      obtain ⟨b76, k77, rfl, N75q, K75q, y75_0, m75_0, F75_0, F75_1, F75_2, F75_3⟩ := hQ75
      have N75 := Fr.app N71 N75q
      have g75_0 : n0 ≤ b76 := Nat.le_trans (O71.1 ▸ O71.2.1) y75_0
      have ne75_0_0 : b66 ≠ b76 := Nat.ne_of_lt (Nat.lt_of_lt_of_le f72.lt y75_0)
      have ne75_0_1 : b67 ≠ b76 := Nat.ne_of_lt (Nat.lt_of_lt_of_le V71.lt y75_0)
      have u75_0 : h0.size ≤ b76 := Nat.le_trans (K71.1) y75_0
      have O75 := O71.keep K75q (allS g66 all0)
      have K75 : Keep h0 T75.heap [] := Keep.trans K71 K75q (allS (Or.inr y66) all0)
      show own_Wp p e below _ T75 (mkF m 171 #[.val (.int p0), .val (.int p1), .val (.int p2), .val (.int p3), .val (.int c1), .val (.int c2), .val (.int c3), .val (.int c4), .val (.int c5), .val (.int c6), .val .null, .unset, .unset] [(.ref b66)])
      refine own_step (fun _ k => XS.astore X75.here hx rfl (hb hby at_171) rfl rfl (l' := #[.val (.int p0), .val (.int p1), .val (.int p2), .val (.int p3), .val (.int c1), .val (.int c2), .val (.int c3), .val (.int c4), .val (.int c5), .val (.int c6), .val .null, .val (.ref b66), .unset]) rfl k) ?_
      show own_Wp p e below _ T75 (mkF m 173 #[.val (.int p0), .val (.int p1), .val (.int p2), .val (.int p3), .val (.int c1), .val (.int c2), .val (.int c3), .val (.int c4), .val (.int c5), .val (.int c6), .val .null, .val (.ref b66), .unset] [])
      obtain ⟨T78, h78, X78, e78, E78, A78, D78, -, st78⟩ := newO X75 hx hZ hown (hw _ (List.mem_of_getElem? (i := 30) rfl)) (hw _ (List.mem_of_getElem? (i := 31) rfl)) (hw _ (List.mem_of_getElem? (i := 32) rfl)) rfl (g := (mkF m 173 #[.val (.int p0), .val (.int p1), .val (.int p2), .val (.int p3), .val (.int c1), .val (.int c2), .val (.int c3), .val (.int c4), .val (.int c5), .val (.int c6), .val .null, .val (.ref b66), .unset] [])) rfl (hb hby at_173) (by decide) (by decide)
      obtain ⟨b78, z78⟩ : ∃ z, z = T75.heap.size := ⟨_, rfl⟩
      rw [← z78] at A78 D78 st78
      refine own_step st78 ?_
      have g78 : n0 ≤ b78 := Nat.le_trans (O75.1 ▸ O75.2.1) (Nat.le_of_eq z78.symm)
      have ne78_0 : b66 ≠ b78 := Nat.ne_of_lt (Nat.lt_of_lt_of_le F75_0.lt (Nat.le_of_eq z78.symm))
      have f79 := (V71.keep K75q (ninS (Ne.symm ne67_0) nin0))
      have ne78_1 : b67 ≠ b78 := Nat.ne_of_lt (Nat.lt_of_lt_of_le f79.lt (Nat.le_of_eq z78.symm))
      have ne78_2 : b76 ≠ b78 := Nat.ne_of_lt (Nat.lt_of_lt_of_le F75_3.lt (Nat.le_of_eq z78.symm))
      have y78 : h0.size ≤ b78 := Nat.le_trans (K75.1) (Nat.le_of_eq z78.symm)
      have O78 := O75.ext E78
      have K78 : Keep h0 h78 [] := K75.ext E78
      have F78_43 : Fld Z h78 b78 "com/example/fieldnote/fieldnote/text/TextSyntax$Entry" "name" "Ljava/lang/String;" .null := D78 (Or.inl (hw _ (List.mem_of_getElem? (i := 43) rfl))) (ty := (.object "java/lang/String")) (by decide)
      have F78_45 : Fld Z h78 b78 "com/example/fieldnote/fieldnote/text/TextSyntax$Entry" "place" "I" (.int (0 : Int32)) := D78 (Or.inl (hw _ (List.mem_of_getElem? (i := 45) rfl))) (ty := .int) (by decide)
      have F78_47 : Fld Z h78 b78 "com/example/fieldnote/fieldnote/text/TextSyntax$Entry" "field" "Lcom/example/fieldnote/fieldnote/schema/Field;" .null := D78 (Or.inl (hw _ (List.mem_of_getElem? (i := 47) rfl))) (ty := (.object "com/example/fieldnote/fieldnote/schema/Field")) (by decide)
      have F78_49 : Fld Z h78 b78 "com/example/fieldnote/fieldnote/text/TextSyntax$Entry" "colon" "Z" (.int (0 : Int32)) := D78 (Or.inl (hw _ (List.mem_of_getElem? (i := 49) rfl))) (ty := .boolean) (by decide)
      have F78_51 : Fld Z h78 b78 "com/example/fieldnote/fieldnote/text/TextSyntax$Entry" "inList" "Z" (.int (0 : Int32)) := D78 (Or.inl (hw _ (List.mem_of_getElem? (i := 51) rfl))) (ty := .boolean) (by decide)
      have F78_53 : Fld Z h78 b78 "com/example/fieldnote/fieldnote/text/TextSyntax$Entry" "messages" "Z" (.int (0 : Int32)) := D78 (Or.inl (hw _ (List.mem_of_getElem? (i := 53) rfl))) (ty := .boolean) (by decide)
      show own_Wp p e below _ T78 (mkF m 176 #[.val (.int p0), .val (.int p1), .val (.int p2), .val (.int p3), .val (.int c1), .val (.int c2), .val (.int c3), .val (.int c4), .val (.int c5), .val (.int c6), .val .null, .val (.ref b66), .unset] [(.ref b78)])
      refine own_step (fun _ k => XS.dup X78.here hx rfl (hb hby at_176) rfl rfl k) ?_
      show own_Wp p e below _ T78 (mkF m 177 #[.val (.int p0), .val (.int p1), .val (.int p2), .val (.int p3), .val (.int c1), .val (.int c2), .val (.int c3), .val (.int c4), .val (.int c5), .val (.int c6), .val .null, .val (.ref b66), .unset] [(.ref b78), (.ref b78)])
      obtain ⟨_, T80, L80, X80, hQ80, st80⟩ := own_callN X78 hx hZ rfl hown (hw _ (List.mem_of_getElem? (i := 33) rfl)) (hw _ (List.mem_of_getElem? (i := 34) rfl)) (hw _ (List.mem_of_getElem? (i := 32) rfl)) (hw _ (List.mem_of_getElem? (i := 35) rfl)) (by decide) (rm7_5 l Z a0 hw hS [] b78 h78 n0 O78) (b := b78) (W := 1) (by decide) (by decide) [] rfl (lenOf pd8 rfl) (Ls := #[.val (.int p0), .val (.int p1), .val (.int p2), .val (.int p3), .val (.int c1), .val (.int c2), .val (.int c3), .val (.int c4), .val (.int c5), .val (.int c6), .val .null, .val (.ref b66), .unset]) (by rw [hml]; rfl) (rest := [(.ref b78)]) (Nat.le_of_eq rfl) (hb hby at_177) e78 (by decide) (by decide)
      refine st80 _ ?_
      obtain ⟨rfl, N80q, e80⟩ := hQ80
      have N80 := Fr.app N75 N80q
      show own_Wp p e below _ T80 (mkF m 180 #[.val (.int p0), .val (.int p1), .val (.int p2), .val (.int p3), .val (.int c1), .val (.int c2), .val (.int c3), .val (.int c4), .val (.int c5), .val (.int c6), .val .null, .val (.ref b66), .unset] [(.ref b78)])
      refine own_step (fun _ k => XS.astore X80.here hx rfl (hb hby at_180) rfl rfl (l' := #[.val (.int p0), .val (.int p1), .val (.int p2), .val (.int p3), .val (.int c1), .val (.int c2), .val (.int c3), .val (.int c4), .val (.int c5), .val (.int c6), .val .null, .val (.ref b66), .val (.ref b78)]) rfl k) ?_
      show own_Wp p e below _ T80 (mkF m 182 #[.val (.int p0), .val (.int p1), .val (.int p2), .val (.int p3), .val (.int c1), .val (.int c2), .val (.int c3), .val (.int c4), .val (.int c5), .val (.int c6), .val .null, .val (.ref b66), .val (.ref b78)] [])
      refine own_step (fun _ k => XS.aload X80.here hx rfl (hb hby at_182) rfl rfl k) ?_
      show own_Wp p e below _ T80 (mkF m 184 #[.val (.int p0), .val (.int p1), .val (.int p2), .val (.int p3), .val (.int c1), .val (.int c2), .val (.int c3), .val (.int c4), .val (.int c5), .val (.int c6), .val .null, .val (.ref b66), .val (.ref b78)] [(.ref b78)])
      refine own_step (fun _ k => XS.aload X80.here hx rfl (hb hby at_184) rfl rfl k) ?_
      show own_Wp p e below _ T80 (mkF m 186 #[.val (.int p0), .val (.int p1), .val (.int p2), .val (.int p3), .val (.int c1), .val (.int c2), .val (.int c3), .val (.int c4), .val (.int c5), .val (.int c6), .val .null, .val (.ref b66), .val (.ref b78)] [.null, (.ref b78)])
      refine own_step (fun _ k => XS.iloadN X80.here hx rfl (hb hby at_186) rfl k) ?_
      show own_Wp p e below _ T80 (mkF m 187 #[.val (.int p0), .val (.int p1), .val (.int p2), .val (.int p3), .val (.int c1), .val (.int c2), .val (.int c3), .val (.int c4), .val (.int c5), .val (.int c6), .val .null, .val (.ref b66), .val (.ref b78)] [(.int p0), .null, (.ref b78)])
      refine own_step (fun _ k => XS.aconstNull X80.here hx rfl (hb hby at_187) k) ?_
      show own_Wp p e below _ T80 (mkF m 188 #[.val (.int p0), .val (.int p1), .val (.int p2), .val (.int p3), .val (.int c1), .val (.int c2), .val (.int c3), .val (.int c4), .val (.int c5), .val (.int c6), .val .null, .val (.ref b66), .val (.ref b78)] [.null, (.int p0), .null, (.ref b78)])
      refine own_step (fun _ k => XS.iload X80.here hx rfl (hb hby at_188) rfl k) ?_
      show own_Wp p e below _ T80 (mkF m 190 #[.val (.int p0), .val (.int p1), .val (.int p2), .val (.int p3), .val (.int c1), .val (.int c2), .val (.int c3), .val (.int c4), .val (.int c5), .val (.int c6), .val .null, .val (.ref b66), .val (.ref b78)] [(.int c1), .null, (.int p0), .null, (.ref b78)])
      refine own_step (fun _ k => XS.iload X80.here hx rfl (hb hby at_190) rfl k) ?_
      show own_Wp p e below _ T80 (mkF m 192 #[.val (.int p0), .val (.int p1), .val (.int p2), .val (.int p3), .val (.int c1), .val (.int c2), .val (.int c3), .val (.int c4), .val (.int c5), .val (.int c6), .val .null, .val (.ref b66), .val (.ref b78)] [(.int c2), (.int c1), .null, (.int p0), .null, (.ref b78)])
      refine own_step (fun _ k => XS.iload X80.here hx rfl (hb hby at_192) rfl k) ?_
      show own_Wp p e below _ T80 (mkF m 194 #[.val (.int p0), .val (.int p1), .val (.int p2), .val (.int p3), .val (.int c1), .val (.int c2), .val (.int c3), .val (.int c4), .val (.int c5), .val (.int c6), .val .null, .val (.ref b66), .val (.ref b78)] [(.int c3), (.int c2), (.int c1), .null, (.int p0), .null, (.ref b78)])
      obtain ⟨_, T81, L81, X81, hQ81, st81⟩ := own_callV X80 hx hZ hown (hw _ (List.mem_of_getElem? (i := 37) rfl)) (hw _ (List.mem_of_getElem? (i := 38) rfl)) (notFace_of_selects (args := #[]) (mvT hZ (hw _ (List.mem_of_getElem? (i := 40) rfl)))) (hw _ (List.mem_of_getElem? (i := 40) rfl)) (hw _ (List.mem_of_getElem? (i := 39) rfl)) (hw _ (List.mem_of_getElem? (i := 32) rfl)) (hw _ (List.mem_of_getElem? (i := 41) rfl)) (by decide) A78 (rm8_20 l Z a0 hw hS [] b78 p0 c1 c2 c3 h78 n0 O78 A78 F78_43 F78_45 F78_47 F78_49 F78_51 F78_53 g78 hc1 hc2 hc3) (W := 0) (by decide) (by decide) [.null, (.int p0), .null, (.int c1), (.int c2), (.int c3)] rfl (lenOf pd9 rfl) (Ls := #[.val (.int p0), .val (.int p1), .val (.int p2), .val (.int p3), .val (.int c1), .val (.int c2), .val (.int c3), .val (.int c4), .val (.int c5), .val (.int c6), .val .null, .val (.ref b66), .val (.ref b78)]) (by rw [hml]; rfl) (rest := []) (Nat.le_of_eq rfl) (hb hby at_194) e80 (by decide) (by decide)
      refine st81 _ ?_
      obtain ⟨rfl, N81q, K81q, F81_0, F81_1, F81_2, F81_3, F81_4, F81_5, F81_6⟩ := hQ81
      have N81 := Fr.app N80 N81q
      have O81 := O78.keep K81q (allS g78 all0)
      have K81 : Keep h0 T81.heap [] := Keep.trans K78 K81q (allS (Or.inr y78) all0)
      show own_Wp p e below _ T81 (mkF m 197 #[.val (.int p0), .val (.int p1), .val (.int p2), .val (.int p3), .val (.int c1), .val (.int c2), .val (.int c3), .val (.int c4), .val (.int c5), .val (.int c6), .val .null, .val (.ref b66), .val (.ref b78)] [])
      refine own_step (fun _ k => XS.aload X81.here hx rfl (hb hby at_197) rfl rfl k) ?_
      show own_Wp p e below _ T81 (mkF m 199 #[.val (.int p0), .val (.int p1), .val (.int p2), .val (.int p3), .val (.int c1), .val (.int c2), .val (.int c3), .val (.int c4), .val (.int c5), .val (.int c6), .val .null, .val (.ref b66), .val (.ref b78)] [(.ref b78)])
      refine own_step (fun _ k => XS.aload X81.here hx rfl (hb hby at_199) rfl rfl k) ?_
      show own_Wp p e below _ T81 (mkF m 201 #[.val (.int p0), .val (.int p1), .val (.int p2), .val (.int p3), .val (.int c1), .val (.int c2), .val (.int c3), .val (.int c4), .val (.int c5), .val (.int c6), .val .null, .val (.ref b66), .val (.ref b78)] [(.ref b66), (.ref b78)])
      refine own_step (fun _ k => XS.iloadN X81.here hx rfl (hb hby at_201) rfl k) ?_
      show own_Wp p e below _ T81 (mkF m 202 #[.val (.int p0), .val (.int p1), .val (.int p2), .val (.int p3), .val (.int c1), .val (.int c2), .val (.int c3), .val (.int c4), .val (.int c5), .val (.int c6), .val .null, .val (.ref b66), .val (.ref b78)] [(.int p1), (.ref b66), (.ref b78)])
      refine own_step (fun _ k => XS.aconstNull X81.here hx rfl (hb hby at_202) k) ?_
      show own_Wp p e below _ T81 (mkF m 203 #[.val (.int p0), .val (.int p1), .val (.int p2), .val (.int p3), .val (.int c1), .val (.int c2), .val (.int c3), .val (.int c4), .val (.int c5), .val (.int c6), .val .null, .val (.ref b66), .val (.ref b78)] [.null, (.int p1), (.ref b66), (.ref b78)])
      refine own_step (fun _ k => XS.iload X81.here hx rfl (hb hby at_203) rfl k) ?_
      show own_Wp p e below _ T81 (mkF m 205 #[.val (.int p0), .val (.int p1), .val (.int p2), .val (.int p3), .val (.int c1), .val (.int c2), .val (.int c3), .val (.int c4), .val (.int c5), .val (.int c6), .val .null, .val (.ref b66), .val (.ref b78)] [(.int c4), .null, (.int p1), (.ref b66), (.ref b78)])
      refine own_step (fun _ k => XS.iload X81.here hx rfl (hb hby at_205) rfl k) ?_
      show own_Wp p e below _ T81 (mkF m 207 #[.val (.int p0), .val (.int p1), .val (.int p2), .val (.int p3), .val (.int c1), .val (.int c2), .val (.int c3), .val (.int c4), .val (.int c5), .val (.int c6), .val .null, .val (.ref b66), .val (.ref b78)] [(.int c5), (.int c4), .null, (.int p1), (.ref b66), (.ref b78)])
      refine own_step (fun _ k => XS.iload X81.here hx rfl (hb hby at_207) rfl k) ?_
      show own_Wp p e below _ T81 (mkF m 209 #[.val (.int p0), .val (.int p1), .val (.int p2), .val (.int p3), .val (.int c1), .val (.int c2), .val (.int c3), .val (.int c4), .val (.int c5), .val (.int c6), .val .null, .val (.ref b66), .val (.ref b78)] [(.int c6), (.int c5), (.int c4), .null, (.int p1), (.ref b66), (.ref b78)])
      obtain ⟨_, T82, L82, X82, hQ82, st82⟩ := own_callV X81 hx hZ hown (hw _ (List.mem_of_getElem? (i := 37) rfl)) (hw _ (List.mem_of_getElem? (i := 38) rfl)) (notFace_of_selects (args := #[]) (mvT hZ (hw _ (List.mem_of_getElem? (i := 40) rfl)))) (hw _ (List.mem_of_getElem? (i := 40) rfl)) (hw _ (List.mem_of_getElem? (i := 39) rfl)) (hw _ (List.mem_of_getElem? (i := 32) rfl)) (hw _ (List.mem_of_getElem? (i := 41) rfl)) (by decide) F81_0 (rm8_21 l Z a0 hw hS [] b78 b66 p1 c4 c5 c6 p0 c1 c2 c3 T81.heap n0 O81 F81_0 F81_1 F81_2 F81_3 F81_4 F81_5 F81_6 g78 hc4 hc5 hc6) (W := 0) (by decide) (by decide) [(.ref b66), (.int p1), .null, (.int c4), (.int c5), (.int c6)] rfl (lenOf pd9 rfl) (Ls := #[.val (.int p0), .val (.int p1), .val (.int p2), .val (.int p3), .val (.int c1), .val (.int c2), .val (.int c3), .val (.int c4), .val (.int c5), .val (.int c6), .val .null, .val (.ref b66), .val (.ref b78)]) (by rw [hml]; rfl) (rest := []) (Nat.le_of_eq rfl) (hb hby at_209) rfl (by decide) (by decide)
      refine st82 _ ?_
      obtain ⟨rfl, N82q, K82q, F82_0, F82_1, F82_2, F82_3, F82_4, F82_5, F82_6⟩ := hQ82
      have N82 := Fr.app N81 N82q
      have O82 := O81.keep K82q (allS g78 all0)
      have K82 : Keep h0 T82.heap [] := Keep.trans K81 K82q (allS (Or.inr y78) all0)
      show own_Wp p e below _ T82 (mkF m 212 #[.val (.int p0), .val (.int p1), .val (.int p2), .val (.int p3), .val (.int c1), .val (.int c2), .val (.int c3), .val (.int c4), .val (.int c5), .val (.int c6), .val .null, .val (.ref b66), .val (.ref b78)] [])
      refine own_step (fun _ k => XS.aload X82.here hx rfl (hb hby at_212) rfl rfl k) ?_
      show own_Wp p e below _ T82 (mkF m 214 #[.val (.int p0), .val (.int p1), .val (.int p2), .val (.int p3), .val (.int c1), .val (.int c2), .val (.int c3), .val (.int c4), .val (.int c5), .val (.int c6), .val .null, .val (.ref b66), .val (.ref b78)] [(.ref b78)])
      obtain ⟨_, T83, L83, X83, hQ83, st83⟩ := own_callV X82 hx hZ hown (hw _ (List.mem_of_getElem? (i := 54) rfl)) (hw _ (List.mem_of_getElem? (i := 55) rfl)) (notFace_of_selects (args := #[]) (mvT hZ (hw _ (List.mem_of_getElem? (i := 57) rfl)))) (hw _ (List.mem_of_getElem? (i := 57) rfl)) (hw _ (List.mem_of_getElem? (i := 56) rfl)) (hw _ (List.mem_of_getElem? (i := 32) rfl)) (hw _ (List.mem_of_getElem? (i := 58) rfl)) (by decide) F82_0 (rm9_8 l Z a0 hw hS [] b78 b66 T82.heap n0 O82 F82_1) (W := 0) (by decide) (by decide) [] rfl (lenOf pd10 rfl) (Ls := #[.val (.int p0), .val (.int p1), .val (.int p2), .val (.int p3), .val (.int c1), .val (.int c2), .val (.int c3), .val (.int c4), .val (.int c5), .val (.int c6), .val .null, .val (.ref b66), .val (.ref b78)]) (by rw [hml]; rfl) (rest := []) (Nat.le_of_eq rfl) (hb hby at_214) rfl (by decide) (by decide)
      refine st83 _ ?_
      obtain ⟨rfl, N83q, e83⟩ := hQ83
      have N83 := Fr.app N82 N83q
      show own_Wp p e below _ T83 (mkF m 217 #[.val (.int p0), .val (.int p1), .val (.int p2), .val (.int p3), .val (.int c1), .val (.int c2), .val (.int c3), .val (.int c4), .val (.int c5), .val (.int c6), .val .null, .val (.ref b66), .val (.ref b78)] [(.ref b66)])
      refine own_step (fun _ k => XS.aload X83.here hx rfl (hb hby at_217) rfl rfl k) ?_
      show own_Wp p e below _ T83 (mkF m 219 #[.val (.int p0), .val (.int p1), .val (.int p2), .val (.int p3), .val (.int c1), .val (.int c2), .val (.int c3), .val (.int c4), .val (.int c5), .val (.int c6), .val .null, .val (.ref b66), .val (.ref b78)] [(.ref b66), (.ref b66)])
      refine own_step (fun _ k => Jvm.RoadKit.acmp (g := (mkF m 219 #[.val (.int p0), .val (.int p1), .val (.int p2), .val (.int p3), .val (.int c1), .val (.int c2), .val (.int c3), .val (.int c4), .val (.int c5), .val (.int c6), .val .null, .val (.ref b66), .val (.ref b78)] [(.ref b66), (.ref b66)])) X83 hx rfl rfl rfl (pc0 := 219) (pc' := 222) (same := true) rfl (hb hby at_219) rfl (decide_eq_true rfl) (by decide) (by decide) k) ?_
      show own_Wp p e below _ T83 (mkF m 222 #[.val (.int p0), .val (.int p1), .val (.int p2), .val (.int p3), .val (.int c1), .val (.int c2), .val (.int c3), .val (.int c4), .val (.int c5), .val (.int c6), .val .null, .val (.ref b66), .val (.ref b78)] [])
      refine own_step (fun _ k => XS.aload X83.here hx rfl (hb hby at_222) rfl rfl k) ?_
      show own_Wp p e below _ T83 (mkF m 224 #[.val (.int p0), .val (.int p1), .val (.int p2), .val (.int p3), .val (.int c1), .val (.int c2), .val (.int c3), .val (.int c4), .val (.int c5), .val (.int c6), .val .null, .val (.ref b66), .val (.ref b78)] [(.ref b78)])
      obtain ⟨_, T84, L84, X84, hQ84, st84⟩ := own_callV X83 hx hZ hown (hw _ (List.mem_of_getElem? (i := 59) rfl)) (hw _ (List.mem_of_getElem? (i := 60) rfl)) (notFace_of_selects (args := #[]) (mvT hZ (hw _ (List.mem_of_getElem? (i := 62) rfl)))) (hw _ (List.mem_of_getElem? (i := 62) rfl)) (hw _ (List.mem_of_getElem? (i := 61) rfl)) (hw _ (List.mem_of_getElem? (i := 32) rfl)) (hw _ (List.mem_of_getElem? (i := 63) rfl)) (by decide) F82_0 (rm10_9 l Z a0 hw hS [] b78 p1 T82.heap n0 O82 F82_2) (W := 0) (by decide) (by decide) [] rfl (lenOf pd11 rfl) (Ls := #[.val (.int p0), .val (.int p1), .val (.int p2), .val (.int p3), .val (.int c1), .val (.int c2), .val (.int c3), .val (.int c4), .val (.int c5), .val (.int c6), .val .null, .val (.ref b66), .val (.ref b78)]) (by rw [hml]; rfl) (rest := []) (Nat.le_of_eq rfl) (hb hby at_224) e83 (by decide) (by decide)
      refine st84 _ ?_
      obtain ⟨rfl, N84q, e84⟩ := hQ84
      have N84 := Fr.app N83 N84q
      show own_Wp p e below _ T84 (mkF m 227 #[.val (.int p0), .val (.int p1), .val (.int p2), .val (.int p3), .val (.int c1), .val (.int c2), .val (.int c3), .val (.int c4), .val (.int c5), .val (.int c6), .val .null, .val (.ref b66), .val (.ref b78)] [(.int p1)])
      refine own_step (fun _ k => XS.iloadN X84.here hx rfl (hb hby at_227) rfl k) ?_
      show own_Wp p e below _ T84 (mkF m 228 #[.val (.int p0), .val (.int p1), .val (.int p2), .val (.int p3), .val (.int c1), .val (.int c2), .val (.int c3), .val (.int c4), .val (.int c5), .val (.int c6), .val .null, .val (.ref b66), .val (.ref b78)] [(.int p1), (.int p1)])
      refine own_step (fun _ k => XS.icmpNo X84.here hx rfl (hb hby at_228) rfl (teq (rfl : p1 = p1)).2 k) ?_
      show own_Wp p e below _ T84 (mkF m 231 #[.val (.int p0), .val (.int p1), .val (.int p2), .val (.int p3), .val (.int c1), .val (.int c2), .val (.int c3), .val (.int c4), .val (.int c5), .val (.int c6), .val .null, .val (.ref b66), .val (.ref b78)] [])
      refine own_step (fun _ k => XS.aload X84.here hx rfl (hb hby at_231) rfl rfl k) ?_
      show own_Wp p e below _ T84 (mkF m 233 #[.val (.int p0), .val (.int p1), .val (.int p2), .val (.int p3), .val (.int c1), .val (.int c2), .val (.int c3), .val (.int c4), .val (.int c5), .val (.int c6), .val .null, .val (.ref b66), .val (.ref b78)] [(.ref b78)])
      obtain ⟨_, T85, L85, X85, hQ85, st85⟩ := own_callV X84 hx hZ hown (hw _ (List.mem_of_getElem? (i := 64) rfl)) (hw _ (List.mem_of_getElem? (i := 65) rfl)) (notFace_of_selects (args := #[]) (mvT hZ (hw _ (List.mem_of_getElem? (i := 67) rfl)))) (hw _ (List.mem_of_getElem? (i := 67) rfl)) (hw _ (List.mem_of_getElem? (i := 66) rfl)) (hw _ (List.mem_of_getElem? (i := 32) rfl)) (hw _ (List.mem_of_getElem? (i := 68) rfl)) (by decide) F82_0 (rm11_10 l Z a0 hw hS [] b78 T82.heap n0 O82 F82_3) (W := 0) (by decide) (by decide) [] rfl (lenOf pd12 rfl) (Ls := #[.val (.int p0), .val (.int p1), .val (.int p2), .val (.int p3), .val (.int c1), .val (.int c2), .val (.int c3), .val (.int c4), .val (.int c5), .val (.int c6), .val .null, .val (.ref b66), .val (.ref b78)]) (by rw [hml]; rfl) (rest := []) (Nat.le_of_eq rfl) (hb hby at_233) e84 (by decide) (by decide)
      refine st85 _ ?_
      obtain ⟨rfl, N85q, e85⟩ := hQ85
      have N85 := Fr.app N84 N85q
      show own_Wp p e below _ T85 (mkF m 236 #[.val (.int p0), .val (.int p1), .val (.int p2), .val (.int p3), .val (.int c1), .val (.int c2), .val (.int c3), .val (.int c4), .val (.int c5), .val (.int c6), .val .null, .val (.ref b66), .val (.ref b78)] [.null])
      refine own_step (fun _ k => XS.ifnonnullNo X85.here hx rfl (hb hby at_236) rfl k) ?_
      show own_Wp p e below _ T85 (mkF m 239 #[.val (.int p0), .val (.int p1), .val (.int p2), .val (.int p3), .val (.int c1), .val (.int c2), .val (.int c3), .val (.int c4), .val (.int c5), .val (.int c6), .val .null, .val (.ref b66), .val (.ref b78)] [])
      refine own_step (fun _ k => XS.aload X85.here hx rfl (hb hby at_239) rfl rfl k) ?_
      show own_Wp p e below _ T85 (mkF m 241 #[.val (.int p0), .val (.int p1), .val (.int p2), .val (.int p3), .val (.int c1), .val (.int c2), .val (.int c3), .val (.int c4), .val (.int c5), .val (.int c6), .val .null, .val (.ref b66), .val (.ref b78)] [(.ref b78)])
      obtain ⟨_, T86, L86, X86, hQ86, st86⟩ := own_callV X85 hx hZ hown (hw _ (List.mem_of_getElem? (i := 69) rfl)) (hw _ (List.mem_of_getElem? (i := 70) rfl)) (notFace_of_selects (args := #[]) (mvT hZ (hw _ (List.mem_of_getElem? (i := 72) rfl)))) (hw _ (List.mem_of_getElem? (i := 72) rfl)) (hw _ (List.mem_of_getElem? (i := 71) rfl)) (hw _ (List.mem_of_getElem? (i := 32) rfl)) (hw _ (List.mem_of_getElem? (i := 73) rfl)) (by decide) F82_0 (rm12_11 l Z a0 hw hS [] b78 c4 T82.heap n0 O82 F82_4 hc4) (W := 0) (by decide) (by decide) [] rfl (lenOf pd13 rfl) (Ls := #[.val (.int p0), .val (.int p1), .val (.int p2), .val (.int p3), .val (.int c1), .val (.int c2), .val (.int c3), .val (.int c4), .val (.int c5), .val (.int c6), .val .null, .val (.ref b66), .val (.ref b78)]) (by rw [hml]; rfl) (rest := []) (Nat.le_of_eq rfl) (hb hby at_241) e85 (by decide) (by decide)
      refine st86 _ ?_
      obtain ⟨rfl, N86q, e86⟩ := hQ86
      have N86 := Fr.app N85 N86q
      show own_Wp p e below _ T86 (mkF m 244 #[.val (.int p0), .val (.int p1), .val (.int p2), .val (.int p3), .val (.int c1), .val (.int c2), .val (.int c3), .val (.int c4), .val (.int c5), .val (.int c6), .val .null, .val (.ref b66), .val (.ref b78)] [(.int c4)])
      refine own_step (fun _ k => XS.iload X86.here hx rfl (hb hby at_244) rfl k) ?_
      show own_Wp p e below _ T86 (mkF m 246 #[.val (.int p0), .val (.int p1), .val (.int p2), .val (.int p3), .val (.int c1), .val (.int c2), .val (.int c3), .val (.int c4), .val (.int c5), .val (.int c6), .val .null, .val (.ref b66), .val (.ref b78)] [(.int c4), (.int c4)])
      refine own_step (fun _ k => XS.icmpNo X86.here hx rfl (hb hby at_246) rfl (teq (rfl : c4 = c4)).2 k) ?_
      show own_Wp p e below _ T86 (mkF m 249 #[.val (.int p0), .val (.int p1), .val (.int p2), .val (.int p3), .val (.int c1), .val (.int c2), .val (.int c3), .val (.int c4), .val (.int c5), .val (.int c6), .val .null, .val (.ref b66), .val (.ref b78)] [])
      refine own_step (fun _ k => XS.aload X86.here hx rfl (hb hby at_249) rfl rfl k) ?_
      show own_Wp p e below _ T86 (mkF m 251 #[.val (.int p0), .val (.int p1), .val (.int p2), .val (.int p3), .val (.int c1), .val (.int c2), .val (.int c3), .val (.int c4), .val (.int c5), .val (.int c6), .val .null, .val (.ref b66), .val (.ref b78)] [(.ref b78)])
      obtain ⟨_, T87, L87, X87, hQ87, st87⟩ := own_callV X86 hx hZ hown (hw _ (List.mem_of_getElem? (i := 74) rfl)) (hw _ (List.mem_of_getElem? (i := 75) rfl)) (notFace_of_selects (args := #[]) (mvT hZ (hw _ (List.mem_of_getElem? (i := 77) rfl)))) (hw _ (List.mem_of_getElem? (i := 77) rfl)) (hw _ (List.mem_of_getElem? (i := 76) rfl)) (hw _ (List.mem_of_getElem? (i := 32) rfl)) (hw _ (List.mem_of_getElem? (i := 78) rfl)) (by decide) F82_0 (rm13_12 l Z a0 hw hS [] b78 c5 T82.heap n0 O82 F82_5 hc5) (W := 0) (by decide) (by decide) [] rfl (lenOf pd13 rfl) (Ls := #[.val (.int p0), .val (.int p1), .val (.int p2), .val (.int p3), .val (.int c1), .val (.int c2), .val (.int c3), .val (.int c4), .val (.int c5), .val (.int c6), .val .null, .val (.ref b66), .val (.ref b78)]) (by rw [hml]; rfl) (rest := []) (Nat.le_of_eq rfl) (hb hby at_251) e86 (by decide) (by decide)
      refine st87 _ ?_
      obtain ⟨rfl, N87q, e87⟩ := hQ87
      have N87 := Fr.app N86 N87q
      show own_Wp p e below _ T87 (mkF m 254 #[.val (.int p0), .val (.int p1), .val (.int p2), .val (.int p3), .val (.int c1), .val (.int c2), .val (.int c3), .val (.int c4), .val (.int c5), .val (.int c6), .val .null, .val (.ref b66), .val (.ref b78)] [(.int c5)])
      refine own_step (fun _ k => XS.iload X87.here hx rfl (hb hby at_254) rfl k) ?_
      show own_Wp p e below _ T87 (mkF m 256 #[.val (.int p0), .val (.int p1), .val (.int p2), .val (.int p3), .val (.int c1), .val (.int c2), .val (.int c3), .val (.int c4), .val (.int c5), .val (.int c6), .val .null, .val (.ref b66), .val (.ref b78)] [(.int c5), (.int c5)])
      refine own_step (fun _ k => XS.icmpNo X87.here hx rfl (hb hby at_256) rfl (teq (rfl : c5 = c5)).2 k) ?_
      show own_Wp p e below _ T87 (mkF m 259 #[.val (.int p0), .val (.int p1), .val (.int p2), .val (.int p3), .val (.int c1), .val (.int c2), .val (.int c3), .val (.int c4), .val (.int c5), .val (.int c6), .val .null, .val (.ref b66), .val (.ref b78)] [])
      refine own_step (fun _ k => XS.aload X87.here hx rfl (hb hby at_259) rfl rfl k) ?_
      show own_Wp p e below _ T87 (mkF m 261 #[.val (.int p0), .val (.int p1), .val (.int p2), .val (.int p3), .val (.int c1), .val (.int c2), .val (.int c3), .val (.int c4), .val (.int c5), .val (.int c6), .val .null, .val (.ref b66), .val (.ref b78)] [(.ref b78)])
      obtain ⟨_, T88, L88, X88, hQ88, st88⟩ := own_callV X87 hx hZ hown (hw _ (List.mem_of_getElem? (i := 79) rfl)) (hw _ (List.mem_of_getElem? (i := 80) rfl)) (notFace_of_selects (args := #[]) (mvT hZ (hw _ (List.mem_of_getElem? (i := 82) rfl)))) (hw _ (List.mem_of_getElem? (i := 82) rfl)) (hw _ (List.mem_of_getElem? (i := 81) rfl)) (hw _ (List.mem_of_getElem? (i := 32) rfl)) (hw _ (List.mem_of_getElem? (i := 83) rfl)) (by decide) F82_0 (rm14_13 l Z a0 hw hS [] b78 c6 T82.heap n0 O82 F82_6 hc6) (W := 0) (by decide) (by decide) [] rfl (lenOf pd13 rfl) (Ls := #[.val (.int p0), .val (.int p1), .val (.int p2), .val (.int p3), .val (.int c1), .val (.int c2), .val (.int c3), .val (.int c4), .val (.int c5), .val (.int c6), .val .null, .val (.ref b66), .val (.ref b78)]) (by rw [hml]; rfl) (rest := []) (Nat.le_of_eq rfl) (hb hby at_261) e87 (by decide) (by decide)
      refine st88 _ ?_
      obtain ⟨rfl, N88q, e88⟩ := hQ88
      have N88 := Fr.app N87 N88q
      show own_Wp p e below _ T88 (mkF m 264 #[.val (.int p0), .val (.int p1), .val (.int p2), .val (.int p3), .val (.int c1), .val (.int c2), .val (.int c3), .val (.int c4), .val (.int c5), .val (.int c6), .val .null, .val (.ref b66), .val (.ref b78)] [(.int c6)])
      refine own_step (fun _ k => XS.iload X88.here hx rfl (hb hby at_264) rfl k) ?_
      show own_Wp p e below _ T88 (mkF m 266 #[.val (.int p0), .val (.int p1), .val (.int p2), .val (.int p3), .val (.int c1), .val (.int c2), .val (.int c3), .val (.int c4), .val (.int c5), .val (.int c6), .val .null, .val (.ref b66), .val (.ref b78)] [(.int c6), (.int c6)])
      refine own_step (fun _ k => XS.icmpNo X88.here hx rfl (hb hby at_266) rfl (teq (rfl : c6 = c6)).2 k) ?_
      show own_Wp p e below _ T88 (mkF m 269 #[.val (.int p0), .val (.int p1), .val (.int p2), .val (.int p3), .val (.int c1), .val (.int c2), .val (.int c3), .val (.int c4), .val (.int c5), .val (.int c6), .val .null, .val (.ref b66), .val (.ref b78)] [])
      refine own_step (fun _ k => XS.iconst X88.here hx rfl (hb hby at_269) k) ?_
      show own_Wp p e below _ T88 (mkF m 270 #[.val (.int p0), .val (.int p1), .val (.int p2), .val (.int p3), .val (.int c1), .val (.int c2), .val (.int c3), .val (.int c4), .val (.int c5), .val (.int c6), .val .null, .val (.ref b66), .val (.ref b78)] [(.int (1 : Int32))])
      refine own_step (fun _ k => XS.goto X88.here hx rfl (pc0 := 270) (pc' := 274) rfl (hb hby at_270) (by decide) (by decide) k) ?_
      show own_Wp p e below _ T88 (mkF m 274 #[.val (.int p0), .val (.int p1), .val (.int p2), .val (.int p3), .val (.int c1), .val (.int c2), .val (.int c3), .val (.int c4), .val (.int c5), .val (.int c6), .val .null, .val (.ref b66), .val (.ref b78)] [(.int (1 : Int32))])
      exact own_retN X88 hx (t := .boolean) hret (by simp) hlk (hb hby at_274) (by decide) (by decide) ⟨rfl, N88⟩
    · skip
      refine own_step (fun _ k => XS.ifNo X0.here hx rfl (hb hby at_130) rfl ((if0 _ _).trans (feq hc65).1) k) ?_
      show own_Wp p e below _ s₁ (mkF m 133 #[.val (.int p0), .val (.int p1), .val (.int p2), .val (.int p3), .val (.int c1), .val (.int c2), .val (.int c3), .val (.int c4), .val (.int c5), .val (.int c6), .val .null, .unset, .unset] [])
      refine own_step (fun _ k => XS.aconstNull X0.here hx rfl (hb hby at_133) k) ?_
      show own_Wp p e below _ s₁ (mkF m 134 #[.val (.int p0), .val (.int p1), .val (.int p2), .val (.int p3), .val (.int c1), .val (.int c2), .val (.int c3), .val (.int c4), .val (.int c5), .val (.int c6), .val .null, .unset, .unset] [.null])
      refine own_step (fun _ k => XS.goto X0.here hx rfl (pc0 := 134) (pc' := 171) rfl (hb hby at_134) (by decide) (by decide) k) ?_
      show own_Wp p e below _ s₁ (mkF m 171 #[.val (.int p0), .val (.int p1), .val (.int p2), .val (.int p3), .val (.int c1), .val (.int c2), .val (.int c3), .val (.int c4), .val (.int c5), .val (.int c6), .val .null, .unset, .unset] [.null])
      refine own_step (fun _ k => XS.astore X0.here hx rfl (hb hby at_171) rfl rfl (l' := #[.val (.int p0), .val (.int p1), .val (.int p2), .val (.int p3), .val (.int c1), .val (.int c2), .val (.int c3), .val (.int c4), .val (.int c5), .val (.int c6), .val .null, .val .null, .unset]) rfl k) ?_
      show own_Wp p e below _ s₁ (mkF m 173 #[.val (.int p0), .val (.int p1), .val (.int p2), .val (.int p3), .val (.int c1), .val (.int c2), .val (.int c3), .val (.int c4), .val (.int c5), .val (.int c6), .val .null, .val .null, .unset] [])
      obtain ⟨T89, h89, X89, e89, E89, A89, D89, -, st89⟩ := newO X0 hx hZ hown (hw _ (List.mem_of_getElem? (i := 30) rfl)) (hw _ (List.mem_of_getElem? (i := 31) rfl)) (hw _ (List.mem_of_getElem? (i := 32) rfl)) e0 (g := (mkF m 173 #[.val (.int p0), .val (.int p1), .val (.int p2), .val (.int p3), .val (.int c1), .val (.int c2), .val (.int c3), .val (.int c4), .val (.int c5), .val (.int c6), .val .null, .val .null, .unset] [])) rfl (hb hby at_173) (by decide) (by decide)
      obtain ⟨b89, z89⟩ : ∃ z, z = h0.size := ⟨_, rfl⟩
      rw [← z89] at A89 D89 st89
      refine own_step st89 ?_
      have g89 : n0 ≤ b89 := Nat.le_trans (O0.1 ▸ O0.2.1) (Nat.le_of_eq z89.symm)
      have y89 : h0.size ≤ b89 := Nat.le_trans (Nat.le_refl _) (Nat.le_of_eq z89.symm)
      have O89 := O0.ext E89
      have K89 : Keep h0 h89 [] := (Keep.refl h0 []).ext E89
      have F89_43 : Fld Z h89 b89 "com/example/fieldnote/fieldnote/text/TextSyntax$Entry" "name" "Ljava/lang/String;" .null := D89 (Or.inl (hw _ (List.mem_of_getElem? (i := 43) rfl))) (ty := (.object "java/lang/String")) (by decide)
      have F89_45 : Fld Z h89 b89 "com/example/fieldnote/fieldnote/text/TextSyntax$Entry" "place" "I" (.int (0 : Int32)) := D89 (Or.inl (hw _ (List.mem_of_getElem? (i := 45) rfl))) (ty := .int) (by decide)
      have F89_47 : Fld Z h89 b89 "com/example/fieldnote/fieldnote/text/TextSyntax$Entry" "field" "Lcom/example/fieldnote/fieldnote/schema/Field;" .null := D89 (Or.inl (hw _ (List.mem_of_getElem? (i := 47) rfl))) (ty := (.object "com/example/fieldnote/fieldnote/schema/Field")) (by decide)
      have F89_49 : Fld Z h89 b89 "com/example/fieldnote/fieldnote/text/TextSyntax$Entry" "colon" "Z" (.int (0 : Int32)) := D89 (Or.inl (hw _ (List.mem_of_getElem? (i := 49) rfl))) (ty := .boolean) (by decide)
      have F89_51 : Fld Z h89 b89 "com/example/fieldnote/fieldnote/text/TextSyntax$Entry" "inList" "Z" (.int (0 : Int32)) := D89 (Or.inl (hw _ (List.mem_of_getElem? (i := 51) rfl))) (ty := .boolean) (by decide)
      have F89_53 : Fld Z h89 b89 "com/example/fieldnote/fieldnote/text/TextSyntax$Entry" "messages" "Z" (.int (0 : Int32)) := D89 (Or.inl (hw _ (List.mem_of_getElem? (i := 53) rfl))) (ty := .boolean) (by decide)
      show own_Wp p e below _ T89 (mkF m 176 #[.val (.int p0), .val (.int p1), .val (.int p2), .val (.int p3), .val (.int c1), .val (.int c2), .val (.int c3), .val (.int c4), .val (.int c5), .val (.int c6), .val .null, .val .null, .unset] [(.ref b89)])
      refine own_step (fun _ k => XS.dup X89.here hx rfl (hb hby at_176) rfl rfl k) ?_
      show own_Wp p e below _ T89 (mkF m 177 #[.val (.int p0), .val (.int p1), .val (.int p2), .val (.int p3), .val (.int c1), .val (.int c2), .val (.int c3), .val (.int c4), .val (.int c5), .val (.int c6), .val .null, .val .null, .unset] [(.ref b89), (.ref b89)])
      obtain ⟨_, T90, L90, X90, hQ90, st90⟩ := own_callN X89 hx hZ rfl hown (hw _ (List.mem_of_getElem? (i := 33) rfl)) (hw _ (List.mem_of_getElem? (i := 34) rfl)) (hw _ (List.mem_of_getElem? (i := 32) rfl)) (hw _ (List.mem_of_getElem? (i := 35) rfl)) (by decide) (rm7_5 l Z a0 hw hS [] b89 h89 n0 O89) (b := b89) (W := 1) (by decide) (by decide) [] rfl (lenOf pd8 rfl) (Ls := #[.val (.int p0), .val (.int p1), .val (.int p2), .val (.int p3), .val (.int c1), .val (.int c2), .val (.int c3), .val (.int c4), .val (.int c5), .val (.int c6), .val .null, .val .null, .unset]) (by rw [hml]; rfl) (rest := [(.ref b89)]) (Nat.le_of_eq rfl) (hb hby at_177) e89 (by decide) (by decide)
      refine st90 _ ?_
      obtain ⟨rfl, N90q, e90⟩ := hQ90
      have N90 := Fr.app (Fr.nil n0) N90q
      show own_Wp p e below _ T90 (mkF m 180 #[.val (.int p0), .val (.int p1), .val (.int p2), .val (.int p3), .val (.int c1), .val (.int c2), .val (.int c3), .val (.int c4), .val (.int c5), .val (.int c6), .val .null, .val .null, .unset] [(.ref b89)])
      refine own_step (fun _ k => XS.astore X90.here hx rfl (hb hby at_180) rfl rfl (l' := #[.val (.int p0), .val (.int p1), .val (.int p2), .val (.int p3), .val (.int c1), .val (.int c2), .val (.int c3), .val (.int c4), .val (.int c5), .val (.int c6), .val .null, .val .null, .val (.ref b89)]) rfl k) ?_
      show own_Wp p e below _ T90 (mkF m 182 #[.val (.int p0), .val (.int p1), .val (.int p2), .val (.int p3), .val (.int c1), .val (.int c2), .val (.int c3), .val (.int c4), .val (.int c5), .val (.int c6), .val .null, .val .null, .val (.ref b89)] [])
      refine own_step (fun _ k => XS.aload X90.here hx rfl (hb hby at_182) rfl rfl k) ?_
      show own_Wp p e below _ T90 (mkF m 184 #[.val (.int p0), .val (.int p1), .val (.int p2), .val (.int p3), .val (.int c1), .val (.int c2), .val (.int c3), .val (.int c4), .val (.int c5), .val (.int c6), .val .null, .val .null, .val (.ref b89)] [(.ref b89)])
      refine own_step (fun _ k => XS.aload X90.here hx rfl (hb hby at_184) rfl rfl k) ?_
      show own_Wp p e below _ T90 (mkF m 186 #[.val (.int p0), .val (.int p1), .val (.int p2), .val (.int p3), .val (.int c1), .val (.int c2), .val (.int c3), .val (.int c4), .val (.int c5), .val (.int c6), .val .null, .val .null, .val (.ref b89)] [.null, (.ref b89)])
      refine own_step (fun _ k => XS.iloadN X90.here hx rfl (hb hby at_186) rfl k) ?_
      show own_Wp p e below _ T90 (mkF m 187 #[.val (.int p0), .val (.int p1), .val (.int p2), .val (.int p3), .val (.int c1), .val (.int c2), .val (.int c3), .val (.int c4), .val (.int c5), .val (.int c6), .val .null, .val .null, .val (.ref b89)] [(.int p0), .null, (.ref b89)])
      refine own_step (fun _ k => XS.aconstNull X90.here hx rfl (hb hby at_187) k) ?_
      show own_Wp p e below _ T90 (mkF m 188 #[.val (.int p0), .val (.int p1), .val (.int p2), .val (.int p3), .val (.int c1), .val (.int c2), .val (.int c3), .val (.int c4), .val (.int c5), .val (.int c6), .val .null, .val .null, .val (.ref b89)] [.null, (.int p0), .null, (.ref b89)])
      refine own_step (fun _ k => XS.iload X90.here hx rfl (hb hby at_188) rfl k) ?_
      show own_Wp p e below _ T90 (mkF m 190 #[.val (.int p0), .val (.int p1), .val (.int p2), .val (.int p3), .val (.int c1), .val (.int c2), .val (.int c3), .val (.int c4), .val (.int c5), .val (.int c6), .val .null, .val .null, .val (.ref b89)] [(.int c1), .null, (.int p0), .null, (.ref b89)])
      refine own_step (fun _ k => XS.iload X90.here hx rfl (hb hby at_190) rfl k) ?_
      show own_Wp p e below _ T90 (mkF m 192 #[.val (.int p0), .val (.int p1), .val (.int p2), .val (.int p3), .val (.int c1), .val (.int c2), .val (.int c3), .val (.int c4), .val (.int c5), .val (.int c6), .val .null, .val .null, .val (.ref b89)] [(.int c2), (.int c1), .null, (.int p0), .null, (.ref b89)])
      refine own_step (fun _ k => XS.iload X90.here hx rfl (hb hby at_192) rfl k) ?_
      show own_Wp p e below _ T90 (mkF m 194 #[.val (.int p0), .val (.int p1), .val (.int p2), .val (.int p3), .val (.int c1), .val (.int c2), .val (.int c3), .val (.int c4), .val (.int c5), .val (.int c6), .val .null, .val .null, .val (.ref b89)] [(.int c3), (.int c2), (.int c1), .null, (.int p0), .null, (.ref b89)])
      obtain ⟨_, T91, L91, X91, hQ91, st91⟩ := own_callV X90 hx hZ hown (hw _ (List.mem_of_getElem? (i := 37) rfl)) (hw _ (List.mem_of_getElem? (i := 38) rfl)) (notFace_of_selects (args := #[]) (mvT hZ (hw _ (List.mem_of_getElem? (i := 40) rfl)))) (hw _ (List.mem_of_getElem? (i := 40) rfl)) (hw _ (List.mem_of_getElem? (i := 39) rfl)) (hw _ (List.mem_of_getElem? (i := 32) rfl)) (hw _ (List.mem_of_getElem? (i := 41) rfl)) (by decide) A89 (rm8_20 l Z a0 hw hS [] b89 p0 c1 c2 c3 h89 n0 O89 A89 F89_43 F89_45 F89_47 F89_49 F89_51 F89_53 g89 hc1 hc2 hc3) (W := 0) (by decide) (by decide) [.null, (.int p0), .null, (.int c1), (.int c2), (.int c3)] rfl (lenOf pd9 rfl) (Ls := #[.val (.int p0), .val (.int p1), .val (.int p2), .val (.int p3), .val (.int c1), .val (.int c2), .val (.int c3), .val (.int c4), .val (.int c5), .val (.int c6), .val .null, .val .null, .val (.ref b89)]) (by rw [hml]; rfl) (rest := []) (Nat.le_of_eq rfl) (hb hby at_194) e90 (by decide) (by decide)
      refine st91 _ ?_
      obtain ⟨rfl, N91q, K91q, F91_0, F91_1, F91_2, F91_3, F91_4, F91_5, F91_6⟩ := hQ91
      have N91 := Fr.app N90 N91q
      have O91 := O89.keep K91q (allS g89 all0)
      have K91 : Keep h0 T91.heap [] := Keep.trans K89 K91q (allS (Or.inr y89) all0)
      show own_Wp p e below _ T91 (mkF m 197 #[.val (.int p0), .val (.int p1), .val (.int p2), .val (.int p3), .val (.int c1), .val (.int c2), .val (.int c3), .val (.int c4), .val (.int c5), .val (.int c6), .val .null, .val .null, .val (.ref b89)] [])
      refine own_step (fun _ k => XS.aload X91.here hx rfl (hb hby at_197) rfl rfl k) ?_
      show own_Wp p e below _ T91 (mkF m 199 #[.val (.int p0), .val (.int p1), .val (.int p2), .val (.int p3), .val (.int c1), .val (.int c2), .val (.int c3), .val (.int c4), .val (.int c5), .val (.int c6), .val .null, .val .null, .val (.ref b89)] [(.ref b89)])
      refine own_step (fun _ k => XS.aload X91.here hx rfl (hb hby at_199) rfl rfl k) ?_
      show own_Wp p e below _ T91 (mkF m 201 #[.val (.int p0), .val (.int p1), .val (.int p2), .val (.int p3), .val (.int c1), .val (.int c2), .val (.int c3), .val (.int c4), .val (.int c5), .val (.int c6), .val .null, .val .null, .val (.ref b89)] [.null, (.ref b89)])
      refine own_step (fun _ k => XS.iloadN X91.here hx rfl (hb hby at_201) rfl k) ?_
      show own_Wp p e below _ T91 (mkF m 202 #[.val (.int p0), .val (.int p1), .val (.int p2), .val (.int p3), .val (.int c1), .val (.int c2), .val (.int c3), .val (.int c4), .val (.int c5), .val (.int c6), .val .null, .val .null, .val (.ref b89)] [(.int p1), .null, (.ref b89)])
      refine own_step (fun _ k => XS.aconstNull X91.here hx rfl (hb hby at_202) k) ?_
      show own_Wp p e below _ T91 (mkF m 203 #[.val (.int p0), .val (.int p1), .val (.int p2), .val (.int p3), .val (.int c1), .val (.int c2), .val (.int c3), .val (.int c4), .val (.int c5), .val (.int c6), .val .null, .val .null, .val (.ref b89)] [.null, (.int p1), .null, (.ref b89)])
      refine own_step (fun _ k => XS.iload X91.here hx rfl (hb hby at_203) rfl k) ?_
      show own_Wp p e below _ T91 (mkF m 205 #[.val (.int p0), .val (.int p1), .val (.int p2), .val (.int p3), .val (.int c1), .val (.int c2), .val (.int c3), .val (.int c4), .val (.int c5), .val (.int c6), .val .null, .val .null, .val (.ref b89)] [(.int c4), .null, (.int p1), .null, (.ref b89)])
      refine own_step (fun _ k => XS.iload X91.here hx rfl (hb hby at_205) rfl k) ?_
      show own_Wp p e below _ T91 (mkF m 207 #[.val (.int p0), .val (.int p1), .val (.int p2), .val (.int p3), .val (.int c1), .val (.int c2), .val (.int c3), .val (.int c4), .val (.int c5), .val (.int c6), .val .null, .val .null, .val (.ref b89)] [(.int c5), (.int c4), .null, (.int p1), .null, (.ref b89)])
      refine own_step (fun _ k => XS.iload X91.here hx rfl (hb hby at_207) rfl k) ?_
      show own_Wp p e below _ T91 (mkF m 209 #[.val (.int p0), .val (.int p1), .val (.int p2), .val (.int p3), .val (.int c1), .val (.int c2), .val (.int c3), .val (.int c4), .val (.int c5), .val (.int c6), .val .null, .val .null, .val (.ref b89)] [(.int c6), (.int c5), (.int c4), .null, (.int p1), .null, (.ref b89)])
      obtain ⟨_, T92, L92, X92, hQ92, st92⟩ := own_callV X91 hx hZ hown (hw _ (List.mem_of_getElem? (i := 37) rfl)) (hw _ (List.mem_of_getElem? (i := 38) rfl)) (notFace_of_selects (args := #[]) (mvT hZ (hw _ (List.mem_of_getElem? (i := 40) rfl)))) (hw _ (List.mem_of_getElem? (i := 40) rfl)) (hw _ (List.mem_of_getElem? (i := 39) rfl)) (hw _ (List.mem_of_getElem? (i := 32) rfl)) (hw _ (List.mem_of_getElem? (i := 41) rfl)) (by decide) F91_0 (rm8_22 l Z a0 hw hS [] b89 p1 c4 c5 c6 p0 c1 c2 c3 T91.heap n0 O91 F91_0 F91_1 F91_2 F91_3 F91_4 F91_5 F91_6 g89 hc4 hc5 hc6) (W := 0) (by decide) (by decide) [.null, (.int p1), .null, (.int c4), (.int c5), (.int c6)] rfl (lenOf pd9 rfl) (Ls := #[.val (.int p0), .val (.int p1), .val (.int p2), .val (.int p3), .val (.int c1), .val (.int c2), .val (.int c3), .val (.int c4), .val (.int c5), .val (.int c6), .val .null, .val .null, .val (.ref b89)]) (by rw [hml]; rfl) (rest := []) (Nat.le_of_eq rfl) (hb hby at_209) rfl (by decide) (by decide)
      refine st92 _ ?_
      obtain ⟨rfl, N92q, K92q, F92_0, F92_1, F92_2, F92_3, F92_4, F92_5, F92_6⟩ := hQ92
      have N92 := Fr.app N91 N92q
      have O92 := O91.keep K92q (allS g89 all0)
      have K92 : Keep h0 T92.heap [] := Keep.trans K91 K92q (allS (Or.inr y89) all0)
      show own_Wp p e below _ T92 (mkF m 212 #[.val (.int p0), .val (.int p1), .val (.int p2), .val (.int p3), .val (.int c1), .val (.int c2), .val (.int c3), .val (.int c4), .val (.int c5), .val (.int c6), .val .null, .val .null, .val (.ref b89)] [])
      refine own_step (fun _ k => XS.aload X92.here hx rfl (hb hby at_212) rfl rfl k) ?_
      show own_Wp p e below _ T92 (mkF m 214 #[.val (.int p0), .val (.int p1), .val (.int p2), .val (.int p3), .val (.int c1), .val (.int c2), .val (.int c3), .val (.int c4), .val (.int c5), .val (.int c6), .val .null, .val .null, .val (.ref b89)] [(.ref b89)])
      obtain ⟨_, T93, L93, X93, hQ93, st93⟩ := own_callV X92 hx hZ hown (hw _ (List.mem_of_getElem? (i := 54) rfl)) (hw _ (List.mem_of_getElem? (i := 55) rfl)) (notFace_of_selects (args := #[]) (mvT hZ (hw _ (List.mem_of_getElem? (i := 57) rfl)))) (hw _ (List.mem_of_getElem? (i := 57) rfl)) (hw _ (List.mem_of_getElem? (i := 56) rfl)) (hw _ (List.mem_of_getElem? (i := 32) rfl)) (hw _ (List.mem_of_getElem? (i := 58) rfl)) (by decide) F92_0 (rm9_15 l Z a0 hw hS [] b89 T92.heap n0 O92 F92_1) (W := 0) (by decide) (by decide) [] rfl (lenOf pd10 rfl) (Ls := #[.val (.int p0), .val (.int p1), .val (.int p2), .val (.int p3), .val (.int c1), .val (.int c2), .val (.int c3), .val (.int c4), .val (.int c5), .val (.int c6), .val .null, .val .null, .val (.ref b89)]) (by rw [hml]; rfl) (rest := []) (Nat.le_of_eq rfl) (hb hby at_214) rfl (by decide) (by decide)
      refine st93 _ ?_
      obtain ⟨rfl, N93q, e93⟩ := hQ93
      have N93 := Fr.app N92 N93q
      show own_Wp p e below _ T93 (mkF m 217 #[.val (.int p0), .val (.int p1), .val (.int p2), .val (.int p3), .val (.int c1), .val (.int c2), .val (.int c3), .val (.int c4), .val (.int c5), .val (.int c6), .val .null, .val .null, .val (.ref b89)] [.null])
      refine own_step (fun _ k => XS.aload X93.here hx rfl (hb hby at_217) rfl rfl k) ?_
      show own_Wp p e below _ T93 (mkF m 219 #[.val (.int p0), .val (.int p1), .val (.int p2), .val (.int p3), .val (.int c1), .val (.int c2), .val (.int c3), .val (.int c4), .val (.int c5), .val (.int c6), .val .null, .val .null, .val (.ref b89)] [.null, .null])
      refine own_step (fun _ k => Jvm.RoadKit.acmp (g := (mkF m 219 #[.val (.int p0), .val (.int p1), .val (.int p2), .val (.int p3), .val (.int c1), .val (.int c2), .val (.int c3), .val (.int c4), .val (.int c5), .val (.int c6), .val .null, .val .null, .val (.ref b89)] [.null, .null])) X93 hx rfl rfl rfl (pc0 := 219) (pc' := 222) (same := true) rfl (hb hby at_219) rfl (decide_eq_true rfl) (by decide) (by decide) k) ?_
      show own_Wp p e below _ T93 (mkF m 222 #[.val (.int p0), .val (.int p1), .val (.int p2), .val (.int p3), .val (.int c1), .val (.int c2), .val (.int c3), .val (.int c4), .val (.int c5), .val (.int c6), .val .null, .val .null, .val (.ref b89)] [])
      refine own_step (fun _ k => XS.aload X93.here hx rfl (hb hby at_222) rfl rfl k) ?_
      show own_Wp p e below _ T93 (mkF m 224 #[.val (.int p0), .val (.int p1), .val (.int p2), .val (.int p3), .val (.int c1), .val (.int c2), .val (.int c3), .val (.int c4), .val (.int c5), .val (.int c6), .val .null, .val .null, .val (.ref b89)] [(.ref b89)])
      obtain ⟨_, T94, L94, X94, hQ94, st94⟩ := own_callV X93 hx hZ hown (hw _ (List.mem_of_getElem? (i := 59) rfl)) (hw _ (List.mem_of_getElem? (i := 60) rfl)) (notFace_of_selects (args := #[]) (mvT hZ (hw _ (List.mem_of_getElem? (i := 62) rfl)))) (hw _ (List.mem_of_getElem? (i := 62) rfl)) (hw _ (List.mem_of_getElem? (i := 61) rfl)) (hw _ (List.mem_of_getElem? (i := 32) rfl)) (hw _ (List.mem_of_getElem? (i := 63) rfl)) (by decide) F92_0 (rm10_9 l Z a0 hw hS [] b89 p1 T92.heap n0 O92 F92_2) (W := 0) (by decide) (by decide) [] rfl (lenOf pd11 rfl) (Ls := #[.val (.int p0), .val (.int p1), .val (.int p2), .val (.int p3), .val (.int c1), .val (.int c2), .val (.int c3), .val (.int c4), .val (.int c5), .val (.int c6), .val .null, .val .null, .val (.ref b89)]) (by rw [hml]; rfl) (rest := []) (Nat.le_of_eq rfl) (hb hby at_224) e93 (by decide) (by decide)
      refine st94 _ ?_
      obtain ⟨rfl, N94q, e94⟩ := hQ94
      have N94 := Fr.app N93 N94q
      show own_Wp p e below _ T94 (mkF m 227 #[.val (.int p0), .val (.int p1), .val (.int p2), .val (.int p3), .val (.int c1), .val (.int c2), .val (.int c3), .val (.int c4), .val (.int c5), .val (.int c6), .val .null, .val .null, .val (.ref b89)] [(.int p1)])
      refine own_step (fun _ k => XS.iloadN X94.here hx rfl (hb hby at_227) rfl k) ?_
      show own_Wp p e below _ T94 (mkF m 228 #[.val (.int p0), .val (.int p1), .val (.int p2), .val (.int p3), .val (.int c1), .val (.int c2), .val (.int c3), .val (.int c4), .val (.int c5), .val (.int c6), .val .null, .val .null, .val (.ref b89)] [(.int p1), (.int p1)])
      refine own_step (fun _ k => XS.icmpNo X94.here hx rfl (hb hby at_228) rfl (teq (rfl : p1 = p1)).2 k) ?_
      show own_Wp p e below _ T94 (mkF m 231 #[.val (.int p0), .val (.int p1), .val (.int p2), .val (.int p3), .val (.int c1), .val (.int c2), .val (.int c3), .val (.int c4), .val (.int c5), .val (.int c6), .val .null, .val .null, .val (.ref b89)] [])
      refine own_step (fun _ k => XS.aload X94.here hx rfl (hb hby at_231) rfl rfl k) ?_
      show own_Wp p e below _ T94 (mkF m 233 #[.val (.int p0), .val (.int p1), .val (.int p2), .val (.int p3), .val (.int c1), .val (.int c2), .val (.int c3), .val (.int c4), .val (.int c5), .val (.int c6), .val .null, .val .null, .val (.ref b89)] [(.ref b89)])
      obtain ⟨_, T95, L95, X95, hQ95, st95⟩ := own_callV X94 hx hZ hown (hw _ (List.mem_of_getElem? (i := 64) rfl)) (hw _ (List.mem_of_getElem? (i := 65) rfl)) (notFace_of_selects (args := #[]) (mvT hZ (hw _ (List.mem_of_getElem? (i := 67) rfl)))) (hw _ (List.mem_of_getElem? (i := 67) rfl)) (hw _ (List.mem_of_getElem? (i := 66) rfl)) (hw _ (List.mem_of_getElem? (i := 32) rfl)) (hw _ (List.mem_of_getElem? (i := 68) rfl)) (by decide) F92_0 (rm11_10 l Z a0 hw hS [] b89 T92.heap n0 O92 F92_3) (W := 0) (by decide) (by decide) [] rfl (lenOf pd12 rfl) (Ls := #[.val (.int p0), .val (.int p1), .val (.int p2), .val (.int p3), .val (.int c1), .val (.int c2), .val (.int c3), .val (.int c4), .val (.int c5), .val (.int c6), .val .null, .val .null, .val (.ref b89)]) (by rw [hml]; rfl) (rest := []) (Nat.le_of_eq rfl) (hb hby at_233) e94 (by decide) (by decide)
      refine st95 _ ?_
      obtain ⟨rfl, N95q, e95⟩ := hQ95
      have N95 := Fr.app N94 N95q
      show own_Wp p e below _ T95 (mkF m 236 #[.val (.int p0), .val (.int p1), .val (.int p2), .val (.int p3), .val (.int c1), .val (.int c2), .val (.int c3), .val (.int c4), .val (.int c5), .val (.int c6), .val .null, .val .null, .val (.ref b89)] [.null])
      refine own_step (fun _ k => XS.ifnonnullNo X95.here hx rfl (hb hby at_236) rfl k) ?_
      show own_Wp p e below _ T95 (mkF m 239 #[.val (.int p0), .val (.int p1), .val (.int p2), .val (.int p3), .val (.int c1), .val (.int c2), .val (.int c3), .val (.int c4), .val (.int c5), .val (.int c6), .val .null, .val .null, .val (.ref b89)] [])
      refine own_step (fun _ k => XS.aload X95.here hx rfl (hb hby at_239) rfl rfl k) ?_
      show own_Wp p e below _ T95 (mkF m 241 #[.val (.int p0), .val (.int p1), .val (.int p2), .val (.int p3), .val (.int c1), .val (.int c2), .val (.int c3), .val (.int c4), .val (.int c5), .val (.int c6), .val .null, .val .null, .val (.ref b89)] [(.ref b89)])
      obtain ⟨_, T96, L96, X96, hQ96, st96⟩ := own_callV X95 hx hZ hown (hw _ (List.mem_of_getElem? (i := 69) rfl)) (hw _ (List.mem_of_getElem? (i := 70) rfl)) (notFace_of_selects (args := #[]) (mvT hZ (hw _ (List.mem_of_getElem? (i := 72) rfl)))) (hw _ (List.mem_of_getElem? (i := 72) rfl)) (hw _ (List.mem_of_getElem? (i := 71) rfl)) (hw _ (List.mem_of_getElem? (i := 32) rfl)) (hw _ (List.mem_of_getElem? (i := 73) rfl)) (by decide) F92_0 (rm12_16 l Z a0 hw hS [] b89 c4 T92.heap n0 O92 F92_4 hc4) (W := 0) (by decide) (by decide) [] rfl (lenOf pd13 rfl) (Ls := #[.val (.int p0), .val (.int p1), .val (.int p2), .val (.int p3), .val (.int c1), .val (.int c2), .val (.int c3), .val (.int c4), .val (.int c5), .val (.int c6), .val .null, .val .null, .val (.ref b89)]) (by rw [hml]; rfl) (rest := []) (Nat.le_of_eq rfl) (hb hby at_241) e95 (by decide) (by decide)
      refine st96 _ ?_
      obtain ⟨rfl, N96q, e96⟩ := hQ96
      have N96 := Fr.app N95 N96q
      show own_Wp p e below _ T96 (mkF m 244 #[.val (.int p0), .val (.int p1), .val (.int p2), .val (.int p3), .val (.int c1), .val (.int c2), .val (.int c3), .val (.int c4), .val (.int c5), .val (.int c6), .val .null, .val .null, .val (.ref b89)] [(.int c4)])
      refine own_step (fun _ k => XS.iload X96.here hx rfl (hb hby at_244) rfl k) ?_
      show own_Wp p e below _ T96 (mkF m 246 #[.val (.int p0), .val (.int p1), .val (.int p2), .val (.int p3), .val (.int c1), .val (.int c2), .val (.int c3), .val (.int c4), .val (.int c5), .val (.int c6), .val .null, .val .null, .val (.ref b89)] [(.int c4), (.int c4)])
      refine own_step (fun _ k => XS.icmpNo X96.here hx rfl (hb hby at_246) rfl (teq (rfl : c4 = c4)).2 k) ?_
      show own_Wp p e below _ T96 (mkF m 249 #[.val (.int p0), .val (.int p1), .val (.int p2), .val (.int p3), .val (.int c1), .val (.int c2), .val (.int c3), .val (.int c4), .val (.int c5), .val (.int c6), .val .null, .val .null, .val (.ref b89)] [])
      refine own_step (fun _ k => XS.aload X96.here hx rfl (hb hby at_249) rfl rfl k) ?_
      show own_Wp p e below _ T96 (mkF m 251 #[.val (.int p0), .val (.int p1), .val (.int p2), .val (.int p3), .val (.int c1), .val (.int c2), .val (.int c3), .val (.int c4), .val (.int c5), .val (.int c6), .val .null, .val .null, .val (.ref b89)] [(.ref b89)])
      obtain ⟨_, T97, L97, X97, hQ97, st97⟩ := own_callV X96 hx hZ hown (hw _ (List.mem_of_getElem? (i := 74) rfl)) (hw _ (List.mem_of_getElem? (i := 75) rfl)) (notFace_of_selects (args := #[]) (mvT hZ (hw _ (List.mem_of_getElem? (i := 77) rfl)))) (hw _ (List.mem_of_getElem? (i := 77) rfl)) (hw _ (List.mem_of_getElem? (i := 76) rfl)) (hw _ (List.mem_of_getElem? (i := 32) rfl)) (hw _ (List.mem_of_getElem? (i := 78) rfl)) (by decide) F92_0 (rm13_17 l Z a0 hw hS [] b89 c5 T92.heap n0 O92 F92_5 hc5) (W := 0) (by decide) (by decide) [] rfl (lenOf pd13 rfl) (Ls := #[.val (.int p0), .val (.int p1), .val (.int p2), .val (.int p3), .val (.int c1), .val (.int c2), .val (.int c3), .val (.int c4), .val (.int c5), .val (.int c6), .val .null, .val .null, .val (.ref b89)]) (by rw [hml]; rfl) (rest := []) (Nat.le_of_eq rfl) (hb hby at_251) e96 (by decide) (by decide)
      refine st97 _ ?_
      obtain ⟨rfl, N97q, e97⟩ := hQ97
      have N97 := Fr.app N96 N97q
      show own_Wp p e below _ T97 (mkF m 254 #[.val (.int p0), .val (.int p1), .val (.int p2), .val (.int p3), .val (.int c1), .val (.int c2), .val (.int c3), .val (.int c4), .val (.int c5), .val (.int c6), .val .null, .val .null, .val (.ref b89)] [(.int c5)])
      refine own_step (fun _ k => XS.iload X97.here hx rfl (hb hby at_254) rfl k) ?_
      show own_Wp p e below _ T97 (mkF m 256 #[.val (.int p0), .val (.int p1), .val (.int p2), .val (.int p3), .val (.int c1), .val (.int c2), .val (.int c3), .val (.int c4), .val (.int c5), .val (.int c6), .val .null, .val .null, .val (.ref b89)] [(.int c5), (.int c5)])
      refine own_step (fun _ k => XS.icmpNo X97.here hx rfl (hb hby at_256) rfl (teq (rfl : c5 = c5)).2 k) ?_
      show own_Wp p e below _ T97 (mkF m 259 #[.val (.int p0), .val (.int p1), .val (.int p2), .val (.int p3), .val (.int c1), .val (.int c2), .val (.int c3), .val (.int c4), .val (.int c5), .val (.int c6), .val .null, .val .null, .val (.ref b89)] [])
      refine own_step (fun _ k => XS.aload X97.here hx rfl (hb hby at_259) rfl rfl k) ?_
      show own_Wp p e below _ T97 (mkF m 261 #[.val (.int p0), .val (.int p1), .val (.int p2), .val (.int p3), .val (.int c1), .val (.int c2), .val (.int c3), .val (.int c4), .val (.int c5), .val (.int c6), .val .null, .val .null, .val (.ref b89)] [(.ref b89)])
      obtain ⟨_, T98, L98, X98, hQ98, st98⟩ := own_callV X97 hx hZ hown (hw _ (List.mem_of_getElem? (i := 79) rfl)) (hw _ (List.mem_of_getElem? (i := 80) rfl)) (notFace_of_selects (args := #[]) (mvT hZ (hw _ (List.mem_of_getElem? (i := 82) rfl)))) (hw _ (List.mem_of_getElem? (i := 82) rfl)) (hw _ (List.mem_of_getElem? (i := 81) rfl)) (hw _ (List.mem_of_getElem? (i := 32) rfl)) (hw _ (List.mem_of_getElem? (i := 83) rfl)) (by decide) F92_0 (rm14_18 l Z a0 hw hS [] b89 c6 T92.heap n0 O92 F92_6 hc6) (W := 0) (by decide) (by decide) [] rfl (lenOf pd13 rfl) (Ls := #[.val (.int p0), .val (.int p1), .val (.int p2), .val (.int p3), .val (.int c1), .val (.int c2), .val (.int c3), .val (.int c4), .val (.int c5), .val (.int c6), .val .null, .val .null, .val (.ref b89)]) (by rw [hml]; rfl) (rest := []) (Nat.le_of_eq rfl) (hb hby at_261) e97 (by decide) (by decide)
      refine st98 _ ?_
      obtain ⟨rfl, N98q, e98⟩ := hQ98
      have N98 := Fr.app N97 N98q
      show own_Wp p e below _ T98 (mkF m 264 #[.val (.int p0), .val (.int p1), .val (.int p2), .val (.int p3), .val (.int c1), .val (.int c2), .val (.int c3), .val (.int c4), .val (.int c5), .val (.int c6), .val .null, .val .null, .val (.ref b89)] [(.int c6)])
      refine own_step (fun _ k => XS.iload X98.here hx rfl (hb hby at_264) rfl k) ?_
      show own_Wp p e below _ T98 (mkF m 266 #[.val (.int p0), .val (.int p1), .val (.int p2), .val (.int p3), .val (.int c1), .val (.int c2), .val (.int c3), .val (.int c4), .val (.int c5), .val (.int c6), .val .null, .val .null, .val (.ref b89)] [(.int c6), (.int c6)])
      refine own_step (fun _ k => XS.icmpNo X98.here hx rfl (hb hby at_266) rfl (teq (rfl : c6 = c6)).2 k) ?_
      show own_Wp p e below _ T98 (mkF m 269 #[.val (.int p0), .val (.int p1), .val (.int p2), .val (.int p3), .val (.int c1), .val (.int c2), .val (.int c3), .val (.int c4), .val (.int c5), .val (.int c6), .val .null, .val .null, .val (.ref b89)] [])
      refine own_step (fun _ k => XS.iconst X98.here hx rfl (hb hby at_269) k) ?_
      show own_Wp p e below _ T98 (mkF m 270 #[.val (.int p0), .val (.int p1), .val (.int p2), .val (.int p3), .val (.int c1), .val (.int c2), .val (.int c3), .val (.int c4), .val (.int c5), .val (.int c6), .val .null, .val .null, .val (.ref b89)] [(.int (1 : Int32))])
      refine own_step (fun _ k => XS.goto X98.here hx rfl (pc0 := 270) (pc' := 274) rfl (hb hby at_270) (by decide) (by decide) k) ?_
      show own_Wp p e below _ T98 (mkF m 274 #[.val (.int p0), .val (.int p1), .val (.int p2), .val (.int p3), .val (.int c1), .val (.int c2), .val (.int c3), .val (.int c4), .val (.int c5), .val (.int c6), .val .null, .val .null, .val (.ref b89)] [(.int (1 : Int32))])
      exact own_retN X98 hx (t := .boolean) hret (by simp) hlk (hb hby at_274) (by decide) (by decide) ⟨rfl, N98⟩
set_option maxRecDepth 65536 in
set_option maxHeartbeats 40000000 in
theorem comes_1 {Post : Tables → Env → Array Value → State → Outcome → State → Prop} (hpost : ∀ tb e args s v u, (limb_1_1.after args s (.returned v) u = true ∧ limb_1_2.after args s (.returned v) u = true ∧ True) → FrameEnd s (.returned v) u (Jvm.fieldLocs frame_1_writes args s ++ Jvm.arrayLocs frame_1_arrays args s ++ Jvm.staticLocs frame_1_statics s) 24 128 → Post tb e args s (.returned v) u) :
    ArmFor flags0 classFile x code maxLocals ret World_1 tables_1 room_1 Calls_1 rest_1 Pre_1 Post := by
  intro l hfl _ _ p e ha hc hk s m args below hf hA hF happ hP
  obtain ⟨hcalls, hrest, hpre⟩ := hP
  obtain ⟨-, -, -, hnamed, -, -, -, hat⟩ := (Spec.applies_iff hf).mp happ
  obtain ⟨hg, hn⟩ := and_e (Cond.before_iff.mp (show (Jvm.Cond.and given_1 narrow_1).before args s = true from hpre))
  obtain ⟨gg1, gg2⟩ := and_e hg
  obtain ⟨gg3, gg4⟩ := and_e gg2
  obtain ⟨gg5, gg6⟩ := and_e gg4
  obtain ⟨gg7, gg8⟩ := and_e gg6
  obtain ⟨w0, w1, w2, w3, rfl⟩ : ∃ w0 w1 w2 w3 : Value, args = #[w0, w1, w2, w3] := by
    have hs : args.size = 4 := by simpa [Cond.value, given_1] using gg1
    obtain ⟨L⟩ := args
    match L, hs with
    | [w0, w1, w2, w3], _ => exact ⟨w0, w1, w2, w3, rfl⟩
  have hw := fun d (hd : d ∈ tables_1) => atoms_spec (ws := Jvm.Cond.code x code maxLocals ret :: tables_1) hat d (List.mem_cons_of_mem _ hd)
  have hfit : Fit s := fun {y c} hc i hi => by
    obtain ⟨ha, rfl⟩ := Array.getElem?_eq_some_iff.mp hc
    have q := List.all_eq_true.mp ((Array.all_eq_true_iff_forall_mem.mp hF) _ (Array.getElem_mem ha)) i (List.mem_range.mpr hi)
    simpa [Array.getElem?_eq_getElem hi] using q
  obtain ⟨hsets, hown0⟩ := atoms_of _ (rest_1_c_eq ▸ (show rest_1_c.before _ s = true from hrest))
  have hr0 := Cond.before_iff.mp hown0
  obtain ⟨i0, ei0⟩ := is_v gg3
  obtain rfl : w0 = (.int i0) := Option.some.inj ei0
  obtain ⟨i1, ei1⟩ := is_v gg5
  obtain rfl : w1 = (.int i1) := Option.some.inj ei1
  obtain ⟨i2, ei2⟩ := is_v gg7
  obtain rfl : w2 = (.int i2) := Option.some.inj ei2
  obtain ⟨i3, ei3⟩ := is_v gg8
  obtain rfl : w3 = (.int i3) := Option.some.inj ei3
  obtain ⟨n, o, h1, h2, h3, _, L, rfl, ⟨rfl, N⟩, hq⟩ := rm0 l s _ hw hsets tables_1 i0 i1 i2 i3 s.heap s.heap.size (Old.start s) p e ha hc hk s m _ below hf ((Spec.applies_iff_loose hf).mp happ).1 ⟨rfl, State.Warmed39.refl s, rfl⟩ trivial
  refine ⟨n, _, h1, h2, h3, hpost _ _ _ _ _ _ ⟨Cond.after_iff.mpr rfl, Cond.after_iff.mpr (eq_i res_at (Term.int_eval (1)) rfl), trivial⟩ ⟨hq.1, hq.2.1, (hq.2.2.sift fun y hy => Or.inr (N y hy)).mono (by decide) (by decide)⟩⟩
theorem main_1_1 : Claimed_1_1 := comes_1 fun _ _ _ _ _ _ h hF => ⟨h.1, hF⟩
theorem main_1_2 : Claimed_1_2 := comes_1 fun _ _ _ _ _ _ h hF => ⟨h.2.1, hF⟩

end Jvm.Pilot.@@N@@
namespace Jvm.Pilot.@@N@@
open Jvm Jvm.ClassFile Sem Op Lib Jvm.Free Jvm.Stand Jvm.Pilot.@@N@@.Jvm.D
/-! MADE BY PROGRAM (witnessworld.py) out of the Statement's table words and the real class files: 20 classes; the members and pool entries that the words name. The judged class is class 1, her method 1. -/
namespace start1
open Jvm.ClassFile
def u (s : String) : CpInfo := .utf8 (stringToUtf16 s)
/-- a pool by its gaps: so many unusable entries, then the entry; so many at the end -/
def gap : Nat → List CpInfo → List CpInfo
  | 0, r => r
  | n + 1, r => .unusable :: gap n r
def poolList (es : List (Nat × CpInfo)) (last : Nat) : List CpInfo := es.foldr (fun e r => gap e.1 (e.2 :: r)) (gap last [])
def pool (es : List (Nat × CpInfo)) (last : Nat) : Array CpInfo := ⟨poolList es last⟩
def fileOf (pool : Array CpInfo) (this : Nat) (attrs : Array Attribute := #[]) (ms : Array MethodInfo := #[]) (fl : Nat := 33) (sup : Nat := 0) (ifs : Array Nat := #[]) (fds : Array FieldInfo := #[]) : ClassFile where
  minorVersion := 0
  majorVersion := 65
  constantPool := pool
  accessFlags := fl
  thisClass := this
  superClass := sup
  interfaces := ifs
  fields := fds
  methods := ms
  attributes := attrs
def plain (name : String) (sup : Option ClassId) : Class where
  name := name
  kind := .ordinary
  loader := none
  accessFlags := 33
  super := sup
  interfaces := #[]
  cf := none
  fields := #[]
  methods := #[]
  instanceTypes := #[]
  staticTypes := #[]
  resolved := #[]
  callSites := []
  init := .initialized
  statics := none
  mirror := none

def pool0 : Array CpInfo := pool [(5, u "<init>"), (0, u "()V"), (1, .class_ 10), (1, u "java/lang/Object")] 113

def k0c0 : Code := { maxStack := 0, maxLocals := 1, code := object_method_1_code, exceptionTable := #[], attributes := #[] }
def k0m0 : Method := { name := "<init>", desc := "()V", sig := { parameters := [], returnType := none }, accessFlags := 1, code := some k0c0 }
/-- java/lang/Object -/
def k0 : Class := { plain "java/lang/Object" none with
  accessFlags := 33
  interfaces := #[]
  cf := some (fileOf pool0 8 #[] #[{ accessFlags := 1, nameIndex := 5, descriptorIndex := 6, attributes := #[] }] 33 0 #[] #[])
  fields := #[]
  methods := #[k0m0]
  instanceTypes := #[]
  staticTypes := #[]
  resolved := Array.replicate 124 none
  statics := none }

def pool1 : Array CpInfo := pool [(2, .class_ 4), (0, .nameAndType 5 6), (0, u "java/lang/Object"), (0, u "<init>"), (0, u "()V"), (0, .class_ 8), (0, u "java/lang/String"), (0, .methodref 7 10), (0, .nameAndType 5 11), (0, u "([C)V"), (0, .class_ 13), (0, u "com/example/fieldnote/fieldnote/text/TextSyntax$Entry"), (0, .methodref 12 3), (0, .methodref 12 16), (0, .nameAndType 17 18), (0, u "set"), (0, u "(Ljava/lang/String;ILcom/example/fieldnote/fieldnote/schema/Field;ZZZ)V"), (0, .methodref 12 20), (0, .nameAndType 21 22), (0, u "name"), (0, u "()Ljava/lang/String;"), (0, .methodref 12 24), (0, .nameAndType 25 26), (0, u "place"), (0, u "()I"), (0, .methodref 12 28), (0, .nameAndType 29 30), (0, u "field"), (0, u "()Lcom/example/fieldnote/fieldnote/schema/Field;"), (0, .methodref 12 32), (0, .nameAndType 33 34), (0, u "colon"), (0, u "()Z"), (0, .methodref 12 36), (0, .nameAndType 37 34), (0, u "inList"), (0, .methodref 12 39), (0, .nameAndType 40 34), (0, u "messages"), (0, .class_ 42), (0, u "com/example/fieldnote/fieldnote/text/EntrySetPinLaw"), (2, u "law"), (0, u "(IIII)Z")] 7

def k1m0 : Method := { name := "<init>", desc := "()V", sig := { parameters := [], returnType := none }, accessFlags := 1, code := none }
def k1c1 : Code := { maxStack := 7, maxLocals := 13, code := code, exceptionTable := #[], attributes := #[] }
def k1m1 : Method := { name := "law", desc := "(IIII)Z", sig := { parameters := [.int, .int, .int, .int], returnType := some .boolean }, accessFlags := 9, code := some k1c1 }
/-- com/example/fieldnote/fieldnote/text/EntrySetPinLaw -/
def k1 : Class := { plain "com/example/fieldnote/fieldnote/text/EntrySetPinLaw" (some 0) with
  accessFlags := 49
  interfaces := #[]
  cf := some (fileOf pool1 41 #[] #[{ accessFlags := 1, nameIndex := 5, descriptorIndex := 6, attributes := #[] }, { accessFlags := 9, nameIndex := 45, descriptorIndex := 46, attributes := #[] }] 49 2 #[] #[])
  fields := #[]
  methods := #[k1m0, k1m1]
  instanceTypes := #[]
  staticTypes := #[]
  resolved := Array.replicate 54 none
  statics := none }

def pool2 : Array CpInfo := pool [(1, .class_ 2), (0, u "java/io/Serializable"), (0, .class_ 4), (0, u "java/lang/Object")] 2

/-- java/io/Serializable -/
def k2 : Class := { plain "java/io/Serializable" (some 0) with
  accessFlags := 1537
  interfaces := #[]
  cf := some (fileOf pool2 1 #[] #[] 1537 3 #[] #[])
  fields := #[]
  methods := #[]
  instanceTypes := #[]
  staticTypes := #[]
  resolved := Array.replicate 7 none
  statics := none }

def pool3 : Array CpInfo := pool [(1, .class_ 2), (0, u "java/lang/Comparable"), (0, .class_ 4), (0, u "java/lang/Object")] 7

/-- java/lang/Comparable -/
def k3 : Class := { plain "java/lang/Comparable" (some 0) with
  accessFlags := 1537
  interfaces := #[]
  cf := some (fileOf pool3 1 #[] #[] 1537 3 #[] #[])
  fields := #[]
  methods := #[]
  instanceTypes := #[]
  staticTypes := #[]
  resolved := Array.replicate 12 none
  statics := none }

def pool4 : Array CpInfo := pool [(2, .class_ 4), (1, u "java/lang/CharSequence"), (42, .class_ 48), (0, u "java/lang/CharSequence$1CodePointIterator"), (10, .class_ 60), (0, u "java/lang/CharSequence$1CharIterator"), (5, .class_ 67), (0, u "java/lang/Object")] 63

/-- java/lang/CharSequence -/
def k4 : Class := { plain "java/lang/CharSequence" (some 0) with
  accessFlags := 1537
  interfaces := #[]
  cf := some (fileOf pool4 2 #[.nestMembers #[47, 59]] #[] 1537 66 #[] #[])
  fields := #[]
  methods := #[]
  instanceTypes := #[]
  staticTypes := #[]
  resolved := Array.replicate 131 none
  statics := none }

def pool5 : Array CpInfo := pool [(1, .class_ 2), (0, u "java/lang/constant/Constable"), (0, .class_ 4), (0, u "java/lang/Object")] 6

/-- java/lang/constant/Constable -/
def k5 : Class := { plain "java/lang/constant/Constable" (some 0) with
  accessFlags := 1537
  interfaces := #[]
  cf := some (fileOf pool5 1 #[] #[] 1537 3 #[] #[])
  fields := #[]
  methods := #[]
  instanceTypes := #[]
  staticTypes := #[]
  resolved := Array.replicate 11 none
  statics := none }

def pool6 : Array CpInfo := pool [(1, .class_ 2), (0, u "java/lang/constant/ConstantDesc"), (0, .class_ 4), (0, u "java/lang/Object")] 32

/-- java/lang/constant/ConstantDesc -/
def k6 : Class := { plain "java/lang/constant/ConstantDesc" (some 0) with
  accessFlags := 1537
  interfaces := #[]
  cf := some (fileOf pool6 1 #[] #[] 1537 3 #[] #[])
  fields := #[]
  methods := #[]
  instanceTypes := #[]
  staticTypes := #[]
  resolved := Array.replicate 37 none
  statics := none }

def pool7 : Array CpInfo := pool [(1, .methodref 2 3), (0, .class_ 4), (0, .nameAndType 5 6), (0, u "java/lang/Object"), (0, u "<init>"), (0, u "()V"), (2, .fieldref 10 11), (0, .class_ 12), (0, .nameAndType 13 14), (0, u "java/lang/String"), (0, u "value"), (0, u "[B"), (0, .fieldref 10 16), (0, .nameAndType 17 18), (0, u "coder"), (0, u "B"), (2, u "hash"), (0, u "I"), (2, u "hashIsZero"), (0, u "Z"), (0, .methodref 10 28), (0, .nameAndType 5 29), (0, u "([CIILjava/lang/Void;)V"), (8, .fieldref 10 39), (0, .nameAndType 40 26), (0, u "COMPACT_STRINGS"), (1, .class_ 44), (1, u "java/lang/StringUTF16"), (0, u "compress"), (1, .methodref 42 48), (0, .nameAndType 49 50), (0, u "coderFromArrayLen"), (0, u "([BI)B"), (126, .methodref 42 178), (0, .nameAndType 45 179), (0, u "([CII)[B"), (395, .class_ 576), (0, u "java/lang/CharSequence"), (22, u "CASE_INSENSITIVE_ORDER"), (0, u "Ljava/util/Comparator;"), (409, u "([C)V"), (90, u "serialPersistentFields"), (0, u "[Ljava/io/ObjectStreamField;"), (0, .class_ 1104), (0, u "java/lang/String$CaseInsensitiveComparator"), (1, .class_ 1107), (0, u "java/io/Serializable"), (0, .class_ 1109), (0, u "java/lang/Comparable"), (0, .class_ 1111), (0, u "java/lang/constant/Constable"), (0, .class_ 1113), (0, u "java/lang/constant/ConstantDesc"), (2, u "serialVersionUID"), (0, u "J"), (3, u "REPL"), (0, u "C"), (2, u "LATIN1"), (1, u "UTF16")] 323

def k7m0 : Method := { name := "<init>", desc := "()V", sig := { parameters := [], returnType := none }, accessFlags := 1, code := none }
def k7c1 : Code := { maxStack := 5, maxLocals := 2, code := jdk_42_method_3_code, exceptionTable := #[], attributes := #[] }
def k7m1 : Method := { name := "<init>", desc := "([C)V", sig := { parameters := [(.array .char)], returnType := none }, accessFlags := 1, code := some k7c1 }
def k7c2 : Code := { maxStack := 4, maxLocals := 6, code := jdk_42_method_149_code, exceptionTable := #[], attributes := #[] }
def k7m2 : Method := { name := "<init>", desc := "([CIILjava/lang/Void;)V", sig := { parameters := [(.array .char), .int, .int, (.object "java/lang/Void")], returnType := none }, accessFlags := 2, code := some k7c2 }
/-- java/lang/String -/
def k7 : Class := { plain "java/lang/String" (some 0) with
  accessFlags := 49
  interfaces := #[2, 3, 4, 5, 6]
  cf := some (fileOf pool7 10 #[.nestMembers #[1103]] #[{ accessFlags := 1, nameIndex := 5, descriptorIndex := 6, attributes := #[] }, { accessFlags := 1, nameIndex := 5, descriptorIndex := 1010, attributes := #[] }, { accessFlags := 2, nameIndex := 5, descriptorIndex := 29, attributes := #[] }] 49 2 #[1106, 1108, 575, 1110, 1112] #[{ accessFlags := 18, nameIndex := 13, descriptorIndex := 14, attributes := #[] }, { accessFlags := 18, nameIndex := 17, descriptorIndex := 18, attributes := #[] }, { accessFlags := 2, nameIndex := 21, descriptorIndex := 22, attributes := #[] }, { accessFlags := 2, nameIndex := 25, descriptorIndex := 26, attributes := #[] }, { accessFlags := 26, nameIndex := 1116, descriptorIndex := 1117, attributes := #[] }, { accessFlags := 24, nameIndex := 40, descriptorIndex := 26, attributes := #[] }, { accessFlags := 26, nameIndex := 1101, descriptorIndex := 1102, attributes := #[] }, { accessFlags := 26, nameIndex := 1121, descriptorIndex := 1122, attributes := #[] }, { accessFlags := 25, nameIndex := 599, descriptorIndex := 600, attributes := #[] }, { accessFlags := 24, nameIndex := 1125, descriptorIndex := 18, attributes := #[] }, { accessFlags := 24, nameIndex := 1127, descriptorIndex := 18, attributes := #[] }])
  fields := #[{ name := "value", type := (.array .byte), accessFlags := 18, slot := 0, constantValue := 0 }, { name := "coder", type := .byte, accessFlags := 18, slot := 1, constantValue := 0 }, { name := "hash", type := .int, accessFlags := 2, slot := 2, constantValue := 0 }, { name := "hashIsZero", type := .boolean, accessFlags := 2, slot := 3, constantValue := 0 }, { name := "serialVersionUID", type := .long, accessFlags := 26, slot := 0, constantValue := 0 }, { name := "COMPACT_STRINGS", type := .boolean, accessFlags := 24, slot := 1, constantValue := 0 }, { name := "serialPersistentFields", type := (.array (.object "java/io/ObjectStreamField")), accessFlags := 26, slot := 2, constantValue := 0 }, { name := "REPL", type := .char, accessFlags := 26, slot := 3, constantValue := 0 }, { name := "CASE_INSENSITIVE_ORDER", type := (.object "java/util/Comparator"), accessFlags := 25, slot := 4, constantValue := 0 }, { name := "LATIN1", type := .byte, accessFlags := 24, slot := 5, constantValue := 0 }, { name := "UTF16", type := .byte, accessFlags := 24, slot := 6, constantValue := 0 }]
  methods := #[k7m0, k7m1, k7m2]
  instanceTypes := #[(.array .byte), .byte, .int, .boolean]
  staticTypes := #[.long, .boolean, (.array (.object "java/io/ObjectStreamField")), .char, (.object "java/util/Comparator"), .byte, .byte]
  resolved := Array.replicate 1451 none
  statics := some 0 }

def pool8 : Array CpInfo := pool [(6, .class_ 8), (1, u "java/lang/Object"), (0, u "<init>"), (0, u "()V"), (1, .class_ 14), (1, u "java/lang/StringUTF16"), (31, u "$assertionsDisabled"), (0, u "Z"), (13, u "HI_BYTE_SHIFT"), (0, u "I"), (2, u "LO_BYTE_SHIFT"), (49, .methodref 12 116), (0, .nameAndType 117 118), (0, u "compress"), (0, u "([CI[BII)I"), (3, u "([CII)[B"), (138, u "coderFromArrayLen"), (0, u "([BI)B"), (106, .class_ 371), (1, u "java/lang/StringUTF16$LinesSpliterator"), (58, u "MAX_LENGTH"), (196, .class_ 628), (0, u "java/lang/StringUTF16$CodePointsSpliterator"), (0, .class_ 630), (0, u "java/lang/StringUTF16$CharsSpliterator")] 4

def k8m0 : Method := { name := "<init>", desc := "()V", sig := { parameters := [], returnType := none }, accessFlags := 0, code := none }
def k8c1 : Code := { maxStack := 2, maxLocals := 2, code := jdk_52_method_15_code, exceptionTable := #[], attributes := #[] }
def k8m1 : Method := { name := "coderFromArrayLen", desc := "([BI)B", sig := { parameters := [(.array .byte), .int], returnType := some .byte }, accessFlags := 8, code := some k8c1 }
def k8c2 : Code := { maxStack := 5, maxLocals := 6, code := jdk_52_method_16_code, exceptionTable := #[], attributes := #[] }
def k8m2 : Method := { name := "compress", desc := "([CII)[B", sig := { parameters := [(.array .char), .int, .int], returnType := some (.array .byte) }, accessFlags := 9, code := some k8c2 }
def k8c3 : Code := { maxStack := 3, maxLocals := 7, code := jdk_52_method_21_code, exceptionTable := #[], attributes := #[] }
def k8m3 : Method := { name := "compress", desc := "([CI[BII)I", sig := { parameters := [(.array .char), .int, (.array .byte), .int, .int], returnType := some .int }, accessFlags := 9, code := some k8c3 }
/-- java/lang/StringUTF16 -/
def k8 : Class := { plain "java/lang/StringUTF16" (some 0) with
  accessFlags := 48
  interfaces := #[]
  cf := some (fileOf pool8 12 #[.nestMembers #[627, 629, 369]] #[{ accessFlags := 0, nameIndex := 9, descriptorIndex := 10, attributes := #[] }, { accessFlags := 8, nameIndex := 261, descriptorIndex := 262, attributes := #[] }, { accessFlags := 9, nameIndex := 117, descriptorIndex := 122, attributes := #[] }, { accessFlags := 9, nameIndex := 117, descriptorIndex := 118, attributes := #[] }] 48 6 #[] #[{ accessFlags := 26, nameIndex := 61, descriptorIndex := 62, attributes := #[] }, { accessFlags := 26, nameIndex := 65, descriptorIndex := 62, attributes := #[] }, { accessFlags := 24, nameIndex := 430, descriptorIndex := 62, attributes := #[] }, { accessFlags := 4120, nameIndex := 46, descriptorIndex := 47, attributes := #[] }])
  fields := #[{ name := "HI_BYTE_SHIFT", type := .int, accessFlags := 26, slot := 0, constantValue := 0 }, { name := "LO_BYTE_SHIFT", type := .int, accessFlags := 26, slot := 1, constantValue := 0 }, { name := "MAX_LENGTH", type := .int, accessFlags := 24, slot := 2, constantValue := 0 }, { name := "$assertionsDisabled", type := .boolean, accessFlags := 4120, slot := 3, constantValue := 0 }]
  methods := #[k8m0, k8m1, k8m2, k8m3]
  instanceTypes := #[]
  staticTypes := #[.int, .int, .int, .boolean]
  resolved := Array.replicate 635 none
  statics := none }

def pool9 : Array CpInfo := pool [(1, .methodref 2 3), (0, .class_ 4), (0, .nameAndType 5 6), (0, u "java/lang/Object"), (0, u "<init>"), (0, u "()V"), (0, .fieldref 8 9), (0, .class_ 10), (0, .nameAndType 11 12), (0, u "com/example/fieldnote/fieldnote/text/TextSyntax$Entry"), (0, u "name"), (0, u "Ljava/lang/String;"), (0, .fieldref 8 14), (0, .nameAndType 15 16), (0, u "place"), (0, u "I"), (0, .fieldref 8 18), (0, .nameAndType 19 20), (0, u "field"), (0, u "Lcom/example/fieldnote/fieldnote/schema/Field;"), (0, .fieldref 8 22), (0, .nameAndType 23 24), (0, u "colon"), (0, u "Z"), (0, .fieldref 8 26), (0, .nameAndType 27 24), (0, u "inList"), (0, .fieldref 8 29), (0, .nameAndType 30 24), (0, u "messages"), (2, u "set"), (0, u "(Ljava/lang/String;ILcom/example/fieldnote/fieldnote/schema/Field;ZZZ)V"), (0, u "()Ljava/lang/String;"), (0, u "()I"), (0, u "()Lcom/example/fieldnote/fieldnote/schema/Field;"), (0, u "()Z"), (3, .class_ 43), (0, u "com/example/fieldnote/fieldnote/text/TextSyntax")] 2

def k9c0 : Code := { maxStack := 1, maxLocals := 1, code := prog_51_method_1_code, exceptionTable := #[], attributes := #[] }
def k9m0 : Method := { name := "<init>", desc := "()V", sig := { parameters := [], returnType := none }, accessFlags := 0, code := some k9c0 }
def k9c1 : Code := { maxStack := 2, maxLocals := 7, code := prog_51_method_2_code, exceptionTable := #[], attributes := #[] }
def k9m1 : Method := { name := "set", desc := "(Ljava/lang/String;ILcom/example/fieldnote/fieldnote/schema/Field;ZZZ)V", sig := { parameters := [(.object "java/lang/String"), .int, (.object "com/example/fieldnote/fieldnote/schema/Field"), .boolean, .boolean, .boolean], returnType := none }, accessFlags := 0, code := some k9c1 }
def k9c2 : Code := { maxStack := 1, maxLocals := 1, code := prog_51_method_3_code, exceptionTable := #[], attributes := #[] }
def k9m2 : Method := { name := "name", desc := "()Ljava/lang/String;", sig := { parameters := [], returnType := some (.object "java/lang/String") }, accessFlags := 0, code := some k9c2 }
def k9c3 : Code := { maxStack := 1, maxLocals := 1, code := prog_51_method_4_code, exceptionTable := #[], attributes := #[] }
def k9m3 : Method := { name := "place", desc := "()I", sig := { parameters := [], returnType := some .int }, accessFlags := 0, code := some k9c3 }
def k9c4 : Code := { maxStack := 1, maxLocals := 1, code := prog_51_method_5_code, exceptionTable := #[], attributes := #[] }
def k9m4 : Method := { name := "field", desc := "()Lcom/example/fieldnote/fieldnote/schema/Field;", sig := { parameters := [], returnType := some (.object "com/example/fieldnote/fieldnote/schema/Field") }, accessFlags := 0, code := some k9c4 }
def k9c5 : Code := { maxStack := 1, maxLocals := 1, code := prog_51_method_6_code, exceptionTable := #[], attributes := #[] }
def k9m5 : Method := { name := "colon", desc := "()Z", sig := { parameters := [], returnType := some .boolean }, accessFlags := 0, code := some k9c5 }
def k9c6 : Code := { maxStack := 1, maxLocals := 1, code := prog_51_method_7_code, exceptionTable := #[], attributes := #[] }
def k9m6 : Method := { name := "inList", desc := "()Z", sig := { parameters := [], returnType := some .boolean }, accessFlags := 0, code := some k9c6 }
def k9c7 : Code := { maxStack := 1, maxLocals := 1, code := prog_51_method_8_code, exceptionTable := #[], attributes := #[] }
def k9m7 : Method := { name := "messages", desc := "()Z", sig := { parameters := [], returnType := some .boolean }, accessFlags := 0, code := some k9c7 }
/-- com/example/fieldnote/fieldnote/text/TextSyntax$Entry -/
def k9 : Class := { plain "com/example/fieldnote/fieldnote/text/TextSyntax$Entry" (some 0) with
  accessFlags := 48
  interfaces := #[]
  cf := some (fileOf pool9 8 #[.nestHost 42] #[{ accessFlags := 0, nameIndex := 5, descriptorIndex := 6, attributes := #[] }, { accessFlags := 0, nameIndex := 33, descriptorIndex := 34, attributes := #[] }, { accessFlags := 0, nameIndex := 11, descriptorIndex := 35, attributes := #[] }, { accessFlags := 0, nameIndex := 15, descriptorIndex := 36, attributes := #[] }, { accessFlags := 0, nameIndex := 19, descriptorIndex := 37, attributes := #[] }, { accessFlags := 0, nameIndex := 23, descriptorIndex := 38, attributes := #[] }, { accessFlags := 0, nameIndex := 27, descriptorIndex := 38, attributes := #[] }, { accessFlags := 0, nameIndex := 30, descriptorIndex := 38, attributes := #[] }] 48 2 #[] #[{ accessFlags := 2, nameIndex := 11, descriptorIndex := 12, attributes := #[] }, { accessFlags := 2, nameIndex := 15, descriptorIndex := 16, attributes := #[] }, { accessFlags := 2, nameIndex := 19, descriptorIndex := 20, attributes := #[] }, { accessFlags := 2, nameIndex := 23, descriptorIndex := 24, attributes := #[] }, { accessFlags := 2, nameIndex := 27, descriptorIndex := 24, attributes := #[] }, { accessFlags := 2, nameIndex := 30, descriptorIndex := 24, attributes := #[] }])
  fields := #[{ name := "name", type := (.object "java/lang/String"), accessFlags := 2, slot := 0, constantValue := 0 }, { name := "place", type := .int, accessFlags := 2, slot := 1, constantValue := 0 }, { name := "field", type := (.object "com/example/fieldnote/fieldnote/schema/Field"), accessFlags := 2, slot := 2, constantValue := 0 }, { name := "colon", type := .boolean, accessFlags := 2, slot := 3, constantValue := 0 }, { name := "inList", type := .boolean, accessFlags := 2, slot := 4, constantValue := 0 }, { name := "messages", type := .boolean, accessFlags := 2, slot := 5, constantValue := 0 }]
  methods := #[k9m0, k9m1, k9m2, k9m3, k9m4, k9m5, k9m6, k9m7]
  instanceTypes := #[(.object "java/lang/String"), .int, (.object "com/example/fieldnote/fieldnote/schema/Field"), .boolean, .boolean, .boolean]
  staticTypes := #[]
  resolved := Array.replicate 46 none
  statics := none }

def pool10 : Array CpInfo := pool [(4, .class_ 6), (1, u "java/lang/Object"), (0, u "<init>"), (0, u "()V"), (5, .class_ 16), (1, u "java/lang/StringLatin1"), (104, u "$assertionsDisabled"), (0, u "Z"), (98, .class_ 223), (1, u "java/lang/StringLatin1$LinesSpliterator"), (166, .class_ 391), (0, u "java/lang/StringLatin1$CharsSpliterator")] 3

def k10m0 : Method := { name := "<init>", desc := "()V", sig := { parameters := [], returnType := none }, accessFlags := 0, code := none }
/-- java/lang/StringLatin1 -/
def k10 : Class := { plain "java/lang/StringLatin1" (some 0) with
  accessFlags := 48
  interfaces := #[]
  cf := some (fileOf pool10 14 #[.nestMembers #[390, 221]] #[{ accessFlags := 0, nameIndex := 7, descriptorIndex := 8, attributes := #[] }] 48 4 #[] #[{ accessFlags := 4120, nameIndex := 121, descriptorIndex := 122, attributes := #[] }])
  fields := #[{ name := "$assertionsDisabled", type := .boolean, accessFlags := 4120, slot := 0, constantValue := 0 }]
  methods := #[k10m0]
  instanceTypes := #[]
  staticTypes := #[.boolean]
  resolved := Array.replicate 395 none
  statics := none }

def pool11 : Array CpInfo := pool [(2, .class_ 4), (1, u "java/lang/Object"), (0, u "<init>"), (0, u "()V"), (17, .class_ 26), (1, u "jdk/internal/util/Preconditions"), (28, .class_ 56), (0, u "jdk/internal/util/Preconditions$4"), (57, .class_ 115), (0, u "jdk/internal/util/Preconditions$1"), (7, u "SIOOBE_FORMATTER"), (0, u "Ljava/util/function/BiFunction;"), (0, .class_ 126), (0, u "jdk/internal/util/Preconditions$2"), (3, u "AIOOBE_FORMATTER"), (0, .class_ 132), (0, u "jdk/internal/util/Preconditions$3"), (3, u "IOOBE_FORMATTER")] 57

def k11m0 : Method := { name := "<init>", desc := "()V", sig := { parameters := [], returnType := none }, accessFlags := 1, code := none }
/-- jdk/internal/util/Preconditions -/
def k11 : Class := { plain "jdk/internal/util/Preconditions" (some 0) with
  accessFlags := 33
  interfaces := #[]
  cf := some (fileOf pool11 24 #[.nestMembers #[55, 131, 125, 114]] #[{ accessFlags := 1, nameIndex := 5, descriptorIndex := 6, attributes := #[] }] 33 2 #[] #[{ accessFlags := 25, nameIndex := 123, descriptorIndex := 124, attributes := #[] }, { accessFlags := 25, nameIndex := 130, descriptorIndex := 124, attributes := #[] }, { accessFlags := 25, nameIndex := 136, descriptorIndex := 124, attributes := #[] }])
  fields := #[{ name := "SIOOBE_FORMATTER", type := (.object "java/util/function/BiFunction"), accessFlags := 25, slot := 0, constantValue := 0 }, { name := "AIOOBE_FORMATTER", type := (.object "java/util/function/BiFunction"), accessFlags := 25, slot := 1, constantValue := 0 }, { name := "IOOBE_FORMATTER", type := (.object "java/util/function/BiFunction"), accessFlags := 25, slot := 2, constantValue := 0 }]
  methods := #[k11m0]
  instanceTypes := #[]
  staticTypes := #[(.object "java/util/function/BiFunction"), (.object "java/util/function/BiFunction"), (.object "java/util/function/BiFunction")]
  resolved := Array.replicate 194 none
  statics := some 1 }

def pool12 : Array CpInfo := pool [(9, u "<init>"), (6, .class_ 18), (1, u "java/lang/Object"), (0, u "()V"), (1, .class_ 23), (1, u "jdk/internal/util/ArraysSupport"), (0, u "LOG2_ARRAY_LONG_INDEX_SCALE"), (0, u "I"), (2, u "U"), (0, u "Ljdk/internal/misc/Unsafe;"), (8, u "BIG_ENDIAN"), (0, u "Z"), (8, u "LOG2_BYTE_BIT_SIZE"), (4, u "LOG2_ARRAY_INT_INDEX_SCALE"), (54, u "JLA"), (0, u "Ljdk/internal/access/JavaLangAccess;"), (11, u "LOG2_ARRAY_BOOLEAN_INDEX_SCALE"), (9, u "LOG2_ARRAY_BYTE_INDEX_SCALE"), (5, u "LOG2_ARRAY_CHAR_INDEX_SCALE"), (5, u "LOG2_ARRAY_SHORT_INDEX_SCALE"), (18, u "LOG2_ARRAY_FLOAT_INDEX_SCALE"), (24, u "LOG2_ARRAY_DOUBLE_INDEX_SCALE"), (89, u "T_BOOLEAN"), (2, u "T_CHAR"), (1, u "T_FLOAT"), (1, u "T_DOUBLE"), (1, u "T_BYTE"), (1, u "T_SHORT"), (1, u "T_INT"), (1, u "T_LONG"), (1, u "SOFT_MAX_ARRAY_LENGTH")] 83

def k12m0 : Method := { name := "<init>", desc := "()V", sig := { parameters := [], returnType := none }, accessFlags := 2, code := none }
/-- jdk/internal/util/ArraysSupport -/
def k12 : Class := { plain "jdk/internal/util/ArraysSupport" (some 0) with
  accessFlags := 33
  interfaces := #[]
  cf := some (fileOf pool12 21 #[] #[{ accessFlags := 2, nameIndex := 9, descriptorIndex := 19, attributes := #[] }] 33 16 #[] #[{ accessFlags := 24, nameIndex := 28, descriptorIndex := 29, attributes := #[] }, { accessFlags := 26, nameIndex := 38, descriptorIndex := 39, attributes := #[] }, { accessFlags := 25, nameIndex := 121, descriptorIndex := 25, attributes := #[] }, { accessFlags := 25, nameIndex := 131, descriptorIndex := 25, attributes := #[] }, { accessFlags := 25, nameIndex := 137, descriptorIndex := 25, attributes := #[] }, { accessFlags := 25, nameIndex := 143, descriptorIndex := 25, attributes := #[] }, { accessFlags := 25, nameIndex := 53, descriptorIndex := 25, attributes := #[] }, { accessFlags := 25, nameIndex := 24, descriptorIndex := 25, attributes := #[] }, { accessFlags := 25, nameIndex := 162, descriptorIndex := 25, attributes := #[] }, { accessFlags := 25, nameIndex := 187, descriptorIndex := 25, attributes := #[] }, { accessFlags := 26, nameIndex := 48, descriptorIndex := 25, attributes := #[] }, { accessFlags := 25, nameIndex := 277, descriptorIndex := 25, attributes := #[] }, { accessFlags := 25, nameIndex := 280, descriptorIndex := 25, attributes := #[] }, { accessFlags := 25, nameIndex := 282, descriptorIndex := 25, attributes := #[] }, { accessFlags := 25, nameIndex := 284, descriptorIndex := 25, attributes := #[] }, { accessFlags := 25, nameIndex := 286, descriptorIndex := 25, attributes := #[] }, { accessFlags := 25, nameIndex := 288, descriptorIndex := 25, attributes := #[] }, { accessFlags := 25, nameIndex := 290, descriptorIndex := 25, attributes := #[] }, { accessFlags := 25, nameIndex := 292, descriptorIndex := 25, attributes := #[] }, { accessFlags := 26, nameIndex := 108, descriptorIndex := 109, attributes := #[] }, { accessFlags := 25, nameIndex := 294, descriptorIndex := 25, attributes := #[] }])
  fields := #[{ name := "U", type := (.object "jdk/internal/misc/Unsafe"), accessFlags := 24, slot := 0, constantValue := 0 }, { name := "BIG_ENDIAN", type := .boolean, accessFlags := 26, slot := 1, constantValue := 0 }, { name := "LOG2_ARRAY_BOOLEAN_INDEX_SCALE", type := .int, accessFlags := 25, slot := 2, constantValue := 0 }, { name := "LOG2_ARRAY_BYTE_INDEX_SCALE", type := .int, accessFlags := 25, slot := 3, constantValue := 0 }, { name := "LOG2_ARRAY_CHAR_INDEX_SCALE", type := .int, accessFlags := 25, slot := 4, constantValue := 0 }, { name := "LOG2_ARRAY_SHORT_INDEX_SCALE", type := .int, accessFlags := 25, slot := 5, constantValue := 0 }, { name := "LOG2_ARRAY_INT_INDEX_SCALE", type := .int, accessFlags := 25, slot := 6, constantValue := 0 }, { name := "LOG2_ARRAY_LONG_INDEX_SCALE", type := .int, accessFlags := 25, slot := 7, constantValue := 0 }, { name := "LOG2_ARRAY_FLOAT_INDEX_SCALE", type := .int, accessFlags := 25, slot := 8, constantValue := 0 }, { name := "LOG2_ARRAY_DOUBLE_INDEX_SCALE", type := .int, accessFlags := 25, slot := 9, constantValue := 0 }, { name := "LOG2_BYTE_BIT_SIZE", type := .int, accessFlags := 26, slot := 10, constantValue := 0 }, { name := "T_BOOLEAN", type := .int, accessFlags := 25, slot := 11, constantValue := 0 }, { name := "T_CHAR", type := .int, accessFlags := 25, slot := 12, constantValue := 0 }, { name := "T_FLOAT", type := .int, accessFlags := 25, slot := 13, constantValue := 0 }, { name := "T_DOUBLE", type := .int, accessFlags := 25, slot := 14, constantValue := 0 }, { name := "T_BYTE", type := .int, accessFlags := 25, slot := 15, constantValue := 0 }, { name := "T_SHORT", type := .int, accessFlags := 25, slot := 16, constantValue := 0 }, { name := "T_INT", type := .int, accessFlags := 25, slot := 17, constantValue := 0 }, { name := "T_LONG", type := .int, accessFlags := 25, slot := 18, constantValue := 0 }, { name := "JLA", type := (.object "jdk/internal/access/JavaLangAccess"), accessFlags := 26, slot := 19, constantValue := 0 }, { name := "SOFT_MAX_ARRAY_LENGTH", type := .int, accessFlags := 25, slot := 20, constantValue := 0 }]
  methods := #[k12m0]
  instanceTypes := #[]
  staticTypes := #[(.object "jdk/internal/misc/Unsafe"), .boolean, .int, .int, .int, .int, .int, .int, .int, .int, .int, .int, .int, .int, .int, .int, .int, .int, .int, (.object "jdk/internal/access/JavaLangAccess"), .int]
  resolved := Array.replicate 378 none
  statics := none }

def pool13 : Array CpInfo := pool [(1, u "java/lang/Cloneable"), (0, .class_ 1), (0, u "java/lang/Object"), (0, .class_ 3)] 3

/-- java/lang/Cloneable -/
def k13 : Class := { plain "java/lang/Cloneable" (some 0) with
  accessFlags := 1537
  interfaces := #[]
  cf := some (fileOf pool13 2 #[] #[] 1537 4 #[] #[])
  fields := #[]
  methods := #[]
  instanceTypes := #[]
  staticTypes := #[]
  resolved := Array.replicate 8 none
  statics := none }

/-- the primitive byte -/
def k14 : Class := { plain "byte" none with kind := .primitive 'B', accessFlags := 0x411 }
/-- [B -/
def k15 : Class := { plain "[B" (some 0) with kind := .array 14 .byte, interfaces := #[13, 2], accessFlags := 1041 }

/-- the primitive char -/
def k16 : Class := { plain "char" none with kind := .primitive 'C', accessFlags := 0x411 }
/-- [C -/
def k17 : Class := { plain "[C" (some 0) with kind := .array 16 .char, interfaces := #[13, 2], accessFlags := 1041 }

/-- the primitive int -/
def k18 : Class := { plain "int" none with kind := .primitive 'I', accessFlags := 0x411 }
/-- [I -/
def k19 : Class := { plain "[I" (some 0) with kind := .array 18 .int, interfaces := #[13, 2], accessFlags := 1041 }

def heap : Heap := #[{ cls := 7, slots := #[.long 0, .int 1, .null, .int 0, .null, .int 0, .int 0], vm := .statics 7 },
  { cls := 11, slots := #[.null, .null, .null], vm := .statics 11 }]
def classes : Array Class := #[k0, k1, k2, k3, k4, k5, k6, k7, k8, k9, k10, k11, k12, k13, k14, k15, k16, k17, k18, k19]
def interned : List (Array UInt16 × Addr) := []
def slotsUsed : Nat := 10
def theMethod : MethodId := ⟨1, 1⟩
def args0 : Array Value := #[.int 5, .int 3, .int 4, .int 7]
def aboutOver (below : List Frame) : State where
  vm := { classes := classes, interned := interned.toArray }
  heap := heap
  slotsUsed := slotsUsed
  threads := #[{ frames := .invoking theMethod args0 :: below }]
def below0 : List Frame := [.native { method := ⟨0, 0⟩, args := #[] }]
def about1 : State := aboutOver below0
def p0 : Program := .bare "" "" ""
def e0 : Env := launch0.env 0 0 0
theorem w_frames : about1.frames = Frame.invoking theMethod args0 :: below0 := rfl
set_option maxRecDepth 65536 in
theorem w_args : argsFit about1.vm theMethod args0 = true := by decide +kernel
set_option maxRecDepth 65536 in
theorem w_heap : heapFits about1 = true := by decide +kernel
set_option maxRecDepth 65536 in
theorem w_runnable : about1.curStatus? = some .runnable := by decide +kernel
set_option maxRecDepth 65536 in
theorem w_alone : about1.alone = true := by decide +kernel
set_option maxRecDepth 65536 in
theorem w_named : about1.methodNamed? x = some theMethod := by decide +kernel
set_option maxRecDepth 65536 in
theorem w_hears : about1.hears theMethod below0 = true := by decide +kernel
set_option maxRecDepth 65536 in
theorem w_ripe : about1.ripe theMethod args0 below0 = true := by decide +kernel
theorem w_running : about1.status = .running := rfl
set_option maxRecDepth 65536 in
theorem w_room : about1.hasRoom e0.platform room_1 = true :=
  launch0.hasRoom_least _ room_1 (by decide +kernel) (by decide +kernel) (by decide +kernel) (by decide +kernel) (by decide +kernel) (by decide +kernel)
theorem allAtoms_all (ts : List Jvm.Cond) (a : Array Jvm.Value) (st : Jvm.State) : (allAtoms ts).before a st = ts.all (fun c => c.before a st) := by
  induction ts with
  | nil => rfl
  | cons c t ih =>
    show (Jvm.Cond.and c (allAtoms t)).before a st = _
    rw [Jvm.Cond.before_and, ih, List.all_cons]
def words1 : List Jvm.Cond := Jvm.Cond.code x code maxLocals ret :: tables_1
/-- a 'code' word, met by the world's own term for the bytes: nothing is compared byte by byte -/
theorem code_word {y : MethodName} {bytes : ByteArray} {mx : Nat} {rt : Option FieldType} {a : Array Value} {s : State} {m : MethodId} {meth : Method} {c : Code} (h1 : s.methodNamed? y = some m) (h2 : s.vm.method? m = some meth) (h3 : meth.code = some c) (h4 : c.code = bytes)
    (h5 : (c.maxLocals == mx && c.exceptionTable.isEmpty && decide (c.maxStack ≤ mostOperands) && decide (meth.sig.returnType = rt) && !meth.locks && decide (parseMethodDescriptor y.desc = some meth.sig)) = true) : (Jvm.Cond.code y bytes mx rt).before a s = true := by
  simp only [Bool.and_eq_true, beq_iff_eq, Bool.not_eq_true', decide_eq_true_eq] at h5
  obtain ⟨⟨⟨⟨⟨g1, g2⟩, g3⟩, g4⟩, g5⟩, g6⟩ := h5
  simp [Cond.before, Cond.holds, Cond.value, h1, h2, h3, h4, g1, g2, g3, g4, g5, g6]
def isCode : Jvm.Cond → Bool
  | .code _ _ _ _ => true
  | _ => false
theorem all_split {L : List Jvm.Cond} {P : Jvm.Cond → Bool} (h1 : L.all (fun c => isCode c || P c) = true) (h2 : ∀ c ∈ L.filter isCode, P c = true) : L.all P = true := by
  refine List.all_eq_true.mpr fun c hc => ?_
  have h := List.all_eq_true.mp h1 c hc
  rcases Bool.eq_false_or_eq_true (isCode c) with hi | hi
  · exact h2 c (List.mem_filter.mpr ⟨hc, hi⟩)
  · simpa [hi] using h
set_option maxRecDepth 65536 in
theorem w_c0 : (Jvm.Cond.code x code maxLocals ret).before args0 about1 = true := code_word (m := ⟨1, 1⟩) (meth := k1m1) (c := k1c1) (by decide +kernel) rfl rfl rfl (by decide +kernel)
set_option maxRecDepth 65536 in
theorem w_c1 : (Jvm.Cond.code ({ cls := "java/lang/String", name := "<init>", desc := "([C)V" } : Jvm.MethodName) jdk_42_method_3_code (2 : Nat) (Option.none : Option Jvm.ClassFile.FieldType)).before args0 about1 = true := code_word (m := ⟨7, 1⟩) (meth := k7m1) (c := k7c1) (by decide +kernel) rfl rfl rfl (by decide +kernel)
set_option maxRecDepth 65536 in
theorem w_c2 : (Jvm.Cond.code ({ cls := "java/lang/String", name := "<init>", desc := "([CIILjava/lang/Void;)V" } : Jvm.MethodName) jdk_42_method_149_code (6 : Nat) (Option.none : Option Jvm.ClassFile.FieldType)).before args0 about1 = true := code_word (m := ⟨7, 2⟩) (meth := k7m2) (c := k7c2) (by decide +kernel) rfl rfl rfl (by decide +kernel)
set_option maxRecDepth 65536 in
theorem w_c3 : (Jvm.Cond.code ({ cls := "java/lang/Object", name := "<init>", desc := "()V" } : Jvm.MethodName) object_method_1_code (1 : Nat) (Option.none : Option Jvm.ClassFile.FieldType)).before args0 about1 = true := code_word (m := ⟨0, 0⟩) (meth := k0m0) (c := k0c0) (by decide +kernel) rfl rfl rfl (by decide +kernel)
set_option maxRecDepth 65536 in
theorem w_c4 : (Jvm.Cond.code ({ cls := "java/lang/StringUTF16", name := "compress", desc := "([CII)[B" } : Jvm.MethodName) jdk_52_method_16_code (6 : Nat) (Option.some (Jvm.ClassFile.FieldType.array Jvm.ClassFile.FieldType.byte))).before args0 about1 = true := code_word (m := ⟨8, 2⟩) (meth := k8m2) (c := k8c2) (by decide +kernel) rfl rfl rfl (by decide +kernel)
set_option maxRecDepth 65536 in
theorem w_c5 : (Jvm.Cond.code ({ cls := "java/lang/StringUTF16", name := "compress", desc := "([CI[BII)I" } : Jvm.MethodName) jdk_52_method_21_code (7 : Nat) (Option.some Jvm.ClassFile.FieldType.int)).before args0 about1 = true := code_word (m := ⟨8, 3⟩) (meth := k8m3) (c := k8c3) (by decide +kernel) rfl rfl rfl (by decide +kernel)
set_option maxRecDepth 65536 in
theorem w_c6 : (Jvm.Cond.code ({ cls := "java/lang/StringUTF16", name := "coderFromArrayLen", desc := "([BI)B" } : Jvm.MethodName) jdk_52_method_15_code (2 : Nat) (Option.some Jvm.ClassFile.FieldType.byte)).before args0 about1 = true := code_word (m := ⟨8, 1⟩) (meth := k8m1) (c := k8c1) (by decide +kernel) rfl rfl rfl (by decide +kernel)
set_option maxRecDepth 65536 in
theorem w_c7 : (Jvm.Cond.code ({ cls := "com/example/fieldnote/fieldnote/text/TextSyntax$Entry", name := "<init>", desc := "()V" } : Jvm.MethodName) prog_51_method_1_code (1 : Nat) (Option.none : Option Jvm.ClassFile.FieldType)).before args0 about1 = true := code_word (m := ⟨9, 0⟩) (meth := k9m0) (c := k9c0) (by decide +kernel) rfl rfl rfl (by decide +kernel)
set_option maxRecDepth 65536 in
theorem w_c8 : (Jvm.Cond.code ({ cls := "com/example/fieldnote/fieldnote/text/TextSyntax$Entry", name := "set", desc := "(Ljava/lang/String;ILcom/example/fieldnote/fieldnote/schema/Field;ZZZ)V" } : Jvm.MethodName) prog_51_method_2_code (7 : Nat) (Option.none : Option Jvm.ClassFile.FieldType)).before args0 about1 = true := code_word (m := ⟨9, 1⟩) (meth := k9m1) (c := k9c1) (by decide +kernel) rfl rfl rfl (by decide +kernel)
set_option maxRecDepth 65536 in
theorem w_c9 : (Jvm.Cond.code ({ cls := "com/example/fieldnote/fieldnote/text/TextSyntax$Entry", name := "name", desc := "()Ljava/lang/String;" } : Jvm.MethodName) prog_51_method_3_code (1 : Nat) (Option.some (Jvm.ClassFile.FieldType.object "java/lang/String"))).before args0 about1 = true := code_word (m := ⟨9, 2⟩) (meth := k9m2) (c := k9c2) (by decide +kernel) rfl rfl rfl (by decide +kernel)
set_option maxRecDepth 65536 in
theorem w_c10 : (Jvm.Cond.code ({ cls := "com/example/fieldnote/fieldnote/text/TextSyntax$Entry", name := "place", desc := "()I" } : Jvm.MethodName) prog_51_method_4_code (1 : Nat) (Option.some Jvm.ClassFile.FieldType.int)).before args0 about1 = true := code_word (m := ⟨9, 3⟩) (meth := k9m3) (c := k9c3) (by decide +kernel) rfl rfl rfl (by decide +kernel)
set_option maxRecDepth 65536 in
theorem w_c11 : (Jvm.Cond.code ({ cls := "com/example/fieldnote/fieldnote/text/TextSyntax$Entry", name := "field", desc := "()Lcom/example/fieldnote/fieldnote/schema/Field;" } : Jvm.MethodName) prog_51_method_5_code (1 : Nat) (Option.some (Jvm.ClassFile.FieldType.object "com/example/fieldnote/fieldnote/schema/Field"))).before args0 about1 = true := code_word (m := ⟨9, 4⟩) (meth := k9m4) (c := k9c4) (by decide +kernel) rfl rfl rfl (by decide +kernel)
set_option maxRecDepth 65536 in
theorem w_c12 : (Jvm.Cond.code ({ cls := "com/example/fieldnote/fieldnote/text/TextSyntax$Entry", name := "colon", desc := "()Z" } : Jvm.MethodName) prog_51_method_6_code (1 : Nat) (Option.some Jvm.ClassFile.FieldType.boolean)).before args0 about1 = true := code_word (m := ⟨9, 5⟩) (meth := k9m5) (c := k9c5) (by decide +kernel) rfl rfl rfl (by decide +kernel)
set_option maxRecDepth 65536 in
theorem w_c13 : (Jvm.Cond.code ({ cls := "com/example/fieldnote/fieldnote/text/TextSyntax$Entry", name := "inList", desc := "()Z" } : Jvm.MethodName) prog_51_method_7_code (1 : Nat) (Option.some Jvm.ClassFile.FieldType.boolean)).before args0 about1 = true := code_word (m := ⟨9, 6⟩) (meth := k9m6) (c := k9c6) (by decide +kernel) rfl rfl rfl (by decide +kernel)
set_option maxRecDepth 65536 in
theorem w_c14 : (Jvm.Cond.code ({ cls := "com/example/fieldnote/fieldnote/text/TextSyntax$Entry", name := "messages", desc := "()Z" } : Jvm.MethodName) prog_51_method_8_code (1 : Nat) (Option.some Jvm.ClassFile.FieldType.boolean)).before args0 about1 = true := code_word (m := ⟨9, 7⟩) (meth := k9m7) (c := k9c7) (by decide +kernel) rfl rfl rfl (by decide +kernel)
def codes1 : List Jvm.Cond := [Jvm.Cond.code x code maxLocals ret, Jvm.Cond.code ({ cls := "java/lang/String", name := "<init>", desc := "([C)V" } : Jvm.MethodName) jdk_42_method_3_code (2 : Nat) (Option.none : Option Jvm.ClassFile.FieldType), Jvm.Cond.code ({ cls := "java/lang/String", name := "<init>", desc := "([CIILjava/lang/Void;)V" } : Jvm.MethodName) jdk_42_method_149_code (6 : Nat) (Option.none : Option Jvm.ClassFile.FieldType), Jvm.Cond.code ({ cls := "java/lang/Object", name := "<init>", desc := "()V" } : Jvm.MethodName) object_method_1_code (1 : Nat) (Option.none : Option Jvm.ClassFile.FieldType), Jvm.Cond.code ({ cls := "java/lang/StringUTF16", name := "compress", desc := "([CII)[B" } : Jvm.MethodName) jdk_52_method_16_code (6 : Nat) (Option.some (Jvm.ClassFile.FieldType.array Jvm.ClassFile.FieldType.byte)), Jvm.Cond.code ({ cls := "java/lang/StringUTF16", name := "compress", desc := "([CI[BII)I" } : Jvm.MethodName) jdk_52_method_21_code (7 : Nat) (Option.some Jvm.ClassFile.FieldType.int), Jvm.Cond.code ({ cls := "java/lang/StringUTF16", name := "coderFromArrayLen", desc := "([BI)B" } : Jvm.MethodName) jdk_52_method_15_code (2 : Nat) (Option.some Jvm.ClassFile.FieldType.byte), Jvm.Cond.code ({ cls := "com/example/fieldnote/fieldnote/text/TextSyntax$Entry", name := "<init>", desc := "()V" } : Jvm.MethodName) prog_51_method_1_code (1 : Nat) (Option.none : Option Jvm.ClassFile.FieldType), Jvm.Cond.code ({ cls := "com/example/fieldnote/fieldnote/text/TextSyntax$Entry", name := "set", desc := "(Ljava/lang/String;ILcom/example/fieldnote/fieldnote/schema/Field;ZZZ)V" } : Jvm.MethodName) prog_51_method_2_code (7 : Nat) (Option.none : Option Jvm.ClassFile.FieldType), Jvm.Cond.code ({ cls := "com/example/fieldnote/fieldnote/text/TextSyntax$Entry", name := "name", desc := "()Ljava/lang/String;" } : Jvm.MethodName) prog_51_method_3_code (1 : Nat) (Option.some (Jvm.ClassFile.FieldType.object "java/lang/String")), Jvm.Cond.code ({ cls := "com/example/fieldnote/fieldnote/text/TextSyntax$Entry", name := "place", desc := "()I" } : Jvm.MethodName) prog_51_method_4_code (1 : Nat) (Option.some Jvm.ClassFile.FieldType.int), Jvm.Cond.code ({ cls := "com/example/fieldnote/fieldnote/text/TextSyntax$Entry", name := "field", desc := "()Lcom/example/fieldnote/fieldnote/schema/Field;" } : Jvm.MethodName) prog_51_method_5_code (1 : Nat) (Option.some (Jvm.ClassFile.FieldType.object "com/example/fieldnote/fieldnote/schema/Field")), Jvm.Cond.code ({ cls := "com/example/fieldnote/fieldnote/text/TextSyntax$Entry", name := "colon", desc := "()Z" } : Jvm.MethodName) prog_51_method_6_code (1 : Nat) (Option.some Jvm.ClassFile.FieldType.boolean), Jvm.Cond.code ({ cls := "com/example/fieldnote/fieldnote/text/TextSyntax$Entry", name := "inList", desc := "()Z" } : Jvm.MethodName) prog_51_method_7_code (1 : Nat) (Option.some Jvm.ClassFile.FieldType.boolean), Jvm.Cond.code ({ cls := "com/example/fieldnote/fieldnote/text/TextSyntax$Entry", name := "messages", desc := "()Z" } : Jvm.MethodName) prog_51_method_8_code (1 : Nat) (Option.some Jvm.ClassFile.FieldType.boolean)]
set_option maxRecDepth 65536 in
theorem codes_eq : words1.filter isCode = codes1 := rfl
theorem w_codes : ∀ c ∈ words1.filter isCode, c.before args0 about1 = true := by
  rw [codes_eq]
  intro c hc
  simp only [codes1, List.mem_cons, List.not_mem_nil, or_false] at hc
  rcases hc with rfl | rfl | rfl | rfl | rfl | rfl | rfl | rfl | rfl | rfl | rfl | rfl | rfl | rfl | rfl
  · exact w_c0
  · exact w_c1
  · exact w_c2
  · exact w_c3
  · exact w_c4
  · exact w_c5
  · exact w_c6
  · exact w_c7
  · exact w_c8
  · exact w_c9
  · exact w_c10
  · exact w_c11
  · exact w_c12
  · exact w_c13
  · exact w_c14
set_option maxRecDepth 65536 in
theorem w_t1 : (words1.take 24).all (fun c => isCode c || c.before args0 about1) = true := by decide +kernel
set_option maxRecDepth 65536 in
theorem w_t2 : ((words1.drop 24).take 24).all (fun c => isCode c || c.before args0 about1) = true := by decide +kernel
set_option maxRecDepth 65536 in
theorem w_t3 : (((words1.drop 24).drop 24).take 24).all (fun c => isCode c || c.before args0 about1) = true := by decide +kernel
set_option maxRecDepth 65536 in
theorem w_t4 : (((words1.drop 24).drop 24).drop 24).all (fun c => isCode c || c.before args0 about1) = true := by decide +kernel
theorem w_tables : (allAtoms (Jvm.Cond.code x code maxLocals ret :: tables_1)).before args0 about1 = true := by
  rw [allAtoms_all]
  show words1.all (fun c => c.before args0 about1) = true
  refine all_split ?_ w_codes
  rw [← List.take_append_drop 24 words1, List.all_append, w_t1, ← List.take_append_drop 24 (words1.drop 24), List.all_append, w_t2, ← List.take_append_drop 24 ((words1.drop 24).drop 24), List.all_append, w_t3, w_t4]
  rfl
set_option maxRecDepth 65536 in
theorem w_rest : rest_1_c.before args0 about1 = true := by decide +kernel
set_option maxRecDepth 65536 in
theorem w_case : (Jvm.Cond.and given_1 narrow_1).before args0 about1 = true := by decide +kernel
theorem w_applies : (headSpec (Jvm.Cond.code x code maxLocals ret :: tables_1) room_1).applies x e0.platform about1 = true :=
  (Spec.applies_iff w_frames).mpr ⟨w_running, w_runnable, w_alone, w_named, w_hears, w_ripe, w_room, w_tables⟩
theorem atStart : AtStart classFile x code maxLocals ret World_1 tables_1 room_1 Calls_1 rest_1 Pre_1 launch0 p0 e0 about1 theMethod args0 below0 :=
  ⟨lists_1, trivial, launch0.admits_env _ _ _, launch0.least_env, fairChoices_fair.cas, fairChoices_fair.clock, w_frames, w_args, w_heap, w_applies, trivial, w_rest, w_case⟩
end start1
theorem witness_1 : WitnessClaimed_1 := ⟨start1.p0, start1.e0, start1.about1, start1.theMethod, start1.args0, start1.below0, start1.atStart⟩
end Jvm.Pilot.@@N@@
