import JvmDerived
import JvmDerived.Pilot.@@N@@Statement
import JvmDerived.Pilot.@@N@@Code
set_option linter.unusedVariables false
set_option linter.unusedSimpArgs false
@@BLOCK:Masks.lean.txt@@
@@BLOCK:NumsL.lean.txt@@
namespace Jvm.Pilot.@@N@@
open Jvm Jvm.ClassFile Sem Op Lib Jvm.Free Jvm.Stand Jvm.LawKit Jvm.RoadKit Bundle Jvm.Pilot.@@N@@.Jvm.D
/-! own layer: a walk as "from here the body comes to a good end" (own_Wp), so that a walk may fork in its middle -/
section OwnLayer
variable {p : Program} {l : Launch} {e : Env} {R : Room} {s : State} {m : MethodId} {args : Array Value} {below : List Frame} {meth : Method} {c : Code} {T T' : State} {locs : List Loc} {cells slots cs sl pc : Nat} {g g' : JFrame} {F : State → Outcome → Prop} {Q : Option Value → Heap → List Loc → Prop} {Ls : Array Slot} {rest : List Value} {Z : State} {a0 : Array Value} {h : Heap}
def own_Wp (p : Program) (e : Env) (below : List Frame) (F : State → Outcome → Prop) (T : State) (g : JFrame) : Prop := ∃ s₂ o, Steps p.tables e below (T.setTop g) s₂ ∧ F s₂ o
def own_Fin (below : List Frame) (s : State) (Q : Option Value → Heap → List Loc → Prop) (cs sl : Nat) (s₂ : State) (o : Outcome) : Prop := s₂.status = .running ∧ Ended s₂ below o ∧ ∃ v L, o = .returned v ∧ Q v s₂.heap L ∧ FrameEnd s o s₂ L cs sl
theorem own_step (st : ∀ target, Steps p.tables e below (T'.setTop g') target → Steps p.tables e below (T.setTop g) target) (k : own_Wp p e below F T' g') : own_Wp p e below F T g := by
  obtain ⟨a, b, h1, h2⟩ := k
  exact ⟨a, b, st _ h1, h2⟩
theorem own_cast (q : g = g') (k : own_Wp p e below F T g') : own_Wp p e below F T g := q ▸ k
theorem own_leave {v : Option Value} {fs : List Frame} (st : Steps p.tables e below (T.setTop g) (T.setFrames fs)) (hrun : (T.setFrames fs).status = .running) (hended : Ended (T.setFrames fs) below (.returned v)) (hW : s.WarmedH (T.setFrames fs).vm) (hsame : s.sameButNew ({ T.setFrames fs with vm := s.vm } : State) locs cells slots) (hc : cells ≤ cs) (hs : slots ≤ sl) (hQ : Q v T.heap locs) : own_Wp p e below (own_Fin below s Q cs sl) T g :=
  ⟨_, _, st, hrun, hended, v, locs, rfl, hQ, ⟨_, rfl⟩, hW, hsame.mono hc hs⟩
theorem own_retN (X : Stand p l e R s m args below meth c T locs cells slots) (hx : p.tables.exec = Jvm.exec) {t : FieldType} {z : Int32} (hret : meth.sig.returnType = some t) (ht : t = .boolean ∨ t = .byte ∨ t = .char ∨ t = .short) (hlocks : meth.locks = false) (hd : decode c.code pc = .ok (.ireturn, 1)) (hc : cells ≤ cs) (hs : slots ≤ sl) (hQ : Q (some (.int (nar t z))) T.heap locs) : own_Wp p e below (own_Fin below s Q cs sl) T (mkF m pc Ls (.int z :: rest)) := by
  obtain ⟨fs, hr, hrun, hended, hW, hsame⟩ := X.leave (v := some (.int (nar t z))) (fun h => by rw [hret] at h; cases h) hlocks
  exact own_leave (retN X hx hret ht hd hr) hrun hended hW hsame hc hs hQ
theorem own_retI (X : Stand p l e R s m args below meth c T locs cells slots) (hx : p.tables.exec = Jvm.exec) {z : Int32} (hret : meth.sig.returnType = some .int) (hlocks : meth.locks = false) (hd : decode c.code pc = .ok (.ireturn, 1)) (hc : cells ≤ cs) (hs : slots ≤ sl) (hQ : Q (some (.int z)) T.heap locs) : own_Wp p e below (own_Fin below s Q cs sl) T (mkF m pc Ls (.int z :: rest)) := by
  obtain ⟨fs, hr, hrun, hended, hW, hsame⟩ := X.leave (v := some (.int z)) (fun h => by rw [hret] at h; cases h) hlocks
  refine own_leave ?_ hrun hended hW hsame hc hs hQ
  have hm' : T.vm.method? m = some meth := X.method'
  have hn : narrow .int (.int z) = .int z := rfl
  show Steps p.tables e below (T.setTop { method := m, pc := pc, locals := Ls, stack := _ :: rest, locked := none }) _
  jvm_step X.here [X.here.top, hx, hd, hm', hret, hn]
  first | (intro acts; rw [hr _ acts rfl rfl rfl]) | rw [hr _ _ rfl rfl rfl]
  exact Steps.refl _
theorem own_retJ (X : Stand p l e R s m args below meth c T locs cells slots) (hx : p.tables.exec = Jvm.exec) {z : Int64} (hret : meth.sig.returnType = some .long) (hlocks : meth.locks = false) (hd : decode c.code pc = .ok (.lreturn, 1)) (hc : cells ≤ cs) (hs : slots ≤ sl) (hQ : Q (some (.long z)) T.heap locs) : own_Wp p e below (own_Fin below s Q cs sl) T (mkF m pc Ls (.long z :: rest)) := by
  obtain ⟨fs, hr, hrun, hended, hW, hsame⟩ := X.leave (v := some (.long z)) (fun h => by rw [hret] at h; cases h) hlocks
  refine own_leave ?_ hrun hended hW hsame hc hs hQ
  have hm' : T.vm.method? m = some meth := X.method'
  have hn : narrow .long (.long z) = .long z := rfl
  show Steps p.tables e below (T.setTop { method := m, pc := pc, locals := Ls, stack := _ :: rest, locked := none }) _
  jvm_step X.here [X.here.top, hx, hd, hm', hret, hn]
  first | (intro acts; rw [hr _ acts rfl rfl rfl]) | rw [hr _ _ rfl rfl rfl]
  exact Steps.refl _
theorem own_retA (X : Stand p l e R s m args below meth c T locs cells slots) (hx : p.tables.exec = Jvm.exec) {t : FieldType} {v : Value} (hret : meth.sig.returnType = some t) (ht : t.isReference = true) (hv : v.isRef = true) (hlocks : meth.locks = false) (hd : decode c.code pc = .ok (.areturn, 1)) (hc : cells ≤ cs) (hs : slots ≤ sl) (hQ : Q (some v) T.heap locs) : own_Wp p e below (own_Fin below s Q cs sl) T (mkF m pc Ls (v :: rest)) := by
  obtain ⟨fs, hr, hrun, hended, hW, hsame⟩ := X.leave (v := some v) (fun h => by rw [hret] at h; cases h) hlocks
  refine own_leave ?_ hrun hended hW hsame hc hs hQ
  have hm' : T.vm.method? m = some meth := X.method'
  rcases ref_cases hv with rfl | ⟨a, rfl⟩
  · show Steps p.tables e below (T.setTop { method := m, pc := pc, locals := Ls, stack := _ :: rest, locked := none }) _
    jvm_step X.here [X.here.top, hx, hd, hm', hret, Value.isRef, ht]
    first | (intro acts; rw [hr _ acts rfl rfl rfl]) | rw [hr _ _ rfl rfl rfl]
    exact Steps.refl _
  · show Steps p.tables e below (T.setTop { method := m, pc := pc, locals := Ls, stack := _ :: rest, locked := none }) _
    jvm_step X.here [X.here.top, hx, hd, hm', hret, Value.isRef, ht]
    first | (intro acts; rw [hr _ acts rfl rfl rfl]) | rw [hr _ _ rfl rfl rfl]
    exact Steps.refl _
theorem own_retV (X : Stand p l e R s m args below meth c T locs cells slots) (hx : p.tables.exec = Jvm.exec) (hret : meth.sig.returnType = none) (hlocks : meth.locks = false) (hd : decode c.code pc = .ok (.return_, 1)) (hc : cells ≤ cs) (hs : slots ≤ sl) (hQ : Q none T.heap locs) : own_Wp p e below (own_Fin below s Q cs sl) T (mkF m pc Ls []) := by
  obtain ⟨fs, hr, hrun, hended, hW, hsame⟩ := X.leave (v := none) (fun _ => rfl) hlocks
  exact own_leave (X.returnOut hx hret hd hr) hrun hended hW hsame hc hs hQ
/-- a contract, as every body of this text has one -/
def own_Met (l : Launch) (Z : State) (y : MethodName) (cd : Cond) (ws : List Cond) (rm : Room) (as' : Array Value) (h : Heap) (Q : Option Value → Heap → List Loc → Prop) : Prop :=
  MetFree l y (head1 (cd :: ws) rm) (fun a U => a = as' ∧ Z.Warmed39 U.vm ∧ U.heap = h) (fun _ _ _ _ _ => True) (fun _ U o U' => ∃ v L, o = .returned v ∧ Q v U'.heap L ∧ FrameEnd U o U' L rm.cells rm.slots)
theorem own_met {y : MethodName} {bytes : ByteArray} {maxL : Nat} {ret : Option FieldType} {ws : List Cond} {rm : Room} {as' : Array Value} {own : String} (hpl : plainFor y = true) (ho : y.cls = own)
    (body : ∀ p e s m below meth c s₁, p.tables.exec = Jvm.exec → c.code = bytes → c.maxLocals = maxL → s.vm.findClass own = some m.cls → meth.name = y.name → meth.sig.returnType = ret → meth.locks = false → Z.Warmed39 s.vm → s₁.heap = h →
      Stand p l e rm s m as' below meth c s₁ [] 0 0 → own_Wp p e below (own_Fin below s Q rm.cells rm.slots) s₁ (entryFrame m as' maxL)) : own_Met l Z y (Cond.code y bytes maxL ret) ws rm as' h Q := by
  refine MetFree.of_bodySF hpl hisR ?_
  intro p e s m args below meth c s₁ Bd hml0 hP hK
  obtain ⟨rfl, hZ, hh⟩ := hP
  exact body p e s m below meth c s₁ Bd.exec Bd.bytes hml0 (ho ▸ findClass_of_methodNamed Bd.named) (name_of_methodNamed Bd.named Bd.method).1 Bd.returns Bd.notSynchronized hZ (by rw [← hh, Bd.state]; rfl) (Stand.of_body Bd)
theorem own_callS (X : Stand p l e R s m args below meth c T locs cells slots) (hx : p.tables.exec = Jvm.exec) (hZ : Z.Warmed39 s.vm) {own : String} {index : Nat} {y : MethodName} {bytes : ByteArray} {maxL W : Nat} {ret : Option FieldType} {rm : Room} {as' : Array Value}
    (hown : s.vm.findClass own = some m.cls) (w1 : (Cond.methodLink own index y).before a0 Z = true) (w2 : (Cond.static y).before a0 Z = true) (w3 : (Cond.initialized y.cls).before a0 Z = true) (w4 : (Cond.code y bytes maxL ret).before a0 Z = true) (hy : y.cls ≠ "java/lang/invoke/MethodHandle" ∧ y.cls ≠ "java/lang/invoke/VarHandle")
    (hM : own_Met l Z y (Cond.code y bytes maxL ret) [] rm as' h Q) (hf : rm.frames + 1 ≤ R.frames) (hl : W + (maxL + 11) + rm.locals ≤ R.locals) (argsL : List Value) (ha : argsL.toArray = as') (hlen : ∀ sig, parseMethodDescriptor y.desc = some sig → argsL.length = sig.parameters.length)
    (hsz : Ls.size = c.maxLocals) (hW : (rest.map fun v => v.category).sum ≤ W) (hd : decode c.code pc = .ok (.invokestatic index, 3)) (eT : T.heap = h) (hc : cells + rm.cells ≤ R.cells) (hs : slots + rm.slots ≤ R.slots) :
    ∃ (v : Option Value) (T' : State) (L : List Loc), Stand p l e R s m args below meth c T' (locs ++ L) (cells + rm.cells) (slots + rm.slots) ∧ Q v T'.heap L ∧ ∀ F, own_Wp p e below F T' (mkF m (pc + 3) Ls (v.toList ++ rest)) → own_Wp p e below F T (mkF m pc Ls (argsL.reverse ++ rest)) := by
  obtain ⟨v, _, ⟨T1, L1, k1, n1⟩, -, X1, ⟨Lc, hQ, l1, y1, z1⟩, st⟩ := Jvm.LawKit.callS X hx (y := y) hown (mvT hZ w1) (mvT hZ w2) (mvT hZ w3) (mvT hZ w4) hy (backOf (W := W) hM hZ w4 w3 hf hl) (g := mkF m pc Ls (argsL.reverse ++ rest)) rfl hsz (argsL := argsL) (rest := rest) hlen rfl (by show 2 * 0 + _ ≤ _; omega) hd (fun _ _ => ⟨ha, eT, hc, hs⟩)
  dsimp only [Pt.U, Pt.locs, Pt.cells, Pt.slots] at X1 l1 y1 z1 st hQ
  subst l1 y1 z1
  exact ⟨v, T1, Lc, X1, hQ, fun F k => own_step st k⟩
theorem own_callV (X : Stand p l e R s m args below meth c T locs cells slots) (hx : p.tables.exec = Jvm.exec) (hZ : Z.Warmed39 s.vm) {own C : String} {index : Nat} {y z : MethodName} {bytes : ByteArray} {maxL W : Nat} {ret : Option FieldType} {rm : Room} {as' : Array Value} {b : Addr}
    (hown : s.vm.findClass own = some m.cls) (w1 : (Cond.methodLink own index y).before a0 Z = true) (w2 : (Cond.declares y).before a0 Z = true) (hnf : NotFace s y) (w3 : (Cond.selects C y z).before a0 Z = true) (w5 : (Cond.instanceMethod z).before a0 Z = true) (w6 : (Cond.initialized z.cls).before a0 Z = true) (w4 : (Cond.code z bytes maxL ret).before a0 Z = true) (hy : y.cls ≠ "java/lang/invoke/MethodHandle" ∧ y.cls ≠ "java/lang/invoke/VarHandle") (E : Exa Z h b C)
    (hM : own_Met l Z z (Cond.code z bytes maxL ret) [] rm as' h Q) (hf : rm.frames + 1 ≤ R.frames) (hl : W + (maxL + 11) + rm.locals ≤ R.locals) (argsL : List Value) (ha : (.ref b :: argsL).toArray = as') (hlen : ∀ sig, parseMethodDescriptor y.desc = some sig → argsL.length = sig.parameters.length)
    (hsz : Ls.size = c.maxLocals) (hW : (rest.map fun v => v.category).sum ≤ W) (hd : decode c.code pc = .ok (.invokevirtual index, 3)) (eT : T.heap = h) (hc : cells + rm.cells ≤ R.cells) (hs : slots + rm.slots ≤ R.slots) :
    ∃ (v : Option Value) (T' : State) (L : List Loc), Stand p l e R s m args below meth c T' (locs ++ L) (cells + rm.cells) (slots + rm.slots) ∧ Q v T'.heap L ∧ ∀ F, own_Wp p e below F T' (mkF m (pc + 3) Ls (v.toList ++ rest)) → own_Wp p e below F T (mkF m pc Ls (argsL.reverse ++ .ref b :: rest)) := by
  obtain ⟨cq, kq, qa, qb, qc⟩ := isOf hZ eT E
  obtain ⟨v, _, ⟨T1, L1, k1, n1⟩, -, X1, ⟨Lc, hQ, l1, y1, z1⟩, st⟩ := X.virtualBack hx (y := y) (z := z) hown (mvT hZ w1) (mvT hZ w2) hnf (mvT hZ w3) (mvT hZ w5) hy (backOf (W := W) hM hZ w4 w6 hf hl) qa qc (g := mkF m pc Ls (argsL.reverse ++ .ref b :: rest)) rfl hsz (Steps.refl _) (argsL := argsL) (rest := rest) hlen rfl (by show 2 * 0 + _ ≤ _; omega) hd (fun _ _ => ⟨ha, eT, hc, hs⟩)
  dsimp only [Pt.U, Pt.locs, Pt.cells, Pt.slots] at X1 l1 y1 z1 st hQ
  subst l1 y1 z1
  exact ⟨v, T1, Lc, X1, hQ, fun F k => own_step (fun _ q => st.trans q) k⟩
theorem own_callN (X : Stand p l e R s m args below meth c T locs cells slots) (hx : p.tables.exec = Jvm.exec) (hZ : Z.Warmed39 s.vm) {own : String} {index : Nat} {y : MethodName} {bytes : ByteArray} {maxL W : Nat} {rm : Room} {as' : Array Value} {b : Addr}
    (hn : y.name = "<init>") (hown : s.vm.findClass own = some m.cls) (w1 : (Cond.methodLink own index y).before a0 Z = true) (w5 : (Cond.instanceMethod y).before a0 Z = true) (w6 : (Cond.initialized y.cls).before a0 Z = true) (w4 : (Cond.code y bytes maxL none).before a0 Z = true) (hy : y.cls ≠ "java/lang/invoke/MethodHandle" ∧ y.cls ≠ "java/lang/invoke/VarHandle")
    (hM : own_Met l Z y (Cond.code y bytes maxL none) [] rm as' h Q) (hf : rm.frames + 1 ≤ R.frames) (hl : W + (maxL + 11) + rm.locals ≤ R.locals) (argsL : List Value) (ha : (.ref b :: argsL).toArray = as') (hlen : ∀ sig, parseMethodDescriptor y.desc = some sig → argsL.length = sig.parameters.length)
    (hsz : Ls.size = c.maxLocals) (hW : (rest.map fun v => v.category).sum ≤ W) (hd : decode c.code pc = .ok (.invokespecial index, 3)) (eT : T.heap = h) (hc : cells + rm.cells ≤ R.cells) (hs : slots + rm.slots ≤ R.slots) :
    ∃ (v : Option Value) (T' : State) (L : List Loc), Stand p l e R s m args below meth c T' (locs ++ L) (cells + rm.cells) (slots + rm.slots) ∧ Q v T'.heap L ∧ ∀ F, own_Wp p e below F T' (mkF m (pc + 3) Ls (v.toList ++ rest)) → own_Wp p e below F T (mkF m pc Ls (argsL.reverse ++ .ref b :: rest)) := by
  obtain ⟨v, _, ⟨T1, L1, k1, n1⟩, -, X1, ⟨Lc, hQ, l1, y1, z1⟩, st⟩ := X.specialBack hx (y := y) hn hown (mvT hZ w1) (mvT hZ w5) (mvT hZ w4) hy (backOf (W := W) hM hZ w4 w6 hf hl) (g := mkF m pc Ls (argsL.reverse ++ .ref b :: rest)) rfl hsz (Steps.refl _) (a := b) (argsL := argsL) (rest := rest) hlen rfl (by show 2 * 0 + _ ≤ _; omega) hd (fun _ _ => ⟨ha, eT, hc, hs⟩)
  dsimp only [Pt.U, Pt.locs, Pt.cells, Pt.slots] at X1 l1 y1 z1 st hQ
  subst l1 y1 z1
  exact ⟨v, T1, Lc, X1, hQ, fun F k => own_step (fun _ q => st.trans q) k⟩
theorem own_callU (X : Stand p l e R s m args below meth c T locs cells slots) (hx : p.tables.exec = Jvm.exec) (hZ : Z.Warmed39 s.vm) {own C owner : String} {index : Nat} {y z : MethodName} {bytes : ByteArray} {maxL W : Nat} {ret : Option FieldType} {rm : Room} {as' : Array Value} {b : Addr}
    (hown : s.vm.findClass own = some m.cls) (w1 : (Cond.methodLink own index y).before a0 Z = true) (w2 : (Cond.sameMethod y.cls owner y.name y.desc).before a0 Z = true) (w7 : (Cond.declares ⟨owner, y.name, y.desc⟩).before a0 Z = true) (w3 : (Cond.selects C y z).before a0 Z = true) (w5 : (Cond.instanceMethod z).before a0 Z = true) (w6 : (Cond.initialized z.cls).before a0 Z = true) (w4 : (Cond.code z bytes maxL ret).before a0 Z = true) (hy : owner ≠ "java/lang/invoke/MethodHandle" ∧ owner ≠ "java/lang/invoke/VarHandle") (E : Exa Z h b C)
    (hM : own_Met l Z z (Cond.code z bytes maxL ret) [] rm as' h Q) (hf : rm.frames + 1 ≤ R.frames) (hl : W + (maxL + 11) + rm.locals ≤ R.locals) (argsL : List Value) (ha : (.ref b :: argsL).toArray = as') (hlen : ∀ sig, parseMethodDescriptor y.desc = some sig → argsL.length = sig.parameters.length)
    (hsz : Ls.size = c.maxLocals) (hW : (rest.map fun v => v.category).sum ≤ W) (hd : decode c.code pc = .ok (.invokevirtual index, 3)) (eT : T.heap = h) (hc : cells + rm.cells ≤ R.cells) (hs : slots + rm.slots ≤ R.slots) :
    ∃ (v : Option Value) (T' : State) (L : List Loc), Stand p l e R s m args below meth c T' (locs ++ L) (cells + rm.cells) (slots + rm.slots) ∧ Q v T'.heap L ∧ ∀ F, own_Wp p e below F T' (mkF m (pc + 3) Ls (v.toList ++ rest)) → own_Wp p e below F T (mkF m pc Ls (argsL.reverse ++ .ref b :: rest)) := by
  obtain ⟨cq, kq, qa, qb, qc⟩ := isOf hZ eT E
  obtain ⟨v, _, ⟨T1, L1, k1, n1⟩, -, X1, ⟨Lc, hQ, l1, y1, z1⟩, st⟩ := X.virtualBackUp hx (x := y) (y := z) hown (mvT hZ w1) (mvT hZ w2) (mvT hZ w7) hy (mvT hZ w3) (mvT hZ w5) (backOf (W := W) hM hZ w4 w6 hf hl) qa qc (g := mkF m pc Ls (argsL.reverse ++ .ref b :: rest)) rfl hsz (Steps.refl _) (argsL := argsL) (rest := rest) hlen rfl (by show 2 * 0 + _ ≤ _; omega) hd (fun _ _ => ⟨ha, eT, hc, hs⟩)
  dsimp only [Pt.U, Pt.locs, Pt.cells, Pt.slots] at X1 l1 y1 z1 st hQ
  subst l1 y1 z1
  exact ⟨v, T1, Lc, X1, hQ, fun F k => own_step (fun _ q => st.trans q) k⟩
theorem own_callF (X : Stand p l e R s m args below meth c T locs cells slots) (hx : p.tables.exec = Jvm.exec) (hZ : Z.Warmed39 s.vm) {own C : String} {index count : Nat} {y z : MethodName} {bytes : ByteArray} {maxL W : Nat} {ret : Option FieldType} {rm : Room} {as' : Array Value} {b : Addr}
    (hown : s.vm.findClass own = some m.cls) (w1 : (Cond.methodLink own index y).before a0 Z = true) (w2 : (Cond.declares y).before a0 Z = true) (w7 : (Cond.interfaceMethod y.cls y.cls y.name y.desc).before a0 Z = true) (hfa : ((Cond.interfaceMethod y.cls y.cls y.name y.desc).onTables && (Cond.interfaceMethod y.cls y.cls y.name y.desc).keepsFace) = true) (w3 : (Cond.selects C y z).before a0 Z = true) (w5 : (Cond.instanceMethod z).before a0 Z = true) (w8 : (Cond.publicMethod z).before a0 Z = true) (w9 : (Cond.unhidden C y.name y.desc).before a0 Z = true) (w10 : (Cond.castable C y.cls).before a0 Z = true) (w6 : (Cond.initialized z.cls).before a0 Z = true) (w4 : (Cond.code z bytes maxL ret).before a0 Z = true) (hy : y.cls ≠ "java/lang/invoke/MethodHandle" ∧ y.cls ≠ "java/lang/invoke/VarHandle") (E : Exa Z h b C)
    (hM : own_Met l Z z (Cond.code z bytes maxL ret) [] rm as' h Q) (hf : rm.frames + 1 ≤ R.frames) (hl : W + (maxL + 11) + rm.locals ≤ R.locals) (argsL : List Value) (ha : (.ref b :: argsL).toArray = as') (hlen : ∀ sig, parseMethodDescriptor y.desc = some sig → argsL.length = sig.parameters.length)
    (hsz : Ls.size = c.maxLocals) (hW : (rest.map fun v => v.category).sum ≤ W) (hd : decode c.code pc = .ok (.invokeinterface index count, 5)) (eT : T.heap = h) (hc : cells + rm.cells ≤ R.cells) (hs : slots + rm.slots ≤ R.slots) :
    ∃ (v : Option Value) (T' : State) (L : List Loc), Stand p l e R s m args below meth c T' (locs ++ L) (cells + rm.cells) (slots + rm.slots) ∧ Q v T'.heap L ∧ ∀ F, own_Wp p e below F T' (mkF m (pc + 5) Ls (v.toList ++ rest)) → own_Wp p e below F T (mkF m pc Ls (argsL.reverse ++ .ref b :: rest)) := by
  obtain ⟨cq, kq, qa, qb, qc⟩ := isOf hZ eT E
  obtain ⟨v, _, ⟨T1, L1, k1, n1⟩, -, X1, ⟨Lc, hQ, l1, y1, z1⟩, st⟩ := X.interfaceBack hx (xi := y) (y := z) hown (mvT hZ w1) (mvT hZ w2) (mvT hZ w7 hfa) (mvT hZ w3) (mvT hZ w5) (mvT hZ w8) (mvT hZ w9) (mvT hZ w10) hy (backOf (W := W) hM hZ w4 w6 hf hl) qa qb qc (g := mkF m pc Ls (argsL.reverse ++ .ref b :: rest)) rfl hsz (Steps.refl _) (argsL := argsL) (rest := rest) hlen rfl (by show 2 * 0 + _ ≤ _; omega) hd (fun _ _ => ⟨ha, eT, hc, hs⟩)
  dsimp only [Pt.U, Pt.locs, Pt.cells, Pt.slots] at X1 l1 y1 z1 st hQ
  subst l1 y1 z1
  exact ⟨v, T1, Lc, X1, hQ, fun F k => own_step (fun _ q => st.trans q) k⟩
theorem own_callP (X : Stand p l e R s m args below meth c T locs cells slots) (hx : p.tables.exec = Jvm.exec) (hZ : Z.Warmed39 s.vm) {own : String} {index : Nat} {y : MethodName} {bytes : ByteArray} {maxL W : Nat} {ret : Option FieldType} {rm : Room} {as' : Array Value} {b : Addr}
    (hown : s.vm.findClass own = some m.cls) (w1 : (Cond.methodLink own index y).before a0 Z = true) (w5 : (Cond.instanceMethod y).before a0 Z = true) (w7 : (Cond.selects y.cls y y).before a0 Z = true) (w8 : (Cond.privateMethod y).before a0 Z = true) (w6 : (Cond.initialized y.cls).before a0 Z = true) (w4 : (Cond.code y bytes maxL ret).before a0 Z = true) (hy : y.cls ≠ "java/lang/invoke/MethodHandle" ∧ y.cls ≠ "java/lang/invoke/VarHandle") {C : String} (E : Exa Z h b C)
    (hM : own_Met l Z y (Cond.code y bytes maxL ret) [] rm as' h Q) (hf : rm.frames + 1 ≤ R.frames) (hl : W + (maxL + 11) + rm.locals ≤ R.locals) (argsL : List Value) (ha : (.ref b :: argsL).toArray = as') (hlen : ∀ sig, parseMethodDescriptor y.desc = some sig → argsL.length = sig.parameters.length)
    (hsz : Ls.size = c.maxLocals) (hW : (rest.map fun v => v.category).sum ≤ W) (hd : decode c.code pc = .ok (.invokevirtual index, 3)) (eT : T.heap = h) (hc : cells + rm.cells ≤ R.cells) (hs : slots + rm.slots ≤ R.slots) :
    ∃ (v : Option Value) (T' : State) (L : List Loc), Stand p l e R s m args below meth c T' (locs ++ L) (cells + rm.cells) (slots + rm.slots) ∧ Q v T'.heap L ∧ ∀ F, own_Wp p e below F T' (mkF m (pc + 3) Ls (v.toList ++ rest)) → own_Wp p e below F T (mkF m pc Ls (argsL.reverse ++ .ref b :: rest)) := by
  obtain ⟨cq, q1, q2⟩ := E.cell
  obtain ⟨v, _, ⟨T1, L1, k1, n1⟩, -, X1, ⟨Lc, hQ, l1, y1, z1⟩, st⟩ := X.privateBack hx (y := y) hown (mvT hZ w1) (mvT hZ w5) (mvT hZ w7) (Cond.privateMethod_at (mvP hZ w8 (args := #[]))) (mvT hZ w4) hy (backOf (W := W) hM hZ w4 w6 hf hl) (g := mkF m pc Ls (argsL.reverse ++ .ref b :: rest)) rfl hsz (Steps.refl _) (a := b) (by rw [eT]; exact q1) q2 (argsL := argsL) (rest := rest) hlen rfl (by show 2 * 0 + _ ≤ _; omega) hd (fun _ _ => ⟨ha, eT, hc, hs⟩)
  dsimp only [Pt.U, Pt.locs, Pt.cells, Pt.slots] at X1 l1 y1 z1 st hQ
  subst l1 y1 z1
  exact ⟨v, T1, Lc, X1, hQ, fun F k => own_step (fun _ q => st.trans q) k⟩
/-- the words of a long conjunction, as a list -/
def own_flat : Cond → List Cond
  | .and a b => a :: own_flat b
  | c => [c]
theorem own_mem {args : Array Value} {Z : State} : ∀ c : Cond, c.value args Z none Z [] = some true → ∀ d ∈ own_flat c, d.value args Z none Z [] = some true
  | .and a b, h, d, hd => by
    obtain ⟨h1, h2⟩ := and_e h
    rcases List.mem_cons.mp hd with rfl | q
    · exact h1
    · exact own_mem b h2 d q
  | .tt, h, d, hd => by cases List.mem_singleton.mp hd; exact h
  | c, h, d, hd => by
    unfold own_flat at hd
    split at hd
    · rename_i a b
      obtain ⟨h1, h2⟩ := and_e h
      rcases List.mem_cons.mp hd with rfl | q
      · exact h1
      · exact own_mem b h2 d q
    · cases List.mem_singleton.mp hd; exact h
/-- the object that a term of the start names -/
def own_t (Z : State) (t : Term) : Addr := match t.eval #[] Z none [] Z with
  | some (.ref a) => a
  | _ => 0
theorem own_t_eq {t : Term} {a : Addr} (h : t.eval a0 Z none [] Z = some (.ref a)) (hr : t.eval a0 Z none [] Z = t.eval #[] Z none [] Z) : own_t Z t = a := by
  rw [hr] at h
  simp only [own_t, h]
theorem own_ev {t : Term} {K : String} (h : (Cond.exactly t K).value a0 Z none Z [] = some true) (hr : t.eval a0 Z none [] Z = t.eval #[] Z none [] Z) : t.eval a0 Z none [] Z = some (.ref (own_t Z t)) := by
  obtain ⟨a, ev⟩ := exa_v h
  rw [own_t_eq ev hr]
  exact ev
theorem own_evA {t : Term} {ty : FieldType} (h : (Cond.arrayOf t ty).value a0 Z none Z [] = some true) (hr : t.eval a0 Z none [] Z = t.eval #[] Z none [] Z) : t.eval a0 Z none [] Z = some (.ref (own_t Z t)) := by
  obtain ⟨a, ev⟩ := arr_v h
  rw [own_t_eq ev hr]
  exact ev
theorem own_eqI {t : Term} {z : Int32} (q : (Cond.eq t (.int z)).value a0 Z none Z [] = some true) : t.eval a0 Z none [] Z = some (.int z) := by
  cases hf : t.eval a0 Z none [] Z with
  | none => simp [Cond.value, hf] at q
  | some v => cases v <;> simp [Cond.value, Term.eval, hf] at q <;> first | (rw [q]; done) | exact congrArg (fun z => some (Value.int z)) q | skip
theorem own_eqR {t u : Term} {b : Addr} (q : (Cond.eq t u).value a0 Z none Z [] = some true) (ev : u.eval a0 Z none [] Z = some (.ref b)) : t.eval a0 Z none [] Z = some (.ref b) := by
  cases hf : t.eval a0 Z none [] Z with
  | none => simp [Cond.value, hf] at q
  | some v => cases v <;> simp [Cond.value, hf, ev] at q <;> first | (rw [q]; done) | exact congrArg (fun z => some (Value.ref z)) q | skip
theorem own_fld {t : Term} {O f d : String} {a : Addr} {v : Value} (ev : t.eval a0 Z none [] Z = some (.ref a)) (q : (Term.field t O f d).eval a0 Z none [] Z = some v) : Fld Z Z.heap a O f d v := by
  refine Fld.start ?_
  simp only [Term.eval, ev, Option.bind_eq_bind, Option.bind_some] at q
  exact q
theorem own_len {t : Term} {ty : FieldType} {a : Addr} {cl : Cell} {z : Int32} (A : Arr Z Z.heap a cl ty) (ev : t.eval a0 Z none [] Z = some (.ref a)) (q : (Cond.eq (.length t) (.int z)).value a0 Z none Z [] = some true) : cl.slots.size < 2 ^ 31 ∧ cl.slots.size.toInt32 = z := by
  have e0 : Z.arrayAt? a = some cl := Arr.fin (Vm.Alike.refl _) A
  have q2 := own_eqI q
  simp only [Term.eval, ev, e0, Option.bind_eq_bind, Option.bind_some] at q2
  split at q2
  · rename_i g
    exact ⟨g, by simpa using q2⟩
  · cases q2
theorem own_el {t : Term} {ty : FieldType} {a : Addr} {cl : Cell} {i : Int32} {v : Value} (A : Arr Z Z.heap a cl ty) (ev : t.eval a0 Z none [] Z = some (.ref a)) (q : (Term.elem t (.int i)).eval a0 Z none [] Z = some v) : cl.slots[i.toNatClampNeg]? = some v := by
  have e0 : Z.arrayAt? a = some cl := Arr.fin (Vm.Alike.refl _) A
  simp only [Term.eval, ev, e0, Option.bind_eq_bind, Option.bind_some] at q
  split at q
  · cases q
  · exact q
def own_i (Z : State) (t : Term) : Int32 := match t.eval #[] Z none [] Z with
  | some (.int a) => a
  | _ => 0
theorem own_evI {t : Term} (h : (Cond.isInt t).value a0 Z none Z [] = some true) (hr : t.eval a0 Z none [] Z = t.eval #[] Z none [] Z) : t.eval a0 Z none [] Z = some (.int (own_i Z t)) := by
  obtain ⟨a, ev⟩ := is_v h
  have q := ev
  rw [hr] at q
  have e : own_i Z t = a := by simp only [own_i, q]
  rw [e]
  exact ev
theorem own_neI {t : Term} {z a : Int32} (h : (Cond.not (.eq t (.int z))).value a0 Z none Z [] = some true) (ev : t.eval a0 Z none [] Z = some (.int a)) : ¬ (a = z) := by
  have q := not_v h
  simp only [Cond.value, ev, Term.eval] at q
  intro e
  subst e
  simp at q
theorem own_fitc {c : Int32} (h : nar .char c = c) : fits .char (.int c) = true := by
  have q := fits_nar_char c
  rw [h] at q
  exact q
theorem own_narb {c : Int32} (h : c = (0 : Int32) ∨ c = (1 : Int32)) : nar .boolean c = c := by rcases h with rfl | rfl <;> rfl
theorem own_nb {c : Int32} (h : c = (0 : Int32) ∨ c = (1 : Int32)) : narrow .boolean (.int c) = .int c := by rcases h with rfl | rfl <;> rfl
theorem own_fb {c : Int32} (h : c = (0 : Int32) ∨ c = (1 : Int32)) : fits .boolean (.int c) = true := by rcases h with rfl | rfl <;> rfl
theorem own_lc3 (a b : Int64) : (a < b ∧ lcmpW a b = -1) ∨ (a = b ∧ lcmpW a b = 0) ∨ (b < a ∧ lcmpW a b = 1) := by
  by_cases h : b < a
  · exact Or.inr (Or.inr ⟨h, if_pos h⟩)
  · by_cases h2 : a = b
    · exact Or.inr (Or.inl ⟨h2, (if_neg h).trans (if_pos h2)⟩)
    · refine Or.inl ⟨?_, (if_neg h).trans (if_neg h2)⟩
      simp only [Int64.lt_iff_toInt_lt, ← Int64.toInt_inj] at h h2 ⊢
      omega
theorem own_lcltY {a b : Int64} (h : a < b) : ifCond.holds .lt (lcmpW a b) = true := by
  rcases own_lc3 a b with ⟨h1, e⟩ | ⟨h1, e⟩ | ⟨h1, e⟩ <;> first | (rw [e]; decide) | (exfalso; simp only [Int64.lt_iff_toInt_lt, ← Int64.toInt_inj] at h h1; omega)
theorem own_lcltN {a b : Int64} (h : ¬ (a < b)) : ifCond.holds .lt (lcmpW a b) = false := by
  rcases own_lc3 a b with ⟨h1, e⟩ | ⟨h1, e⟩ | ⟨h1, e⟩ <;> first | (rw [e]; decide) | (exfalso; simp only [Int64.lt_iff_toInt_lt, ← Int64.toInt_inj] at h h1; omega)
theorem own_lcgeY {a b : Int64} (h : ¬ (a < b)) : ifCond.holds .ge (lcmpW a b) = true := by
  rcases own_lc3 a b with ⟨h1, e⟩ | ⟨h1, e⟩ | ⟨h1, e⟩ <;> first | (rw [e]; decide) | (exfalso; simp only [Int64.lt_iff_toInt_lt, ← Int64.toInt_inj] at h h1; omega)
theorem own_lcgeN {a b : Int64} (h : a < b) : ifCond.holds .ge (lcmpW a b) = false := by
  rcases own_lc3 a b with ⟨h1, e⟩ | ⟨h1, e⟩ | ⟨h1, e⟩ <;> first | (rw [e]; decide) | (exfalso; simp only [Int64.lt_iff_toInt_lt, ← Int64.toInt_inj] at h h1; omega)
theorem own_lcgtY {a b : Int64} (h : b < a) : ifCond.holds .gt (lcmpW a b) = true := by
  rcases own_lc3 a b with ⟨h1, e⟩ | ⟨h1, e⟩ | ⟨h1, e⟩ <;> first | (rw [e]; decide) | (exfalso; simp only [Int64.lt_iff_toInt_lt, ← Int64.toInt_inj] at h h1; omega)
theorem own_lcgtN {a b : Int64} (h : ¬ (b < a)) : ifCond.holds .gt (lcmpW a b) = false := by
  rcases own_lc3 a b with ⟨h1, e⟩ | ⟨h1, e⟩ | ⟨h1, e⟩ <;> first | (rw [e]; decide) | (exfalso; simp only [Int64.lt_iff_toInt_lt, ← Int64.toInt_inj] at h h1; omega)
theorem own_lcleY {a b : Int64} (h : ¬ (b < a)) : ifCond.holds .le (lcmpW a b) = true := by
  rcases own_lc3 a b with ⟨h1, e⟩ | ⟨h1, e⟩ | ⟨h1, e⟩ <;> first | (rw [e]; decide) | (exfalso; simp only [Int64.lt_iff_toInt_lt, ← Int64.toInt_inj] at h h1; omega)
theorem own_lcleN {a b : Int64} (h : b < a) : ifCond.holds .le (lcmpW a b) = false := by
  rcases own_lc3 a b with ⟨h1, e⟩ | ⟨h1, e⟩ | ⟨h1, e⟩ <;> first | (rw [e]; decide) | (exfalso; simp only [Int64.lt_iff_toInt_lt, ← Int64.toInt_inj] at h h1; omega)
theorem own_lceqY {a b : Int64} (h : a = b) : ifCond.holds .eq (lcmpW a b) = true := by
  rcases own_lc3 a b with ⟨h1, e⟩ | ⟨h1, e⟩ | ⟨h1, e⟩ <;> first | (rw [e]; decide) | (exfalso; simp only [Int64.lt_iff_toInt_lt, ← Int64.toInt_inj] at h h1; omega)
theorem own_lceqN {a b : Int64} (h : ¬ (a = b)) : ifCond.holds .eq (lcmpW a b) = false := by
  rcases own_lc3 a b with ⟨h1, e⟩ | ⟨h1, e⟩ | ⟨h1, e⟩ <;> first | (rw [e]; decide) | (exfalso; simp only [Int64.lt_iff_toInt_lt, ← Int64.toInt_inj] at h h1; omega)
theorem own_lcneY {a b : Int64} (h : ¬ (a = b)) : ifCond.holds .ne (lcmpW a b) = true := by
  rcases own_lc3 a b with ⟨h1, e⟩ | ⟨h1, e⟩ | ⟨h1, e⟩ <;> first | (rw [e]; decide) | (exfalso; simp only [Int64.lt_iff_toInt_lt, ← Int64.toInt_inj] at h h1; omega)
theorem own_lcneN {a b : Int64} (h : a = b) : ifCond.holds .ne (lcmpW a b) = false := by
  rcases own_lc3 a b with ⟨h1, e⟩ | ⟨h1, e⟩ | ⟨h1, e⟩ <;> first | (rw [e]; decide) | (exfalso; simp only [Int64.lt_iff_toInt_lt, ← Int64.toInt_inj] at h h1; omega)
end OwnLayer
theorem own_get {c : Cell} {vs : List Value} {d : Value} {z j : Int32} (S : c.slots.size = z.toNatClampNeg) (H : Has c vs d) (q : ¬ (j < 0 ∨ c.slots.size ≤ j.toNatClampNeg)) (i : Nat) (hj : j.toNatClampNeg = i) : c.slots[j.toNatClampNeg]? = some (vs.getD i d) := by
  subst hj
  exact H _ (Nat.lt_of_not_le fun r => q (Or.inr r))
theorem own_mod (x : Int32) {n : Int32} (hn : 0 < n.toInt) : 0 ≤ ((x &&& (2147483647 : Int32)) % n).toInt ∧ ((x &&& (2147483647 : Int32)) % n).toInt < n.toInt := by
  have h := (Jvm.Kit.i32_and_bounds x (m := (2147483647 : Int32)) (by decide)).1
  have h0 : 0 ≤ (x &&& (2147483647 : Int32)).toInt := Jvm.Kit.i32_nonneg.mp h
  rw [Int32.toInt_mod]
  exact ⟨Int.tmod_nonneg _ h0, Int.tmod_lt_of_pos _ hn⟩
theorem own_mod9 (x : Int32) : (x &&& (2147483647 : Int32)) % (9 : Int32) = (0 : Int32) ∨ (x &&& (2147483647 : Int32)) % (9 : Int32) = (1 : Int32) ∨ (x &&& (2147483647 : Int32)) % (9 : Int32) = (2 : Int32) ∨ (x &&& (2147483647 : Int32)) % (9 : Int32) = (3 : Int32) ∨ (x &&& (2147483647 : Int32)) % (9 : Int32) = (4 : Int32) ∨ (x &&& (2147483647 : Int32)) % (9 : Int32) = (5 : Int32) ∨ (x &&& (2147483647 : Int32)) % (9 : Int32) = (6 : Int32) ∨ (x &&& (2147483647 : Int32)) % (9 : Int32) = (7 : Int32) ∨ (x &&& (2147483647 : Int32)) % (9 : Int32) = (8 : Int32) := by
  have h := own_mod x (n := (9 : Int32)) (by decide)
  generalize (x &&& (2147483647 : Int32)) % (9 : Int32) = y at h ⊢
  have e : (9 : Int32).toInt = 9 := rfl
  rw [e] at h
  simp only [← Int32.toInt_inj]
  show y.toInt = 0 ∨ y.toInt = 1 ∨ y.toInt = 2 ∨ y.toInt = 3 ∨ y.toInt = 4 ∨ y.toInt = 5 ∨ y.toInt = 6 ∨ y.toInt = 7 ∨ y.toInt = 8
  omega
def w0_MOFFAT (Z : State) : Addr := own_t Z (Jvm.Term.static "com/example/linepack/linepack/PointClass" "MOFFAT" "Lcom/example/linepack/linepack/PointClass;")
theorem ev_w0_MOFFAT {Z : State} {a0 : Array Value} (hw : ∀ d ∈ tables_1, d.before a0 Z = true) (hA : ∀ d ∈ own_flat narrow_1, d.value a0 Z none Z [] = some true) : (Jvm.Term.static "com/example/linepack/linepack/PointClass" "MOFFAT" "Lcom/example/linepack/linepack/PointClass;").eval a0 Z none [] Z = some (.ref (w0_MOFFAT Z)) := own_ev (hA _ (List.mem_of_getElem? (i := 0) rfl)) rfl
def w1_LDM (Z : State) : Addr := own_t Z (Jvm.Term.static "com/example/linepack/linepack/PointClass" "LDM" "Lcom/example/linepack/linepack/PointClass;")
theorem ev_w1_LDM {Z : State} {a0 : Array Value} (hw : ∀ d ∈ tables_1, d.before a0 Z = true) (hA : ∀ d ∈ own_flat narrow_1, d.value a0 Z none Z [] = some true) : (Jvm.Term.static "com/example/linepack/linepack/PointClass" "LDM" "Lcom/example/linepack/linepack/PointClass;").eval a0 Z none [] Z = some (.ref (w1_LDM Z)) := own_ev (hA _ (List.mem_of_getElem? (i := 1) rfl)) rfl
def w2_SUBSEA_IC (Z : State) : Addr := own_t Z (Jvm.Term.static "com/example/linepack/linepack/PointClass" "SUBSEA_IC" "Lcom/example/linepack/linepack/PointClass;")
theorem ev_w2_SUBSEA_IC {Z : State} {a0 : Array Value} (hw : ∀ d ∈ tables_1, d.before a0 Z = true) (hA : ∀ d ∈ own_flat narrow_1, d.value a0 Z none Z [] = some true) : (Jvm.Term.static "com/example/linepack/linepack/PointClass" "SUBSEA_IC" "Lcom/example/linepack/linepack/PointClass;").eval a0 Z none [] Z = some (.ref (w2_SUBSEA_IC Z)) := own_ev (hA _ (List.mem_of_getElem? (i := 4) rfl)) rfl
def w3_EXIT (Z : State) : Addr := own_t Z (Jvm.Term.static "com/example/linepack/linepack/PointClass$Direction" "EXIT" "Lcom/example/linepack/linepack/PointClass$Direction;")
theorem ev_w3_EXIT {Z : State} {a0 : Array Value} (hw : ∀ d ∈ tables_1, d.before a0 Z = true) (hA : ∀ d ∈ own_flat narrow_1, d.value a0 Z none Z [] = some true) : (Jvm.Term.static "com/example/linepack/linepack/PointClass$Direction" "EXIT" "Lcom/example/linepack/linepack/PointClass$Direction;").eval a0 Z none [] Z = some (.ref (w3_EXIT Z)) := own_ev (hA _ (List.mem_of_getElem? (i := 6) rfl)) rfl
def w4_BELLANABOY (Z : State) : Addr := own_t Z (Jvm.Term.static "com/example/linepack/linepack/PointClass" "BELLANABOY" "Lcom/example/linepack/linepack/PointClass;")
theorem ev_w4_BELLANABOY {Z : State} {a0 : Array Value} (hw : ∀ d ∈ tables_1, d.before a0 Z = true) (hA : ∀ d ∈ own_flat narrow_1, d.value a0 Z none Z [] = some true) : (Jvm.Term.static "com/example/linepack/linepack/PointClass" "BELLANABOY" "Lcom/example/linepack/linepack/PointClass;").eval a0 Z none [] Z = some (.ref (w4_BELLANABOY Z)) := own_ev (hA _ (List.mem_of_getElem? (i := 8) rfl)) rfl
def w5_INCH (Z : State) : Addr := own_t Z (Jvm.Term.static "com/example/linepack/linepack/PointClass" "INCH" "Lcom/example/linepack/linepack/PointClass;")
theorem ev_w5_INCH {Z : State} {a0 : Array Value} (hw : ∀ d ∈ tables_1, d.before a0 Z = true) (hA : ∀ d ∈ own_flat narrow_1, d.value a0 Z none Z [] = some true) : (Jvm.Term.static "com/example/linepack/linepack/PointClass" "INCH" "Lcom/example/linepack/linepack/PointClass;").eval a0 Z none [] Z = some (.ref (w5_INCH Z)) := own_ev (hA _ (List.mem_of_getElem? (i := 10) rfl)) rfl
def w6_SN_IP (Z : State) : Addr := own_t Z (Jvm.Term.static "com/example/linepack/linepack/PointClass" "SN_IP" "Lcom/example/linepack/linepack/PointClass;")
theorem ev_w6_SN_IP {Z : State} {a0 : Array Value} (hw : ∀ d ∈ tables_1, d.before a0 Z = true) (hA : ∀ d ∈ own_flat narrow_1, d.value a0 Z none Z [] = some true) : (Jvm.Term.static "com/example/linepack/linepack/PointClass" "SN_IP" "Lcom/example/linepack/linepack/PointClass;").eval a0 Z none [] Z = some (.ref (w6_SN_IP Z)) := own_ev (hA _ (List.mem_of_getElem? (i := 12) rfl)) rfl
def w7_DM (Z : State) : Addr := own_t Z (Jvm.Term.static "com/example/linepack/linepack/PointClass" "DM" "Lcom/example/linepack/linepack/PointClass;")
theorem ev_w7_DM {Z : State} {a0 : Array Value} (hw : ∀ d ∈ tables_1, d.before a0 Z = true) (hA : ∀ d ∈ own_flat narrow_1, d.value a0 Z none Z [] = some true) : (Jvm.Term.static "com/example/linepack/linepack/PointClass" "DM" "Lcom/example/linepack/linepack/PointClass;").eval a0 Z none [] Z = some (.ref (w7_DM Z)) := own_ev (hA _ (List.mem_of_getElem? (i := 14) rfl)) rfl
def w8_INCH_STORAGE_EXIT (Z : State) : Addr := own_t Z (Jvm.Term.static "com/example/linepack/linepack/PointClass" "INCH_STORAGE_EXIT" "Lcom/example/linepack/linepack/PointClass;")
theorem ev_w8_INCH_STORAGE_EXIT {Z : State} {a0 : Array Value} (hw : ∀ d ∈ tables_1, d.before a0 Z = true) (hA : ∀ d ∈ own_flat narrow_1, d.value a0 Z none Z [] = some true) : (Jvm.Term.static "com/example/linepack/linepack/PointClass" "INCH_STORAGE_EXIT" "Lcom/example/linepack/linepack/PointClass;").eval a0 Z none [] Z = some (.ref (w8_INCH_STORAGE_EXIT Z)) := own_ev (hA _ (List.mem_of_getElem? (i := 17) rfl)) rfl
def w9_NDM (Z : State) : Addr := own_t Z (Jvm.Term.static "com/example/linepack/linepack/PointClass" "NDM" "Lcom/example/linepack/linepack/PointClass;")
theorem ev_w9_NDM {Z : State} {a0 : Array Value} (hw : ∀ d ∈ tables_1, d.before a0 Z = true) (hA : ∀ d ∈ own_flat narrow_1, d.value a0 Z none Z [] = some true) : (Jvm.Term.static "com/example/linepack/linepack/PointClass" "NDM" "Lcom/example/linepack/linepack/PointClass;").eval a0 Z none [] Z = some (.ref (w9_NDM Z)) := own_ev (hA _ (List.mem_of_getElem? (i := 19) rfl)) rfl
def w10_ENTRY (Z : State) : Addr := own_t Z (Jvm.Term.static "com/example/linepack/linepack/PointClass$Direction" "ENTRY" "Lcom/example/linepack/linepack/PointClass$Direction;")
theorem ev_w10_ENTRY {Z : State} {a0 : Array Value} (hw : ∀ d ∈ tables_1, d.before a0 Z = true) (hA : ∀ d ∈ own_flat narrow_1, d.value a0 Z none Z [] = some true) : (Jvm.Term.static "com/example/linepack/linepack/PointClass$Direction" "ENTRY" "Lcom/example/linepack/linepack/PointClass$Direction;").eval a0 Z none [] Z = some (.ref (w10_ENTRY Z)) := own_ev (hA _ (List.mem_of_getElem? (i := 21) rfl)) rfl
theorem ex_w0_MOFFAT {Z : State} {a0 : Array Value} (hw : ∀ d ∈ tables_1, d.before a0 Z = true) (hA : ∀ d ∈ own_flat narrow_1, d.value a0 Z none Z [] = some true) : Exa Z Z.heap (w0_MOFFAT Z) "com/example/linepack/linepack/PointClass" := Exa.start (ev_w0_MOFFAT hw hA) (hA _ (List.mem_of_getElem? (i := 0) rfl))
theorem ex_w1_LDM {Z : State} {a0 : Array Value} (hw : ∀ d ∈ tables_1, d.before a0 Z = true) (hA : ∀ d ∈ own_flat narrow_1, d.value a0 Z none Z [] = some true) : Exa Z Z.heap (w1_LDM Z) "com/example/linepack/linepack/PointClass" := Exa.start (ev_w1_LDM hw hA) (hA _ (List.mem_of_getElem? (i := 1) rfl))
theorem ex_w2_SUBSEA_IC {Z : State} {a0 : Array Value} (hw : ∀ d ∈ tables_1, d.before a0 Z = true) (hA : ∀ d ∈ own_flat narrow_1, d.value a0 Z none Z [] = some true) : Exa Z Z.heap (w2_SUBSEA_IC Z) "com/example/linepack/linepack/PointClass" := Exa.start (ev_w2_SUBSEA_IC hw hA) (hA _ (List.mem_of_getElem? (i := 4) rfl))
theorem ex_w3_EXIT {Z : State} {a0 : Array Value} (hw : ∀ d ∈ tables_1, d.before a0 Z = true) (hA : ∀ d ∈ own_flat narrow_1, d.value a0 Z none Z [] = some true) : Exa Z Z.heap (w3_EXIT Z) "com/example/linepack/linepack/PointClass$Direction" := Exa.start (ev_w3_EXIT hw hA) (hA _ (List.mem_of_getElem? (i := 6) rfl))
theorem ex_w4_BELLANABOY {Z : State} {a0 : Array Value} (hw : ∀ d ∈ tables_1, d.before a0 Z = true) (hA : ∀ d ∈ own_flat narrow_1, d.value a0 Z none Z [] = some true) : Exa Z Z.heap (w4_BELLANABOY Z) "com/example/linepack/linepack/PointClass" := Exa.start (ev_w4_BELLANABOY hw hA) (hA _ (List.mem_of_getElem? (i := 8) rfl))
theorem ex_w5_INCH {Z : State} {a0 : Array Value} (hw : ∀ d ∈ tables_1, d.before a0 Z = true) (hA : ∀ d ∈ own_flat narrow_1, d.value a0 Z none Z [] = some true) : Exa Z Z.heap (w5_INCH Z) "com/example/linepack/linepack/PointClass" := Exa.start (ev_w5_INCH hw hA) (hA _ (List.mem_of_getElem? (i := 10) rfl))
theorem ex_w6_SN_IP {Z : State} {a0 : Array Value} (hw : ∀ d ∈ tables_1, d.before a0 Z = true) (hA : ∀ d ∈ own_flat narrow_1, d.value a0 Z none Z [] = some true) : Exa Z Z.heap (w6_SN_IP Z) "com/example/linepack/linepack/PointClass" := Exa.start (ev_w6_SN_IP hw hA) (hA _ (List.mem_of_getElem? (i := 12) rfl))
theorem ex_w7_DM {Z : State} {a0 : Array Value} (hw : ∀ d ∈ tables_1, d.before a0 Z = true) (hA : ∀ d ∈ own_flat narrow_1, d.value a0 Z none Z [] = some true) : Exa Z Z.heap (w7_DM Z) "com/example/linepack/linepack/PointClass" := Exa.start (ev_w7_DM hw hA) (hA _ (List.mem_of_getElem? (i := 14) rfl))
theorem ex_w8_INCH_STORAGE_EXIT {Z : State} {a0 : Array Value} (hw : ∀ d ∈ tables_1, d.before a0 Z = true) (hA : ∀ d ∈ own_flat narrow_1, d.value a0 Z none Z [] = some true) : Exa Z Z.heap (w8_INCH_STORAGE_EXIT Z) "com/example/linepack/linepack/PointClass" := Exa.start (ev_w8_INCH_STORAGE_EXIT hw hA) (hA _ (List.mem_of_getElem? (i := 17) rfl))
theorem ex_w9_NDM {Z : State} {a0 : Array Value} (hw : ∀ d ∈ tables_1, d.before a0 Z = true) (hA : ∀ d ∈ own_flat narrow_1, d.value a0 Z none Z [] = some true) : Exa Z Z.heap (w9_NDM Z) "com/example/linepack/linepack/PointClass" := Exa.start (ev_w9_NDM hw hA) (hA _ (List.mem_of_getElem? (i := 19) rfl))
theorem ex_w10_ENTRY {Z : State} {a0 : Array Value} (hw : ∀ d ∈ tables_1, d.before a0 Z = true) (hA : ∀ d ∈ own_flat narrow_1, d.value a0 Z none Z [] = some true) : Exa Z Z.heap (w10_ENTRY Z) "com/example/linepack/linepack/PointClass$Direction" := Exa.start (ev_w10_ENTRY hw hA) (hA _ (List.mem_of_getElem? (i := 21) rfl))
theorem st_w0_MOFFAT {Z : State} {a0 : Array Value} (hw : ∀ d ∈ tables_1, d.before a0 Z = true) (hA : ∀ d ∈ own_flat narrow_1, d.value a0 Z none Z [] = some true) : Sta Z Z.heap "com/example/linepack/linepack/PointClass" "MOFFAT" "Lcom/example/linepack/linepack/PointClass;" (.ref (w0_MOFFAT Z)) := Sta.start (ev_w0_MOFFAT hw hA) (Or.inr ⟨(hw _ (List.mem_of_getElem? (i := 6) rfl)), (hw _ (List.mem_of_getElem? (i := 7) rfl))⟩)
theorem st_w1_LDM {Z : State} {a0 : Array Value} (hw : ∀ d ∈ tables_1, d.before a0 Z = true) (hA : ∀ d ∈ own_flat narrow_1, d.value a0 Z none Z [] = some true) : Sta Z Z.heap "com/example/linepack/linepack/PointClass" "LDM" "Lcom/example/linepack/linepack/PointClass;" (.ref (w1_LDM Z)) := Sta.start (ev_w1_LDM hw hA) (Or.inr ⟨(hw _ (List.mem_of_getElem? (i := 6) rfl)), (hw _ (List.mem_of_getElem? (i := 14) rfl))⟩)
theorem st_w2_SUBSEA_IC {Z : State} {a0 : Array Value} (hw : ∀ d ∈ tables_1, d.before a0 Z = true) (hA : ∀ d ∈ own_flat narrow_1, d.value a0 Z none Z [] = some true) : Sta Z Z.heap "com/example/linepack/linepack/PointClass" "SUBSEA_IC" "Lcom/example/linepack/linepack/PointClass;" (.ref (w2_SUBSEA_IC Z)) := Sta.start (ev_w2_SUBSEA_IC hw hA) (Or.inr ⟨(hw _ (List.mem_of_getElem? (i := 6) rfl)), (hw _ (List.mem_of_getElem? (i := 16) rfl))⟩)
theorem st_w3_EXIT {Z : State} {a0 : Array Value} (hw : ∀ d ∈ tables_1, d.before a0 Z = true) (hA : ∀ d ∈ own_flat narrow_1, d.value a0 Z none Z [] = some true) : Sta Z Z.heap "com/example/linepack/linepack/PointClass$Direction" "EXIT" "Lcom/example/linepack/linepack/PointClass$Direction;" (.ref (w3_EXIT Z)) := Sta.start (ev_w3_EXIT hw hA) (Or.inr ⟨(hw _ (List.mem_of_getElem? (i := 25) rfl)), (hw _ (List.mem_of_getElem? (i := 26) rfl))⟩)
theorem st_w4_BELLANABOY {Z : State} {a0 : Array Value} (hw : ∀ d ∈ tables_1, d.before a0 Z = true) (hA : ∀ d ∈ own_flat narrow_1, d.value a0 Z none Z [] = some true) : Sta Z Z.heap "com/example/linepack/linepack/PointClass" "BELLANABOY" "Lcom/example/linepack/linepack/PointClass;" (.ref (w4_BELLANABOY Z)) := Sta.start (ev_w4_BELLANABOY hw hA) (Or.inr ⟨(hw _ (List.mem_of_getElem? (i := 6) rfl)), (hw _ (List.mem_of_getElem? (i := 29) rfl))⟩)
theorem st_w5_INCH {Z : State} {a0 : Array Value} (hw : ∀ d ∈ tables_1, d.before a0 Z = true) (hA : ∀ d ∈ own_flat narrow_1, d.value a0 Z none Z [] = some true) : Sta Z Z.heap "com/example/linepack/linepack/PointClass" "INCH" "Lcom/example/linepack/linepack/PointClass;" (.ref (w5_INCH Z)) := Sta.start (ev_w5_INCH hw hA) (Or.inr ⟨(hw _ (List.mem_of_getElem? (i := 6) rfl)), (hw _ (List.mem_of_getElem? (i := 31) rfl))⟩)
theorem st_w6_SN_IP {Z : State} {a0 : Array Value} (hw : ∀ d ∈ tables_1, d.before a0 Z = true) (hA : ∀ d ∈ own_flat narrow_1, d.value a0 Z none Z [] = some true) : Sta Z Z.heap "com/example/linepack/linepack/PointClass" "SN_IP" "Lcom/example/linepack/linepack/PointClass;" (.ref (w6_SN_IP Z)) := Sta.start (ev_w6_SN_IP hw hA) (Or.inr ⟨(hw _ (List.mem_of_getElem? (i := 6) rfl)), (hw _ (List.mem_of_getElem? (i := 33) rfl))⟩)
theorem st_w7_DM {Z : State} {a0 : Array Value} (hw : ∀ d ∈ tables_1, d.before a0 Z = true) (hA : ∀ d ∈ own_flat narrow_1, d.value a0 Z none Z [] = some true) : Sta Z Z.heap "com/example/linepack/linepack/PointClass" "DM" "Lcom/example/linepack/linepack/PointClass;" (.ref (w7_DM Z)) := Sta.start (ev_w7_DM hw hA) (Or.inr ⟨(hw _ (List.mem_of_getElem? (i := 6) rfl)), (hw _ (List.mem_of_getElem? (i := 35) rfl))⟩)
theorem st_w8_INCH_STORAGE_EXIT {Z : State} {a0 : Array Value} (hw : ∀ d ∈ tables_1, d.before a0 Z = true) (hA : ∀ d ∈ own_flat narrow_1, d.value a0 Z none Z [] = some true) : Sta Z Z.heap "com/example/linepack/linepack/PointClass" "INCH_STORAGE_EXIT" "Lcom/example/linepack/linepack/PointClass;" (.ref (w8_INCH_STORAGE_EXIT Z)) := Sta.start (ev_w8_INCH_STORAGE_EXIT hw hA) (Or.inr ⟨(hw _ (List.mem_of_getElem? (i := 6) rfl)), (hw _ (List.mem_of_getElem? (i := 38) rfl))⟩)
theorem st_w9_NDM {Z : State} {a0 : Array Value} (hw : ∀ d ∈ tables_1, d.before a0 Z = true) (hA : ∀ d ∈ own_flat narrow_1, d.value a0 Z none Z [] = some true) : Sta Z Z.heap "com/example/linepack/linepack/PointClass" "NDM" "Lcom/example/linepack/linepack/PointClass;" (.ref (w9_NDM Z)) := Sta.start (ev_w9_NDM hw hA) (Or.inr ⟨(hw _ (List.mem_of_getElem? (i := 6) rfl)), (hw _ (List.mem_of_getElem? (i := 40) rfl))⟩)
theorem st_w10_ENTRY {Z : State} {a0 : Array Value} (hw : ∀ d ∈ tables_1, d.before a0 Z = true) (hA : ∀ d ∈ own_flat narrow_1, d.value a0 Z none Z [] = some true) : Sta Z Z.heap "com/example/linepack/linepack/PointClass$Direction" "ENTRY" "Lcom/example/linepack/linepack/PointClass$Direction;" (.ref (w10_ENTRY Z)) := Sta.start (ev_w10_ENTRY hw hA) (Or.inr ⟨(hw _ (List.mem_of_getElem? (i := 25) rfl)), (hw _ (List.mem_of_getElem? (i := 41) rfl))⟩)
theorem fl0 {Z : State} {a0 : Array Value} (hw : ∀ d ∈ tables_1, d.before a0 Z = true) (hA : ∀ d ∈ own_flat narrow_1, d.value a0 Z none Z [] = some true) : Fld Z Z.heap (w0_MOFFAT Z) "java/lang/Enum" "ordinal" "I" (.int (0 : Int32)) := own_fld (ev_w0_MOFFAT hw hA) (own_eqI (hA _ (List.mem_of_getElem? (i := 2) rfl)))
theorem fl1 {Z : State} {a0 : Array Value} (hw : ∀ d ∈ tables_1, d.before a0 Z = true) (hA : ∀ d ∈ own_flat narrow_1, d.value a0 Z none Z [] = some true) : Fld Z Z.heap (w1_LDM Z) "java/lang/Enum" "ordinal" "I" (.int (3 : Int32)) := own_fld (ev_w1_LDM hw hA) (own_eqI (hA _ (List.mem_of_getElem? (i := 3) rfl)))
theorem fl2 {Z : State} {a0 : Array Value} (hw : ∀ d ∈ tables_1, d.before a0 Z = true) (hA : ∀ d ∈ own_flat narrow_1, d.value a0 Z none Z [] = some true) : Fld Z Z.heap (w2_SUBSEA_IC Z) "java/lang/Enum" "ordinal" "I" (.int (8 : Int32)) := own_fld (ev_w2_SUBSEA_IC hw hA) (own_eqI (hA _ (List.mem_of_getElem? (i := 5) rfl)))
theorem fl3 {Z : State} {a0 : Array Value} (hw : ∀ d ∈ tables_1, d.before a0 Z = true) (hA : ∀ d ∈ own_flat narrow_1, d.value a0 Z none Z [] = some true) : Fld Z Z.heap (w1_LDM Z) "com/example/linepack/linepack/PointClass" "direction" "Lcom/example/linepack/linepack/PointClass$Direction;" (.ref (w3_EXIT Z)) := own_fld (ev_w1_LDM hw hA) (own_eqR (hA _ (List.mem_of_getElem? (i := 7) rfl)) (ev_w3_EXIT hw hA))
theorem fl4 {Z : State} {a0 : Array Value} (hw : ∀ d ∈ tables_1, d.before a0 Z = true) (hA : ∀ d ∈ own_flat narrow_1, d.value a0 Z none Z [] = some true) : Fld Z Z.heap (w4_BELLANABOY Z) "java/lang/Enum" "ordinal" "I" (.int (2 : Int32)) := own_fld (ev_w4_BELLANABOY hw hA) (own_eqI (hA _ (List.mem_of_getElem? (i := 9) rfl)))
theorem fl5 {Z : State} {a0 : Array Value} (hw : ∀ d ∈ tables_1, d.before a0 Z = true) (hA : ∀ d ∈ own_flat narrow_1, d.value a0 Z none Z [] = some true) : Fld Z Z.heap (w5_INCH Z) "java/lang/Enum" "ordinal" "I" (.int (1 : Int32)) := own_fld (ev_w5_INCH hw hA) (own_eqI (hA _ (List.mem_of_getElem? (i := 11) rfl)))
theorem fl6 {Z : State} {a0 : Array Value} (hw : ∀ d ∈ tables_1, d.before a0 Z = true) (hA : ∀ d ∈ own_flat narrow_1, d.value a0 Z none Z [] = some true) : Fld Z Z.heap (w6_SN_IP Z) "java/lang/Enum" "ordinal" "I" (.int (7 : Int32)) := own_fld (ev_w6_SN_IP hw hA) (own_eqI (hA _ (List.mem_of_getElem? (i := 13) rfl)))
theorem fl7 {Z : State} {a0 : Array Value} (hw : ∀ d ∈ tables_1, d.before a0 Z = true) (hA : ∀ d ∈ own_flat narrow_1, d.value a0 Z none Z [] = some true) : Fld Z Z.heap (w7_DM Z) "java/lang/Enum" "ordinal" "I" (.int (4 : Int32)) := own_fld (ev_w7_DM hw hA) (own_eqI (hA _ (List.mem_of_getElem? (i := 15) rfl)))
theorem fl8 {Z : State} {a0 : Array Value} (hw : ∀ d ∈ tables_1, d.before a0 Z = true) (hA : ∀ d ∈ own_flat narrow_1, d.value a0 Z none Z [] = some true) : Fld Z Z.heap (w2_SUBSEA_IC Z) "com/example/linepack/linepack/PointClass" "direction" "Lcom/example/linepack/linepack/PointClass$Direction;" (.ref (w3_EXIT Z)) := own_fld (ev_w2_SUBSEA_IC hw hA) (own_eqR (hA _ (List.mem_of_getElem? (i := 16) rfl)) (ev_w3_EXIT hw hA))
theorem fl9 {Z : State} {a0 : Array Value} (hw : ∀ d ∈ tables_1, d.before a0 Z = true) (hA : ∀ d ∈ own_flat narrow_1, d.value a0 Z none Z [] = some true) : Fld Z Z.heap (w8_INCH_STORAGE_EXIT Z) "java/lang/Enum" "ordinal" "I" (.int (6 : Int32)) := own_fld (ev_w8_INCH_STORAGE_EXIT hw hA) (own_eqI (hA _ (List.mem_of_getElem? (i := 18) rfl)))
theorem fl10 {Z : State} {a0 : Array Value} (hw : ∀ d ∈ tables_1, d.before a0 Z = true) (hA : ∀ d ∈ own_flat narrow_1, d.value a0 Z none Z [] = some true) : Fld Z Z.heap (w9_NDM Z) "java/lang/Enum" "ordinal" "I" (.int (5 : Int32)) := own_fld (ev_w9_NDM hw hA) (own_eqI (hA _ (List.mem_of_getElem? (i := 20) rfl)))
theorem fl11 {Z : State} {a0 : Array Value} (hw : ∀ d ∈ tables_1, d.before a0 Z = true) (hA : ∀ d ∈ own_flat narrow_1, d.value a0 Z none Z [] = some true) : Fld Z Z.heap (w0_MOFFAT Z) "com/example/linepack/linepack/PointClass" "direction" "Lcom/example/linepack/linepack/PointClass$Direction;" (.ref (w10_ENTRY Z)) := own_fld (ev_w0_MOFFAT hw hA) (own_eqR (hA _ (List.mem_of_getElem? (i := 22) rfl)) (ev_w10_ENTRY hw hA))
theorem fl12 {Z : State} {a0 : Array Value} (hw : ∀ d ∈ tables_1, d.before a0 Z = true) (hA : ∀ d ∈ own_flat narrow_1, d.value a0 Z none Z [] = some true) : Fld Z Z.heap (w4_BELLANABOY Z) "com/example/linepack/linepack/PointClass" "direction" "Lcom/example/linepack/linepack/PointClass$Direction;" (.ref (w10_ENTRY Z)) := own_fld (ev_w4_BELLANABOY hw hA) (own_eqR (hA _ (List.mem_of_getElem? (i := 23) rfl)) (ev_w10_ENTRY hw hA))
theorem fl13 {Z : State} {a0 : Array Value} (hw : ∀ d ∈ tables_1, d.before a0 Z = true) (hA : ∀ d ∈ own_flat narrow_1, d.value a0 Z none Z [] = some true) : Fld Z Z.heap (w5_INCH Z) "com/example/linepack/linepack/PointClass" "direction" "Lcom/example/linepack/linepack/PointClass$Direction;" (.ref (w10_ENTRY Z)) := own_fld (ev_w5_INCH hw hA) (own_eqR (hA _ (List.mem_of_getElem? (i := 24) rfl)) (ev_w10_ENTRY hw hA))
theorem fl14 {Z : State} {a0 : Array Value} (hw : ∀ d ∈ tables_1, d.before a0 Z = true) (hA : ∀ d ∈ own_flat narrow_1, d.value a0 Z none Z [] = some true) : Fld Z Z.heap (w6_SN_IP Z) "com/example/linepack/linepack/PointClass" "direction" "Lcom/example/linepack/linepack/PointClass$Direction;" (.ref (w3_EXIT Z)) := own_fld (ev_w6_SN_IP hw hA) (own_eqR (hA _ (List.mem_of_getElem? (i := 25) rfl)) (ev_w3_EXIT hw hA))
theorem fl15 {Z : State} {a0 : Array Value} (hw : ∀ d ∈ tables_1, d.before a0 Z = true) (hA : ∀ d ∈ own_flat narrow_1, d.value a0 Z none Z [] = some true) : Fld Z Z.heap (w7_DM Z) "com/example/linepack/linepack/PointClass" "direction" "Lcom/example/linepack/linepack/PointClass$Direction;" (.ref (w3_EXIT Z)) := own_fld (ev_w7_DM hw hA) (own_eqR (hA _ (List.mem_of_getElem? (i := 26) rfl)) (ev_w3_EXIT hw hA))
theorem fl16 {Z : State} {a0 : Array Value} (hw : ∀ d ∈ tables_1, d.before a0 Z = true) (hA : ∀ d ∈ own_flat narrow_1, d.value a0 Z none Z [] = some true) : Fld Z Z.heap (w8_INCH_STORAGE_EXIT Z) "com/example/linepack/linepack/PointClass" "direction" "Lcom/example/linepack/linepack/PointClass$Direction;" (.ref (w3_EXIT Z)) := own_fld (ev_w8_INCH_STORAGE_EXIT hw hA) (own_eqR (hA _ (List.mem_of_getElem? (i := 27) rfl)) (ev_w3_EXIT hw hA))
theorem fl17 {Z : State} {a0 : Array Value} (hw : ∀ d ∈ tables_1, d.before a0 Z = true) (hA : ∀ d ∈ own_flat narrow_1, d.value a0 Z none Z [] = some true) : Fld Z Z.heap (w9_NDM Z) "com/example/linepack/linepack/PointClass" "direction" "Lcom/example/linepack/linepack/PointClass$Direction;" (.ref (w3_EXIT Z)) := own_fld (ev_w9_NDM hw hA) (own_eqR (hA _ (List.mem_of_getElem? (i := 28) rfl)) (ev_w3_EXIT hw hA))
theorem d1_0 : decode method_2_code 0 = .ok (.iload_n 0, 1) := by decide +kernel
theorem d1_1 : decode method_2_code 1 = .ok (.ifCond .ne 7, 3) := by decide +kernel
theorem d1_4 : decode method_2_code 4 = .ok (.getstatic 7, 3) := by decide +kernel
theorem d1_7 : decode method_2_code 7 = .ok (.areturn, 1) := by decide +kernel
theorem pn0 : plainName "com/example/linepack/linepack/PointClassHasAnnualQuantityPinLaw" = true := by first | (simp [plainName, overriddenIn]; done) | decide +kernel
theorem pd1 : parseMethodDescriptor "(I)Lcom/example/linepack/linepack/PointClass;" = some ⟨[.int], some (.object "com/example/linepack/linepack/PointClass")⟩ := by decide +kernel
theorem d2_0 : decode prog_6_method_6_code 0 = .ok (.aload_n 0, 1) := by decide +kernel
theorem d2_1 : decode prog_6_method_6_code 1 = .ok (.getstatic 13, 3) := by decide +kernel
theorem d2_4 : decode prog_6_method_6_code 4 = .ok (.if_acmp .eq 10, 3) := by decide +kernel
theorem d2_7 : decode prog_6_method_6_code 7 = .ok (.aload_n 0, 1) := by decide +kernel
theorem d2_8 : decode prog_6_method_6_code 8 = .ok (.getstatic 28, 3) := by decide +kernel
theorem d2_11 : decode prog_6_method_6_code 11 = .ok (.if_acmp .ne 7, 3) := by decide +kernel
theorem d2_18 : decode prog_6_method_6_code 18 = .ok (.iconst 0, 1) := by decide +kernel
theorem d2_19 : decode prog_6_method_6_code 19 = .ok (.ireturn, 1) := by decide +kernel
theorem pn2 : plainName "com/example/linepack/linepack/PointClass" = true := by first | (simp [plainName, overriddenIn]; done) | decide +kernel
theorem pd3 : parseMethodDescriptor "()Z" = some ⟨[], some .boolean⟩ := by decide +kernel
theorem d1_8 : decode method_2_code 8 = .ok (.iload_n 0, 1) := by decide +kernel
theorem d1_9 : decode method_2_code 9 = .ok (.iconst 1, 1) := by decide +kernel
theorem d1_10 : decode method_2_code 10 = .ok (.if_icmp .ne 7, 3) := by decide +kernel
theorem d1_13 : decode method_2_code 13 = .ok (.getstatic 13, 3) := by decide +kernel
theorem d1_16 : decode method_2_code 16 = .ok (.areturn, 1) := by decide +kernel
theorem d1_17 : decode method_2_code 17 = .ok (.iload_n 0, 1) := by decide +kernel
theorem d1_18 : decode method_2_code 18 = .ok (.iconst 2, 1) := by decide +kernel
theorem d1_19 : decode method_2_code 19 = .ok (.if_icmp .ne 7, 3) := by decide +kernel
theorem d1_22 : decode method_2_code 22 = .ok (.getstatic 16, 3) := by decide +kernel
theorem d1_25 : decode method_2_code 25 = .ok (.areturn, 1) := by decide +kernel
theorem d1_26 : decode method_2_code 26 = .ok (.iload_n 0, 1) := by decide +kernel
theorem d1_27 : decode method_2_code 27 = .ok (.iconst 3, 1) := by decide +kernel
theorem d1_28 : decode method_2_code 28 = .ok (.if_icmp .ne 7, 3) := by decide +kernel
theorem d1_31 : decode method_2_code 31 = .ok (.getstatic 19, 3) := by decide +kernel
theorem d1_34 : decode method_2_code 34 = .ok (.areturn, 1) := by decide +kernel
theorem d2_14 : decode prog_6_method_6_code 14 = .ok (.iconst 1, 1) := by decide +kernel
theorem d2_15 : decode prog_6_method_6_code 15 = .ok (.goto 4, 3) := by decide +kernel
theorem d3_0 : decode prog_6_method_5_code 0 = .ok (.aload_n 0, 1) := by decide +kernel
theorem d3_1 : decode prog_6_method_5_code 1 = .ok (.getfield 54, 3) := by decide +kernel
theorem d3_4 : decode prog_6_method_5_code 4 = .ok (.areturn, 1) := by decide +kernel
theorem pd4 : parseMethodDescriptor "()Lcom/example/linepack/linepack/PointClass$Direction;" = some ⟨[], some (.object "com/example/linepack/linepack/PointClass$Direction")⟩ := by decide +kernel
theorem d1_35 : decode method_2_code 35 = .ok (.iload_n 0, 1) := by decide +kernel
theorem d1_36 : decode method_2_code 36 = .ok (.iconst 4, 1) := by decide +kernel
theorem d1_37 : decode method_2_code 37 = .ok (.if_icmp .ne 7, 3) := by decide +kernel
theorem d1_40 : decode method_2_code 40 = .ok (.getstatic 22, 3) := by decide +kernel
theorem d1_43 : decode method_2_code 43 = .ok (.areturn, 1) := by decide +kernel
theorem d1_44 : decode method_2_code 44 = .ok (.iload_n 0, 1) := by decide +kernel
theorem d1_45 : decode method_2_code 45 = .ok (.iconst 5, 1) := by decide +kernel
theorem d1_46 : decode method_2_code 46 = .ok (.if_icmp .ne 7, 3) := by decide +kernel
theorem d1_49 : decode method_2_code 49 = .ok (.getstatic 25, 3) := by decide +kernel
theorem d1_52 : decode method_2_code 52 = .ok (.areturn, 1) := by decide +kernel
theorem d1_53 : decode method_2_code 53 = .ok (.iload_n 0, 1) := by decide +kernel
theorem d1_54 : decode method_2_code 54 = .ok (.bipush 6, 2) := by decide +kernel
theorem d1_56 : decode method_2_code 56 = .ok (.if_icmp .ne 7, 3) := by decide +kernel
theorem d1_59 : decode method_2_code 59 = .ok (.getstatic 28, 3) := by decide +kernel
theorem d1_62 : decode method_2_code 62 = .ok (.areturn, 1) := by decide +kernel
theorem d1_63 : decode method_2_code 63 = .ok (.iload_n 0, 1) := by decide +kernel
theorem d1_64 : decode method_2_code 64 = .ok (.bipush 7, 2) := by decide +kernel
theorem d1_66 : decode method_2_code 66 = .ok (.if_icmp .ne 7, 3) := by decide +kernel
theorem d1_69 : decode method_2_code 69 = .ok (.getstatic 31, 3) := by decide +kernel
theorem d1_72 : decode method_2_code 72 = .ok (.areturn, 1) := by decide +kernel
theorem d1_73 : decode method_2_code 73 = .ok (.getstatic 34, 3) := by decide +kernel
theorem d1_76 : decode method_2_code 76 = .ok (.areturn, 1) := by decide +kernel
set_option maxRecDepth 65536 in
set_option maxHeartbeats 40000000 in
theorem rm1_0 (l : Launch) (Z : State) (a0 : Array Value) (hw : ∀ d ∈ tables_1, d.before a0 Z = true) (hA : ∀ d ∈ own_flat narrow_1, d.value a0 Z none Z [] = some true) (ws : List Jvm.Cond) (h0 : Heap) (n0 : Nat) (O0 : Old Z n0 h0) :
    own_Met l Z (⟨"com/example/linepack/linepack/PointClassHasAnnualQuantityPinLaw", "pick", "(I)Lcom/example/linepack/linepack/PointClass;"⟩ : MethodName) (Jvm.Cond.code (⟨"com/example/linepack/linepack/PointClassHasAnnualQuantityPinLaw", "pick", "(I)Lcom/example/linepack/linepack/PointClass;"⟩ : MethodName) method_2_code 1 (some (.object "com/example/linepack/linepack/PointClass"))) ws ({ frames := 0, cells := 0, slots := 0, locals := 0 } : Room) #[(.int (0 : Int32))] h0 (fun v h L => (v = some (.ref (w0_MOFFAT Z)) ∧ Fr n0 L ∧ h = h0)) := by
  refine own_met (own := "com/example/linepack/linepack/PointClassHasAnnualQuantityPinLaw") (plainFor_of_name pn0) rfl ?_
  intro p e s m below meth c s₁ hx hby hml hown hnm hret hlk hZ e0 X0
  refine own_cast (g' := (mkF m 0 #[.val (.int (0 : Int32))] [])) (by first | (simp [entryFrame, mkF, argsToLocals, Value.category]; done) | rfl) ?_
  refine own_step (fun _ k => XS.iloadN X0.here hx rfl (hb hby d1_0) rfl k) ?_
  show own_Wp p e below _ s₁ (mkF m 1 #[.val (.int (0 : Int32))] [(.int (0 : Int32))])
  refine own_step (fun _ k => XS.ifNo X0.here hx rfl (hb hby d1_1) rfl (by decide) k) ?_
  show own_Wp p e below _ s₁ (mkF m 4 #[.val (.int (0 : Int32))] [])
  obtain ⟨T1, X1, e1, st1⟩ := getS2 X0 hx hZ hown (host := "") (Or.inl (hw _ (List.mem_of_getElem? (i := 5) rfl))) Via.refl e0 ((st_w0_MOFFAT hw hA).ext O0.2) (g := (mkF m 4 #[.val (.int (0 : Int32))] [])) rfl (hb hby d1_4)
  refine own_step st1 ?_
  show own_Wp p e below _ T1 (mkF m 7 #[.val (.int (0 : Int32))] [(.ref (w0_MOFFAT Z))])
  exact own_retA X1 hx hret rfl rfl hlk (hb hby d1_7) (by decide) (by decide) (by rw [e1]; exact ⟨rfl, (Fr.nil n0), rfl⟩)

set_option maxRecDepth 65536 in
set_option maxHeartbeats 40000000 in
theorem rm2_1 (l : Launch) (Z : State) (a0 : Array Value) (hw : ∀ d ∈ tables_1, d.before a0 Z = true) (hA : ∀ d ∈ own_flat narrow_1, d.value a0 Z none Z [] = some true) (ws : List Jvm.Cond) (x1 : Addr) (h0 : Heap) (n0 : Nat) (O0 : Old Z n0 h0) (D0 : x1 ≠ (w1_LDM Z)) (D1 : x1 ≠ (w2_SUBSEA_IC Z)) :
    own_Met l Z (⟨"com/example/linepack/linepack/PointClass", "hasAnnualQuantity", "()Z"⟩ : MethodName) (Jvm.Cond.code (⟨"com/example/linepack/linepack/PointClass", "hasAnnualQuantity", "()Z"⟩ : MethodName) prog_6_method_6_code 1 (some .boolean)) ws ({ frames := 0, cells := 0, slots := 0, locals := 0 } : Room) #[(.ref x1)] h0 (fun v h L => (v = some (.int (0 : Int32)) ∧ Fr n0 L ∧ h = h0)) := by
  refine own_met (own := "com/example/linepack/linepack/PointClass") (plainFor_of_name pn2) rfl ?_
  intro p e s m below meth c s₁ hx hby hml hown hnm hret hlk hZ e0 X0
  refine own_cast (g' := (mkF m 0 #[.val (.ref x1)] [])) (by first | (simp [entryFrame, mkF, argsToLocals, Value.category]; done) | rfl) ?_
  refine own_step (fun _ k => XS.aloadN X0.here hx rfl (hb hby d2_0) rfl rfl k) ?_
  show own_Wp p e below _ s₁ (mkF m 1 #[.val (.ref x1)] [(.ref x1)])
  obtain ⟨T1, X1, e1, st1⟩ := getS2 X0 hx hZ hown (host := "") (Or.inl (hw _ (List.mem_of_getElem? (i := 13) rfl))) Via.refl e0 ((st_w1_LDM hw hA).ext O0.2) (g := (mkF m 1 #[.val (.ref x1)] [(.ref x1)])) rfl (hb hby d2_1)
  refine own_step st1 ?_
  show own_Wp p e below _ T1 (mkF m 4 #[.val (.ref x1)] [(.ref (w1_LDM Z)), (.ref x1)])
  refine own_step (fun _ k => Jvm.RoadKit.acmp (g := (mkF m 4 #[.val (.ref x1)] [(.ref (w1_LDM Z)), (.ref x1)])) X1 hx rfl rfl rfl (pc0 := 4) (pc' := 7) (same := false) rfl (hb hby d2_4) rfl (decide_eq_false fun q => D0 (Value.ref.inj q)) (by decide) (by decide) k) ?_
  show own_Wp p e below _ T1 (mkF m 7 #[.val (.ref x1)] [])
  refine own_step (fun _ k => XS.aloadN X1.here hx rfl (hb hby d2_7) rfl rfl k) ?_
  show own_Wp p e below _ T1 (mkF m 8 #[.val (.ref x1)] [(.ref x1)])
  obtain ⟨T2, X2, e2, st2⟩ := getS2 X1 hx hZ hown (host := "") (Or.inl (hw _ (List.mem_of_getElem? (i := 15) rfl))) Via.refl e1 ((st_w2_SUBSEA_IC hw hA).ext O0.2) (g := (mkF m 8 #[.val (.ref x1)] [(.ref x1)])) rfl (hb hby d2_8)
  refine own_step st2 ?_
  show own_Wp p e below _ T2 (mkF m 11 #[.val (.ref x1)] [(.ref (w2_SUBSEA_IC Z)), (.ref x1)])
  refine own_step (fun _ k => Jvm.RoadKit.acmp (g := (mkF m 11 #[.val (.ref x1)] [(.ref (w2_SUBSEA_IC Z)), (.ref x1)])) X2 hx rfl rfl rfl (pc0 := 11) (pc' := 18) (same := false) rfl (hb hby d2_11) rfl (decide_eq_false fun q => D1 (Value.ref.inj q)) (by decide) (by decide) k) ?_
  show own_Wp p e below _ T2 (mkF m 18 #[.val (.ref x1)] [])
  refine own_step (fun _ k => XS.iconst X2.here hx rfl (hb hby d2_18) k) ?_
  show own_Wp p e below _ T2 (mkF m 19 #[.val (.ref x1)] [(.int (0 : Int32))])
  exact own_retN X2 hx (t := .boolean) hret (by simp) hlk (hb hby d2_19) (by decide) (by decide) (by rw [e2]; exact ⟨rfl, (Fr.nil n0), rfl⟩)

set_option maxRecDepth 65536 in
set_option maxHeartbeats 40000000 in
theorem rm1_2 (l : Launch) (Z : State) (a0 : Array Value) (hw : ∀ d ∈ tables_1, d.before a0 Z = true) (hA : ∀ d ∈ own_flat narrow_1, d.value a0 Z none Z [] = some true) (ws : List Jvm.Cond) (h0 : Heap) (n0 : Nat) (O0 : Old Z n0 h0) :
    own_Met l Z (⟨"com/example/linepack/linepack/PointClassHasAnnualQuantityPinLaw", "pick", "(I)Lcom/example/linepack/linepack/PointClass;"⟩ : MethodName) (Jvm.Cond.code (⟨"com/example/linepack/linepack/PointClassHasAnnualQuantityPinLaw", "pick", "(I)Lcom/example/linepack/linepack/PointClass;"⟩ : MethodName) method_2_code 1 (some (.object "com/example/linepack/linepack/PointClass"))) ws ({ frames := 0, cells := 0, slots := 0, locals := 0 } : Room) #[(.int (1 : Int32))] h0 (fun v h L => (v = some (.ref (w5_INCH Z)) ∧ Fr n0 L ∧ h = h0)) := by
  refine own_met (own := "com/example/linepack/linepack/PointClassHasAnnualQuantityPinLaw") (plainFor_of_name pn0) rfl ?_
  intro p e s m below meth c s₁ hx hby hml hown hnm hret hlk hZ e0 X0
  refine own_cast (g' := (mkF m 0 #[.val (.int (1 : Int32))] [])) (by first | (simp [entryFrame, mkF, argsToLocals, Value.category]; done) | rfl) ?_
  refine own_step (fun _ k => XS.iloadN X0.here hx rfl (hb hby d1_0) rfl k) ?_
  show own_Wp p e below _ s₁ (mkF m 1 #[.val (.int (1 : Int32))] [(.int (1 : Int32))])
  refine own_step (fun _ k => XS.ifYes X0.here hx rfl (pc0 := 1) (pc' := 8) rfl (hb hby d1_1) rfl (by decide) (by decide) (by decide) k) ?_
  show own_Wp p e below _ s₁ (mkF m 8 #[.val (.int (1 : Int32))] [])
  refine own_step (fun _ k => XS.iloadN X0.here hx rfl (hb hby d1_8) rfl k) ?_
  show own_Wp p e below _ s₁ (mkF m 9 #[.val (.int (1 : Int32))] [(.int (1 : Int32))])
  refine own_step (fun _ k => XS.iconst X0.here hx rfl (hb hby d1_9) k) ?_
  show own_Wp p e below _ s₁ (mkF m 10 #[.val (.int (1 : Int32))] [(.int (1 : Int32)), (.int (1 : Int32))])
  refine own_step (fun _ k => XS.icmpNo X0.here hx rfl (hb hby d1_10) rfl (by decide) k) ?_
  show own_Wp p e below _ s₁ (mkF m 13 #[.val (.int (1 : Int32))] [])
  obtain ⟨T1, X1, e1, st1⟩ := getS2 X0 hx hZ hown (host := "") (Or.inl (hw _ (List.mem_of_getElem? (i := 30) rfl))) Via.refl e0 ((st_w5_INCH hw hA).ext O0.2) (g := (mkF m 13 #[.val (.int (1 : Int32))] [])) rfl (hb hby d1_13)
  refine own_step st1 ?_
  show own_Wp p e below _ T1 (mkF m 16 #[.val (.int (1 : Int32))] [(.ref (w5_INCH Z))])
  exact own_retA X1 hx hret rfl rfl hlk (hb hby d1_16) (by decide) (by decide) (by rw [e1]; exact ⟨rfl, (Fr.nil n0), rfl⟩)

set_option maxRecDepth 65536 in
set_option maxHeartbeats 40000000 in
theorem rm1_3 (l : Launch) (Z : State) (a0 : Array Value) (hw : ∀ d ∈ tables_1, d.before a0 Z = true) (hA : ∀ d ∈ own_flat narrow_1, d.value a0 Z none Z [] = some true) (ws : List Jvm.Cond) (h0 : Heap) (n0 : Nat) (O0 : Old Z n0 h0) :
    own_Met l Z (⟨"com/example/linepack/linepack/PointClassHasAnnualQuantityPinLaw", "pick", "(I)Lcom/example/linepack/linepack/PointClass;"⟩ : MethodName) (Jvm.Cond.code (⟨"com/example/linepack/linepack/PointClassHasAnnualQuantityPinLaw", "pick", "(I)Lcom/example/linepack/linepack/PointClass;"⟩ : MethodName) method_2_code 1 (some (.object "com/example/linepack/linepack/PointClass"))) ws ({ frames := 0, cells := 0, slots := 0, locals := 0 } : Room) #[(.int (2 : Int32))] h0 (fun v h L => (v = some (.ref (w4_BELLANABOY Z)) ∧ Fr n0 L ∧ h = h0)) := by
  refine own_met (own := "com/example/linepack/linepack/PointClassHasAnnualQuantityPinLaw") (plainFor_of_name pn0) rfl ?_
  intro p e s m below meth c s₁ hx hby hml hown hnm hret hlk hZ e0 X0
  refine own_cast (g' := (mkF m 0 #[.val (.int (2 : Int32))] [])) (by first | (simp [entryFrame, mkF, argsToLocals, Value.category]; done) | rfl) ?_
  refine own_step (fun _ k => XS.iloadN X0.here hx rfl (hb hby d1_0) rfl k) ?_
  show own_Wp p e below _ s₁ (mkF m 1 #[.val (.int (2 : Int32))] [(.int (2 : Int32))])
  refine own_step (fun _ k => XS.ifYes X0.here hx rfl (pc0 := 1) (pc' := 8) rfl (hb hby d1_1) rfl (by decide) (by decide) (by decide) k) ?_
  show own_Wp p e below _ s₁ (mkF m 8 #[.val (.int (2 : Int32))] [])
  refine own_step (fun _ k => XS.iloadN X0.here hx rfl (hb hby d1_8) rfl k) ?_
  show own_Wp p e below _ s₁ (mkF m 9 #[.val (.int (2 : Int32))] [(.int (2 : Int32))])
  refine own_step (fun _ k => XS.iconst X0.here hx rfl (hb hby d1_9) k) ?_
  show own_Wp p e below _ s₁ (mkF m 10 #[.val (.int (2 : Int32))] [(.int (1 : Int32)), (.int (2 : Int32))])
  refine own_step (fun _ k => XS.icmpYes X0.here hx rfl (pc0 := 10) (pc' := 17) rfl (hb hby d1_10) rfl (by decide) (by decide) (by decide) k) ?_
  show own_Wp p e below _ s₁ (mkF m 17 #[.val (.int (2 : Int32))] [])
  refine own_step (fun _ k => XS.iloadN X0.here hx rfl (hb hby d1_17) rfl k) ?_
  show own_Wp p e below _ s₁ (mkF m 18 #[.val (.int (2 : Int32))] [(.int (2 : Int32))])
  refine own_step (fun _ k => XS.iconst X0.here hx rfl (hb hby d1_18) k) ?_
  show own_Wp p e below _ s₁ (mkF m 19 #[.val (.int (2 : Int32))] [(.int (2 : Int32)), (.int (2 : Int32))])
  refine own_step (fun _ k => XS.icmpNo X0.here hx rfl (hb hby d1_19) rfl (by decide) k) ?_
  show own_Wp p e below _ s₁ (mkF m 22 #[.val (.int (2 : Int32))] [])
  obtain ⟨T1, X1, e1, st1⟩ := getS2 X0 hx hZ hown (host := "") (Or.inl (hw _ (List.mem_of_getElem? (i := 28) rfl))) Via.refl e0 ((st_w4_BELLANABOY hw hA).ext O0.2) (g := (mkF m 22 #[.val (.int (2 : Int32))] [])) rfl (hb hby d1_22)
  refine own_step st1 ?_
  show own_Wp p e below _ T1 (mkF m 25 #[.val (.int (2 : Int32))] [(.ref (w4_BELLANABOY Z))])
  exact own_retA X1 hx hret rfl rfl hlk (hb hby d1_25) (by decide) (by decide) (by rw [e1]; exact ⟨rfl, (Fr.nil n0), rfl⟩)

set_option maxRecDepth 65536 in
set_option maxHeartbeats 40000000 in
theorem rm1_4 (l : Launch) (Z : State) (a0 : Array Value) (hw : ∀ d ∈ tables_1, d.before a0 Z = true) (hA : ∀ d ∈ own_flat narrow_1, d.value a0 Z none Z [] = some true) (ws : List Jvm.Cond) (h0 : Heap) (n0 : Nat) (O0 : Old Z n0 h0) :
    own_Met l Z (⟨"com/example/linepack/linepack/PointClassHasAnnualQuantityPinLaw", "pick", "(I)Lcom/example/linepack/linepack/PointClass;"⟩ : MethodName) (Jvm.Cond.code (⟨"com/example/linepack/linepack/PointClassHasAnnualQuantityPinLaw", "pick", "(I)Lcom/example/linepack/linepack/PointClass;"⟩ : MethodName) method_2_code 1 (some (.object "com/example/linepack/linepack/PointClass"))) ws ({ frames := 0, cells := 0, slots := 0, locals := 0 } : Room) #[(.int (3 : Int32))] h0 (fun v h L => (v = some (.ref (w1_LDM Z)) ∧ Fr n0 L ∧ h = h0)) := by
  refine own_met (own := "com/example/linepack/linepack/PointClassHasAnnualQuantityPinLaw") (plainFor_of_name pn0) rfl ?_
  intro p e s m below meth c s₁ hx hby hml hown hnm hret hlk hZ e0 X0
  refine own_cast (g' := (mkF m 0 #[.val (.int (3 : Int32))] [])) (by first | (simp [entryFrame, mkF, argsToLocals, Value.category]; done) | rfl) ?_
  refine own_step (fun _ k => XS.iloadN X0.here hx rfl (hb hby d1_0) rfl k) ?_
  show own_Wp p e below _ s₁ (mkF m 1 #[.val (.int (3 : Int32))] [(.int (3 : Int32))])
  refine own_step (fun _ k => XS.ifYes X0.here hx rfl (pc0 := 1) (pc' := 8) rfl (hb hby d1_1) rfl (by decide) (by decide) (by decide) k) ?_
  show own_Wp p e below _ s₁ (mkF m 8 #[.val (.int (3 : Int32))] [])
  refine own_step (fun _ k => XS.iloadN X0.here hx rfl (hb hby d1_8) rfl k) ?_
  show own_Wp p e below _ s₁ (mkF m 9 #[.val (.int (3 : Int32))] [(.int (3 : Int32))])
  refine own_step (fun _ k => XS.iconst X0.here hx rfl (hb hby d1_9) k) ?_
  show own_Wp p e below _ s₁ (mkF m 10 #[.val (.int (3 : Int32))] [(.int (1 : Int32)), (.int (3 : Int32))])
  refine own_step (fun _ k => XS.icmpYes X0.here hx rfl (pc0 := 10) (pc' := 17) rfl (hb hby d1_10) rfl (by decide) (by decide) (by decide) k) ?_
  show own_Wp p e below _ s₁ (mkF m 17 #[.val (.int (3 : Int32))] [])
  refine own_step (fun _ k => XS.iloadN X0.here hx rfl (hb hby d1_17) rfl k) ?_
  show own_Wp p e below _ s₁ (mkF m 18 #[.val (.int (3 : Int32))] [(.int (3 : Int32))])
  refine own_step (fun _ k => XS.iconst X0.here hx rfl (hb hby d1_18) k) ?_
  show own_Wp p e below _ s₁ (mkF m 19 #[.val (.int (3 : Int32))] [(.int (2 : Int32)), (.int (3 : Int32))])
  refine own_step (fun _ k => XS.icmpYes X0.here hx rfl (pc0 := 19) (pc' := 26) rfl (hb hby d1_19) rfl (by decide) (by decide) (by decide) k) ?_
  show own_Wp p e below _ s₁ (mkF m 26 #[.val (.int (3 : Int32))] [])
  refine own_step (fun _ k => XS.iloadN X0.here hx rfl (hb hby d1_26) rfl k) ?_
  show own_Wp p e below _ s₁ (mkF m 27 #[.val (.int (3 : Int32))] [(.int (3 : Int32))])
  refine own_step (fun _ k => XS.iconst X0.here hx rfl (hb hby d1_27) k) ?_
  show own_Wp p e below _ s₁ (mkF m 28 #[.val (.int (3 : Int32))] [(.int (3 : Int32)), (.int (3 : Int32))])
  refine own_step (fun _ k => XS.icmpNo X0.here hx rfl (hb hby d1_28) rfl (by decide) k) ?_
  show own_Wp p e below _ s₁ (mkF m 31 #[.val (.int (3 : Int32))] [])
  obtain ⟨T1, X1, e1, st1⟩ := getS2 X0 hx hZ hown (host := "") (Or.inl (hw _ (List.mem_of_getElem? (i := 17) rfl))) Via.refl e0 ((st_w1_LDM hw hA).ext O0.2) (g := (mkF m 31 #[.val (.int (3 : Int32))] [])) rfl (hb hby d1_31)
  refine own_step st1 ?_
  show own_Wp p e below _ T1 (mkF m 34 #[.val (.int (3 : Int32))] [(.ref (w1_LDM Z))])
  exact own_retA X1 hx hret rfl rfl hlk (hb hby d1_34) (by decide) (by decide) (by rw [e1]; exact ⟨rfl, (Fr.nil n0), rfl⟩)

set_option maxRecDepth 65536 in
set_option maxHeartbeats 40000000 in
theorem rm2_5 (l : Launch) (Z : State) (a0 : Array Value) (hw : ∀ d ∈ tables_1, d.before a0 Z = true) (hA : ∀ d ∈ own_flat narrow_1, d.value a0 Z none Z [] = some true) (ws : List Jvm.Cond) (h0 : Heap) (n0 : Nat) (O0 : Old Z n0 h0) :
    own_Met l Z (⟨"com/example/linepack/linepack/PointClass", "hasAnnualQuantity", "()Z"⟩ : MethodName) (Jvm.Cond.code (⟨"com/example/linepack/linepack/PointClass", "hasAnnualQuantity", "()Z"⟩ : MethodName) prog_6_method_6_code 1 (some .boolean)) ws ({ frames := 0, cells := 0, slots := 0, locals := 0 } : Room) #[(.ref (w1_LDM Z))] h0 (fun v h L => (v = some (.int (1 : Int32)) ∧ Fr n0 L ∧ h = h0)) := by
  refine own_met (own := "com/example/linepack/linepack/PointClass") (plainFor_of_name pn2) rfl ?_
  intro p e s m below meth c s₁ hx hby hml hown hnm hret hlk hZ e0 X0
  refine own_cast (g' := (mkF m 0 #[.val (.ref (w1_LDM Z))] [])) (by first | (simp [entryFrame, mkF, argsToLocals, Value.category]; done) | rfl) ?_
  refine own_step (fun _ k => XS.aloadN X0.here hx rfl (hb hby d2_0) rfl rfl k) ?_
  show own_Wp p e below _ s₁ (mkF m 1 #[.val (.ref (w1_LDM Z))] [(.ref (w1_LDM Z))])
  obtain ⟨T1, X1, e1, st1⟩ := getS2 X0 hx hZ hown (host := "") (Or.inl (hw _ (List.mem_of_getElem? (i := 13) rfl))) Via.refl e0 ((st_w1_LDM hw hA).ext O0.2) (g := (mkF m 1 #[.val (.ref (w1_LDM Z))] [(.ref (w1_LDM Z))])) rfl (hb hby d2_1)
  refine own_step st1 ?_
  show own_Wp p e below _ T1 (mkF m 4 #[.val (.ref (w1_LDM Z))] [(.ref (w1_LDM Z)), (.ref (w1_LDM Z))])
  refine own_step (fun _ k => Jvm.RoadKit.acmp (g := (mkF m 4 #[.val (.ref (w1_LDM Z))] [(.ref (w1_LDM Z)), (.ref (w1_LDM Z))])) X1 hx rfl rfl rfl (pc0 := 4) (pc' := 14) (same := true) rfl (hb hby d2_4) rfl (decide_eq_true rfl) (by decide) (by decide) k) ?_
  show own_Wp p e below _ T1 (mkF m 14 #[.val (.ref (w1_LDM Z))] [])
  refine own_step (fun _ k => XS.iconst X1.here hx rfl (hb hby d2_14) k) ?_
  show own_Wp p e below _ T1 (mkF m 15 #[.val (.ref (w1_LDM Z))] [(.int (1 : Int32))])
  refine own_step (fun _ k => XS.goto X1.here hx rfl (pc0 := 15) (pc' := 19) rfl (hb hby d2_15) (by decide) (by decide) k) ?_
  show own_Wp p e below _ T1 (mkF m 19 #[.val (.ref (w1_LDM Z))] [(.int (1 : Int32))])
  exact own_retN X1 hx (t := .boolean) hret (by simp) hlk (hb hby d2_19) (by decide) (by decide) (by rw [e1]; exact ⟨rfl, (Fr.nil n0), rfl⟩)

set_option maxRecDepth 65536 in
set_option maxHeartbeats 40000000 in
theorem rm3_6 (l : Launch) (Z : State) (a0 : Array Value) (hw : ∀ d ∈ tables_1, d.before a0 Z = true) (hA : ∀ d ∈ own_flat narrow_1, d.value a0 Z none Z [] = some true) (ws : List Jvm.Cond) (x1 : Addr) (h0 : Heap) (n0 : Nat) (O0 : Old Z n0 h0) (D0 : Fld Z Z.heap x1 "com/example/linepack/linepack/PointClass" "direction" "Lcom/example/linepack/linepack/PointClass$Direction;" (.ref (w3_EXIT Z))) :
    own_Met l Z (⟨"com/example/linepack/linepack/PointClass", "direction", "()Lcom/example/linepack/linepack/PointClass$Direction;"⟩ : MethodName) (Jvm.Cond.code (⟨"com/example/linepack/linepack/PointClass", "direction", "()Lcom/example/linepack/linepack/PointClass$Direction;"⟩ : MethodName) prog_6_method_5_code 1 (some (.object "com/example/linepack/linepack/PointClass$Direction"))) ws ({ frames := 0, cells := 0, slots := 0, locals := 0 } : Room) #[(.ref x1)] h0 (fun v h L => (v = some (.ref (w3_EXIT Z)) ∧ Fr n0 L ∧ h = h0)) := by
  refine own_met (own := "com/example/linepack/linepack/PointClass") (plainFor_of_name pn2) rfl ?_
  intro p e s m below meth c s₁ hx hby hml hown hnm hret hlk hZ e0 X0
  refine own_cast (g' := (mkF m 0 #[.val (.ref x1)] [])) (by first | (simp [entryFrame, mkF, argsToLocals, Value.category]; done) | rfl) ?_
  refine own_step (fun _ k => XS.aloadN X0.here hx rfl (hb hby d3_0) rfl rfl k) ?_
  show own_Wp p e below _ s₁ (mkF m 1 #[.val (.ref x1)] [(.ref x1)])
  obtain ⟨T1, X1, e1, st1⟩ := getF X0 hx hZ hown (host := "") (Or.inl (hw _ (List.mem_of_getElem? (i := 23) rfl))) Via.refl e0 (D0.ext O0.2) (g := (mkF m 1 #[.val (.ref x1)] [(.ref x1)])) rfl rfl (hb hby d3_1)
  refine own_step st1 ?_
  show own_Wp p e below _ T1 (mkF m 4 #[.val (.ref x1)] [(.ref (w3_EXIT Z))])
  exact own_retA X1 hx hret rfl rfl hlk (hb hby d3_4) (by decide) (by decide) (by rw [e1]; exact ⟨rfl, (Fr.nil n0), rfl⟩)

set_option maxRecDepth 65536 in
set_option maxHeartbeats 40000000 in
theorem rm1_7 (l : Launch) (Z : State) (a0 : Array Value) (hw : ∀ d ∈ tables_1, d.before a0 Z = true) (hA : ∀ d ∈ own_flat narrow_1, d.value a0 Z none Z [] = some true) (ws : List Jvm.Cond) (h0 : Heap) (n0 : Nat) (O0 : Old Z n0 h0) :
    own_Met l Z (⟨"com/example/linepack/linepack/PointClassHasAnnualQuantityPinLaw", "pick", "(I)Lcom/example/linepack/linepack/PointClass;"⟩ : MethodName) (Jvm.Cond.code (⟨"com/example/linepack/linepack/PointClassHasAnnualQuantityPinLaw", "pick", "(I)Lcom/example/linepack/linepack/PointClass;"⟩ : MethodName) method_2_code 1 (some (.object "com/example/linepack/linepack/PointClass"))) ws ({ frames := 0, cells := 0, slots := 0, locals := 0 } : Room) #[(.int (4 : Int32))] h0 (fun v h L => (v = some (.ref (w7_DM Z)) ∧ Fr n0 L ∧ h = h0)) := by
  refine own_met (own := "com/example/linepack/linepack/PointClassHasAnnualQuantityPinLaw") (plainFor_of_name pn0) rfl ?_
  intro p e s m below meth c s₁ hx hby hml hown hnm hret hlk hZ e0 X0
  refine own_cast (g' := (mkF m 0 #[.val (.int (4 : Int32))] [])) (by first | (simp [entryFrame, mkF, argsToLocals, Value.category]; done) | rfl) ?_
  refine own_step (fun _ k => XS.iloadN X0.here hx rfl (hb hby d1_0) rfl k) ?_
  show own_Wp p e below _ s₁ (mkF m 1 #[.val (.int (4 : Int32))] [(.int (4 : Int32))])
  refine own_step (fun _ k => XS.ifYes X0.here hx rfl (pc0 := 1) (pc' := 8) rfl (hb hby d1_1) rfl (by decide) (by decide) (by decide) k) ?_
  show own_Wp p e below _ s₁ (mkF m 8 #[.val (.int (4 : Int32))] [])
  refine own_step (fun _ k => XS.iloadN X0.here hx rfl (hb hby d1_8) rfl k) ?_
  show own_Wp p e below _ s₁ (mkF m 9 #[.val (.int (4 : Int32))] [(.int (4 : Int32))])
  refine own_step (fun _ k => XS.iconst X0.here hx rfl (hb hby d1_9) k) ?_
  show own_Wp p e below _ s₁ (mkF m 10 #[.val (.int (4 : Int32))] [(.int (1 : Int32)), (.int (4 : Int32))])
  refine own_step (fun _ k => XS.icmpYes X0.here hx rfl (pc0 := 10) (pc' := 17) rfl (hb hby d1_10) rfl (by decide) (by decide) (by decide) k) ?_
  show own_Wp p e below _ s₁ (mkF m 17 #[.val (.int (4 : Int32))] [])
  refine own_step (fun _ k => XS.iloadN X0.here hx rfl (hb hby d1_17) rfl k) ?_
  show own_Wp p e below _ s₁ (mkF m 18 #[.val (.int (4 : Int32))] [(.int (4 : Int32))])
  refine own_step (fun _ k => XS.iconst X0.here hx rfl (hb hby d1_18) k) ?_
  show own_Wp p e below _ s₁ (mkF m 19 #[.val (.int (4 : Int32))] [(.int (2 : Int32)), (.int (4 : Int32))])
  refine own_step (fun _ k => XS.icmpYes X0.here hx rfl (pc0 := 19) (pc' := 26) rfl (hb hby d1_19) rfl (by decide) (by decide) (by decide) k) ?_
  show own_Wp p e below _ s₁ (mkF m 26 #[.val (.int (4 : Int32))] [])
  refine own_step (fun _ k => XS.iloadN X0.here hx rfl (hb hby d1_26) rfl k) ?_
  show own_Wp p e below _ s₁ (mkF m 27 #[.val (.int (4 : Int32))] [(.int (4 : Int32))])
  refine own_step (fun _ k => XS.iconst X0.here hx rfl (hb hby d1_27) k) ?_
  show own_Wp p e below _ s₁ (mkF m 28 #[.val (.int (4 : Int32))] [(.int (3 : Int32)), (.int (4 : Int32))])
  refine own_step (fun _ k => XS.icmpYes X0.here hx rfl (pc0 := 28) (pc' := 35) rfl (hb hby d1_28) rfl (by decide) (by decide) (by decide) k) ?_
  show own_Wp p e below _ s₁ (mkF m 35 #[.val (.int (4 : Int32))] [])
  refine own_step (fun _ k => XS.iloadN X0.here hx rfl (hb hby d1_35) rfl k) ?_
  show own_Wp p e below _ s₁ (mkF m 36 #[.val (.int (4 : Int32))] [(.int (4 : Int32))])
  refine own_step (fun _ k => XS.iconst X0.here hx rfl (hb hby d1_36) k) ?_
  show own_Wp p e below _ s₁ (mkF m 37 #[.val (.int (4 : Int32))] [(.int (4 : Int32)), (.int (4 : Int32))])
  refine own_step (fun _ k => XS.icmpNo X0.here hx rfl (hb hby d1_37) rfl (by decide) k) ?_
  show own_Wp p e below _ s₁ (mkF m 40 #[.val (.int (4 : Int32))] [])
  obtain ⟨T1, X1, e1, st1⟩ := getS2 X0 hx hZ hown (host := "") (Or.inl (hw _ (List.mem_of_getElem? (i := 34) rfl))) Via.refl e0 ((st_w7_DM hw hA).ext O0.2) (g := (mkF m 40 #[.val (.int (4 : Int32))] [])) rfl (hb hby d1_40)
  refine own_step st1 ?_
  show own_Wp p e below _ T1 (mkF m 43 #[.val (.int (4 : Int32))] [(.ref (w7_DM Z))])
  exact own_retA X1 hx hret rfl rfl hlk (hb hby d1_43) (by decide) (by decide) (by rw [e1]; exact ⟨rfl, (Fr.nil n0), rfl⟩)

set_option maxRecDepth 65536 in
set_option maxHeartbeats 40000000 in
theorem rm1_8 (l : Launch) (Z : State) (a0 : Array Value) (hw : ∀ d ∈ tables_1, d.before a0 Z = true) (hA : ∀ d ∈ own_flat narrow_1, d.value a0 Z none Z [] = some true) (ws : List Jvm.Cond) (h0 : Heap) (n0 : Nat) (O0 : Old Z n0 h0) :
    own_Met l Z (⟨"com/example/linepack/linepack/PointClassHasAnnualQuantityPinLaw", "pick", "(I)Lcom/example/linepack/linepack/PointClass;"⟩ : MethodName) (Jvm.Cond.code (⟨"com/example/linepack/linepack/PointClassHasAnnualQuantityPinLaw", "pick", "(I)Lcom/example/linepack/linepack/PointClass;"⟩ : MethodName) method_2_code 1 (some (.object "com/example/linepack/linepack/PointClass"))) ws ({ frames := 0, cells := 0, slots := 0, locals := 0 } : Room) #[(.int (5 : Int32))] h0 (fun v h L => (v = some (.ref (w9_NDM Z)) ∧ Fr n0 L ∧ h = h0)) := by
  refine own_met (own := "com/example/linepack/linepack/PointClassHasAnnualQuantityPinLaw") (plainFor_of_name pn0) rfl ?_
  intro p e s m below meth c s₁ hx hby hml hown hnm hret hlk hZ e0 X0
  refine own_cast (g' := (mkF m 0 #[.val (.int (5 : Int32))] [])) (by first | (simp [entryFrame, mkF, argsToLocals, Value.category]; done) | rfl) ?_
  refine own_step (fun _ k => XS.iloadN X0.here hx rfl (hb hby d1_0) rfl k) ?_
  show own_Wp p e below _ s₁ (mkF m 1 #[.val (.int (5 : Int32))] [(.int (5 : Int32))])
  refine own_step (fun _ k => XS.ifYes X0.here hx rfl (pc0 := 1) (pc' := 8) rfl (hb hby d1_1) rfl (by decide) (by decide) (by decide) k) ?_
  show own_Wp p e below _ s₁ (mkF m 8 #[.val (.int (5 : Int32))] [])
  refine own_step (fun _ k => XS.iloadN X0.here hx rfl (hb hby d1_8) rfl k) ?_
  show own_Wp p e below _ s₁ (mkF m 9 #[.val (.int (5 : Int32))] [(.int (5 : Int32))])
  refine own_step (fun _ k => XS.iconst X0.here hx rfl (hb hby d1_9) k) ?_
  show own_Wp p e below _ s₁ (mkF m 10 #[.val (.int (5 : Int32))] [(.int (1 : Int32)), (.int (5 : Int32))])
  refine own_step (fun _ k => XS.icmpYes X0.here hx rfl (pc0 := 10) (pc' := 17) rfl (hb hby d1_10) rfl (by decide) (by decide) (by decide) k) ?_
  show own_Wp p e below _ s₁ (mkF m 17 #[.val (.int (5 : Int32))] [])
  refine own_step (fun _ k => XS.iloadN X0.here hx rfl (hb hby d1_17) rfl k) ?_
  show own_Wp p e below _ s₁ (mkF m 18 #[.val (.int (5 : Int32))] [(.int (5 : Int32))])
  refine own_step (fun _ k => XS.iconst X0.here hx rfl (hb hby d1_18) k) ?_
  show own_Wp p e below _ s₁ (mkF m 19 #[.val (.int (5 : Int32))] [(.int (2 : Int32)), (.int (5 : Int32))])
  refine own_step (fun _ k => XS.icmpYes X0.here hx rfl (pc0 := 19) (pc' := 26) rfl (hb hby d1_19) rfl (by decide) (by decide) (by decide) k) ?_
  show own_Wp p e below _ s₁ (mkF m 26 #[.val (.int (5 : Int32))] [])
  refine own_step (fun _ k => XS.iloadN X0.here hx rfl (hb hby d1_26) rfl k) ?_
  show own_Wp p e below _ s₁ (mkF m 27 #[.val (.int (5 : Int32))] [(.int (5 : Int32))])
  refine own_step (fun _ k => XS.iconst X0.here hx rfl (hb hby d1_27) k) ?_
  show own_Wp p e below _ s₁ (mkF m 28 #[.val (.int (5 : Int32))] [(.int (3 : Int32)), (.int (5 : Int32))])
  refine own_step (fun _ k => XS.icmpYes X0.here hx rfl (pc0 := 28) (pc' := 35) rfl (hb hby d1_28) rfl (by decide) (by decide) (by decide) k) ?_
  show own_Wp p e below _ s₁ (mkF m 35 #[.val (.int (5 : Int32))] [])
  refine own_step (fun _ k => XS.iloadN X0.here hx rfl (hb hby d1_35) rfl k) ?_
  show own_Wp p e below _ s₁ (mkF m 36 #[.val (.int (5 : Int32))] [(.int (5 : Int32))])
  refine own_step (fun _ k => XS.iconst X0.here hx rfl (hb hby d1_36) k) ?_
  show own_Wp p e below _ s₁ (mkF m 37 #[.val (.int (5 : Int32))] [(.int (4 : Int32)), (.int (5 : Int32))])
  refine own_step (fun _ k => XS.icmpYes X0.here hx rfl (pc0 := 37) (pc' := 44) rfl (hb hby d1_37) rfl (by decide) (by decide) (by decide) k) ?_
  show own_Wp p e below _ s₁ (mkF m 44 #[.val (.int (5 : Int32))] [])
  refine own_step (fun _ k => XS.iloadN X0.here hx rfl (hb hby d1_44) rfl k) ?_
  show own_Wp p e below _ s₁ (mkF m 45 #[.val (.int (5 : Int32))] [(.int (5 : Int32))])
  refine own_step (fun _ k => XS.iconst X0.here hx rfl (hb hby d1_45) k) ?_
  show own_Wp p e below _ s₁ (mkF m 46 #[.val (.int (5 : Int32))] [(.int (5 : Int32)), (.int (5 : Int32))])
  refine own_step (fun _ k => XS.icmpNo X0.here hx rfl (hb hby d1_46) rfl (by decide) k) ?_
  show own_Wp p e below _ s₁ (mkF m 49 #[.val (.int (5 : Int32))] [])
  obtain ⟨T1, X1, e1, st1⟩ := getS2 X0 hx hZ hown (host := "") (Or.inl (hw _ (List.mem_of_getElem? (i := 39) rfl))) Via.refl e0 ((st_w9_NDM hw hA).ext O0.2) (g := (mkF m 49 #[.val (.int (5 : Int32))] [])) rfl (hb hby d1_49)
  refine own_step st1 ?_
  show own_Wp p e below _ T1 (mkF m 52 #[.val (.int (5 : Int32))] [(.ref (w9_NDM Z))])
  exact own_retA X1 hx hret rfl rfl hlk (hb hby d1_52) (by decide) (by decide) (by rw [e1]; exact ⟨rfl, (Fr.nil n0), rfl⟩)

set_option maxRecDepth 65536 in
set_option maxHeartbeats 40000000 in
theorem rm1_9 (l : Launch) (Z : State) (a0 : Array Value) (hw : ∀ d ∈ tables_1, d.before a0 Z = true) (hA : ∀ d ∈ own_flat narrow_1, d.value a0 Z none Z [] = some true) (ws : List Jvm.Cond) (h0 : Heap) (n0 : Nat) (O0 : Old Z n0 h0) :
    own_Met l Z (⟨"com/example/linepack/linepack/PointClassHasAnnualQuantityPinLaw", "pick", "(I)Lcom/example/linepack/linepack/PointClass;"⟩ : MethodName) (Jvm.Cond.code (⟨"com/example/linepack/linepack/PointClassHasAnnualQuantityPinLaw", "pick", "(I)Lcom/example/linepack/linepack/PointClass;"⟩ : MethodName) method_2_code 1 (some (.object "com/example/linepack/linepack/PointClass"))) ws ({ frames := 0, cells := 0, slots := 0, locals := 0 } : Room) #[(.int (6 : Int32))] h0 (fun v h L => (v = some (.ref (w8_INCH_STORAGE_EXIT Z)) ∧ Fr n0 L ∧ h = h0)) := by
  refine own_met (own := "com/example/linepack/linepack/PointClassHasAnnualQuantityPinLaw") (plainFor_of_name pn0) rfl ?_
  intro p e s m below meth c s₁ hx hby hml hown hnm hret hlk hZ e0 X0
  refine own_cast (g' := (mkF m 0 #[.val (.int (6 : Int32))] [])) (by first | (simp [entryFrame, mkF, argsToLocals, Value.category]; done) | rfl) ?_
  refine own_step (fun _ k => XS.iloadN X0.here hx rfl (hb hby d1_0) rfl k) ?_
  show own_Wp p e below _ s₁ (mkF m 1 #[.val (.int (6 : Int32))] [(.int (6 : Int32))])
  refine own_step (fun _ k => XS.ifYes X0.here hx rfl (pc0 := 1) (pc' := 8) rfl (hb hby d1_1) rfl (by decide) (by decide) (by decide) k) ?_
  show own_Wp p e below _ s₁ (mkF m 8 #[.val (.int (6 : Int32))] [])
  refine own_step (fun _ k => XS.iloadN X0.here hx rfl (hb hby d1_8) rfl k) ?_
  show own_Wp p e below _ s₁ (mkF m 9 #[.val (.int (6 : Int32))] [(.int (6 : Int32))])
  refine own_step (fun _ k => XS.iconst X0.here hx rfl (hb hby d1_9) k) ?_
  show own_Wp p e below _ s₁ (mkF m 10 #[.val (.int (6 : Int32))] [(.int (1 : Int32)), (.int (6 : Int32))])
  refine own_step (fun _ k => XS.icmpYes X0.here hx rfl (pc0 := 10) (pc' := 17) rfl (hb hby d1_10) rfl (by decide) (by decide) (by decide) k) ?_
  show own_Wp p e below _ s₁ (mkF m 17 #[.val (.int (6 : Int32))] [])
  refine own_step (fun _ k => XS.iloadN X0.here hx rfl (hb hby d1_17) rfl k) ?_
  show own_Wp p e below _ s₁ (mkF m 18 #[.val (.int (6 : Int32))] [(.int (6 : Int32))])
  refine own_step (fun _ k => XS.iconst X0.here hx rfl (hb hby d1_18) k) ?_
  show own_Wp p e below _ s₁ (mkF m 19 #[.val (.int (6 : Int32))] [(.int (2 : Int32)), (.int (6 : Int32))])
  refine own_step (fun _ k => XS.icmpYes X0.here hx rfl (pc0 := 19) (pc' := 26) rfl (hb hby d1_19) rfl (by decide) (by decide) (by decide) k) ?_
  show own_Wp p e below _ s₁ (mkF m 26 #[.val (.int (6 : Int32))] [])
  refine own_step (fun _ k => XS.iloadN X0.here hx rfl (hb hby d1_26) rfl k) ?_
  show own_Wp p e below _ s₁ (mkF m 27 #[.val (.int (6 : Int32))] [(.int (6 : Int32))])
  refine own_step (fun _ k => XS.iconst X0.here hx rfl (hb hby d1_27) k) ?_
  show own_Wp p e below _ s₁ (mkF m 28 #[.val (.int (6 : Int32))] [(.int (3 : Int32)), (.int (6 : Int32))])
  refine own_step (fun _ k => XS.icmpYes X0.here hx rfl (pc0 := 28) (pc' := 35) rfl (hb hby d1_28) rfl (by decide) (by decide) (by decide) k) ?_
  show own_Wp p e below _ s₁ (mkF m 35 #[.val (.int (6 : Int32))] [])
  refine own_step (fun _ k => XS.iloadN X0.here hx rfl (hb hby d1_35) rfl k) ?_
  show own_Wp p e below _ s₁ (mkF m 36 #[.val (.int (6 : Int32))] [(.int (6 : Int32))])
  refine own_step (fun _ k => XS.iconst X0.here hx rfl (hb hby d1_36) k) ?_
  show own_Wp p e below _ s₁ (mkF m 37 #[.val (.int (6 : Int32))] [(.int (4 : Int32)), (.int (6 : Int32))])
  refine own_step (fun _ k => XS.icmpYes X0.here hx rfl (pc0 := 37) (pc' := 44) rfl (hb hby d1_37) rfl (by decide) (by decide) (by decide) k) ?_
  show own_Wp p e below _ s₁ (mkF m 44 #[.val (.int (6 : Int32))] [])
  refine own_step (fun _ k => XS.iloadN X0.here hx rfl (hb hby d1_44) rfl k) ?_
  show own_Wp p e below _ s₁ (mkF m 45 #[.val (.int (6 : Int32))] [(.int (6 : Int32))])
  refine own_step (fun _ k => XS.iconst X0.here hx rfl (hb hby d1_45) k) ?_
  show own_Wp p e below _ s₁ (mkF m 46 #[.val (.int (6 : Int32))] [(.int (5 : Int32)), (.int (6 : Int32))])
  refine own_step (fun _ k => XS.icmpYes X0.here hx rfl (pc0 := 46) (pc' := 53) rfl (hb hby d1_46) rfl (by decide) (by decide) (by decide) k) ?_
  show own_Wp p e below _ s₁ (mkF m 53 #[.val (.int (6 : Int32))] [])
  refine own_step (fun _ k => XS.iloadN X0.here hx rfl (hb hby d1_53) rfl k) ?_
  show own_Wp p e below _ s₁ (mkF m 54 #[.val (.int (6 : Int32))] [(.int (6 : Int32))])
  refine own_step (fun _ k => XS.bipush X0.here hx rfl (hb hby d1_54) k) ?_
  show own_Wp p e below _ s₁ (mkF m 56 #[.val (.int (6 : Int32))] [(.int (6 : Int32)), (.int (6 : Int32))])
  refine own_step (fun _ k => XS.icmpNo X0.here hx rfl (hb hby d1_56) rfl (by decide) k) ?_
  show own_Wp p e below _ s₁ (mkF m 59 #[.val (.int (6 : Int32))] [])
  obtain ⟨T1, X1, e1, st1⟩ := getS2 X0 hx hZ hown (host := "") (Or.inl (hw _ (List.mem_of_getElem? (i := 37) rfl))) Via.refl e0 ((st_w8_INCH_STORAGE_EXIT hw hA).ext O0.2) (g := (mkF m 59 #[.val (.int (6 : Int32))] [])) rfl (hb hby d1_59)
  refine own_step st1 ?_
  show own_Wp p e below _ T1 (mkF m 62 #[.val (.int (6 : Int32))] [(.ref (w8_INCH_STORAGE_EXIT Z))])
  exact own_retA X1 hx hret rfl rfl hlk (hb hby d1_62) (by decide) (by decide) (by rw [e1]; exact ⟨rfl, (Fr.nil n0), rfl⟩)

set_option maxRecDepth 65536 in
set_option maxHeartbeats 40000000 in
theorem rm1_10 (l : Launch) (Z : State) (a0 : Array Value) (hw : ∀ d ∈ tables_1, d.before a0 Z = true) (hA : ∀ d ∈ own_flat narrow_1, d.value a0 Z none Z [] = some true) (ws : List Jvm.Cond) (h0 : Heap) (n0 : Nat) (O0 : Old Z n0 h0) :
    own_Met l Z (⟨"com/example/linepack/linepack/PointClassHasAnnualQuantityPinLaw", "pick", "(I)Lcom/example/linepack/linepack/PointClass;"⟩ : MethodName) (Jvm.Cond.code (⟨"com/example/linepack/linepack/PointClassHasAnnualQuantityPinLaw", "pick", "(I)Lcom/example/linepack/linepack/PointClass;"⟩ : MethodName) method_2_code 1 (some (.object "com/example/linepack/linepack/PointClass"))) ws ({ frames := 0, cells := 0, slots := 0, locals := 0 } : Room) #[(.int (7 : Int32))] h0 (fun v h L => (v = some (.ref (w6_SN_IP Z)) ∧ Fr n0 L ∧ h = h0)) := by
  refine own_met (own := "com/example/linepack/linepack/PointClassHasAnnualQuantityPinLaw") (plainFor_of_name pn0) rfl ?_
  intro p e s m below meth c s₁ hx hby hml hown hnm hret hlk hZ e0 X0
  refine own_cast (g' := (mkF m 0 #[.val (.int (7 : Int32))] [])) (by first | (simp [entryFrame, mkF, argsToLocals, Value.category]; done) | rfl) ?_
  refine own_step (fun _ k => XS.iloadN X0.here hx rfl (hb hby d1_0) rfl k) ?_
  show own_Wp p e below _ s₁ (mkF m 1 #[.val (.int (7 : Int32))] [(.int (7 : Int32))])
  refine own_step (fun _ k => XS.ifYes X0.here hx rfl (pc0 := 1) (pc' := 8) rfl (hb hby d1_1) rfl (by decide) (by decide) (by decide) k) ?_
  show own_Wp p e below _ s₁ (mkF m 8 #[.val (.int (7 : Int32))] [])
  refine own_step (fun _ k => XS.iloadN X0.here hx rfl (hb hby d1_8) rfl k) ?_
  show own_Wp p e below _ s₁ (mkF m 9 #[.val (.int (7 : Int32))] [(.int (7 : Int32))])
  refine own_step (fun _ k => XS.iconst X0.here hx rfl (hb hby d1_9) k) ?_
  show own_Wp p e below _ s₁ (mkF m 10 #[.val (.int (7 : Int32))] [(.int (1 : Int32)), (.int (7 : Int32))])
  refine own_step (fun _ k => XS.icmpYes X0.here hx rfl (pc0 := 10) (pc' := 17) rfl (hb hby d1_10) rfl (by decide) (by decide) (by decide) k) ?_
  show own_Wp p e below _ s₁ (mkF m 17 #[.val (.int (7 : Int32))] [])
  refine own_step (fun _ k => XS.iloadN X0.here hx rfl (hb hby d1_17) rfl k) ?_
  show own_Wp p e below _ s₁ (mkF m 18 #[.val (.int (7 : Int32))] [(.int (7 : Int32))])
  refine own_step (fun _ k => XS.iconst X0.here hx rfl (hb hby d1_18) k) ?_
  show own_Wp p e below _ s₁ (mkF m 19 #[.val (.int (7 : Int32))] [(.int (2 : Int32)), (.int (7 : Int32))])
  refine own_step (fun _ k => XS.icmpYes X0.here hx rfl (pc0 := 19) (pc' := 26) rfl (hb hby d1_19) rfl (by decide) (by decide) (by decide) k) ?_
  show own_Wp p e below _ s₁ (mkF m 26 #[.val (.int (7 : Int32))] [])
  refine own_step (fun _ k => XS.iloadN X0.here hx rfl (hb hby d1_26) rfl k) ?_
  show own_Wp p e below _ s₁ (mkF m 27 #[.val (.int (7 : Int32))] [(.int (7 : Int32))])
  refine own_step (fun _ k => XS.iconst X0.here hx rfl (hb hby d1_27) k) ?_
  show own_Wp p e below _ s₁ (mkF m 28 #[.val (.int (7 : Int32))] [(.int (3 : Int32)), (.int (7 : Int32))])
  refine own_step (fun _ k => XS.icmpYes X0.here hx rfl (pc0 := 28) (pc' := 35) rfl (hb hby d1_28) rfl (by decide) (by decide) (by decide) k) ?_
  show own_Wp p e below _ s₁ (mkF m 35 #[.val (.int (7 : Int32))] [])
  refine own_step (fun _ k => XS.iloadN X0.here hx rfl (hb hby d1_35) rfl k) ?_
  show own_Wp p e below _ s₁ (mkF m 36 #[.val (.int (7 : Int32))] [(.int (7 : Int32))])
  refine own_step (fun _ k => XS.iconst X0.here hx rfl (hb hby d1_36) k) ?_
  show own_Wp p e below _ s₁ (mkF m 37 #[.val (.int (7 : Int32))] [(.int (4 : Int32)), (.int (7 : Int32))])
  refine own_step (fun _ k => XS.icmpYes X0.here hx rfl (pc0 := 37) (pc' := 44) rfl (hb hby d1_37) rfl (by decide) (by decide) (by decide) k) ?_
  show own_Wp p e below _ s₁ (mkF m 44 #[.val (.int (7 : Int32))] [])
  refine own_step (fun _ k => XS.iloadN X0.here hx rfl (hb hby d1_44) rfl k) ?_
  show own_Wp p e below _ s₁ (mkF m 45 #[.val (.int (7 : Int32))] [(.int (7 : Int32))])
  refine own_step (fun _ k => XS.iconst X0.here hx rfl (hb hby d1_45) k) ?_
  show own_Wp p e below _ s₁ (mkF m 46 #[.val (.int (7 : Int32))] [(.int (5 : Int32)), (.int (7 : Int32))])
  refine own_step (fun _ k => XS.icmpYes X0.here hx rfl (pc0 := 46) (pc' := 53) rfl (hb hby d1_46) rfl (by decide) (by decide) (by decide) k) ?_
  show own_Wp p e below _ s₁ (mkF m 53 #[.val (.int (7 : Int32))] [])
  refine own_step (fun _ k => XS.iloadN X0.here hx rfl (hb hby d1_53) rfl k) ?_
  show own_Wp p e below _ s₁ (mkF m 54 #[.val (.int (7 : Int32))] [(.int (7 : Int32))])
  refine own_step (fun _ k => XS.bipush X0.here hx rfl (hb hby d1_54) k) ?_
  show own_Wp p e below _ s₁ (mkF m 56 #[.val (.int (7 : Int32))] [(.int (6 : Int32)), (.int (7 : Int32))])
  refine own_step (fun _ k => XS.icmpYes X0.here hx rfl (pc0 := 56) (pc' := 63) rfl (hb hby d1_56) rfl (by decide) (by decide) (by decide) k) ?_
  show own_Wp p e below _ s₁ (mkF m 63 #[.val (.int (7 : Int32))] [])
  refine own_step (fun _ k => XS.iloadN X0.here hx rfl (hb hby d1_63) rfl k) ?_
  show own_Wp p e below _ s₁ (mkF m 64 #[.val (.int (7 : Int32))] [(.int (7 : Int32))])
  refine own_step (fun _ k => XS.bipush X0.here hx rfl (hb hby d1_64) k) ?_
  show own_Wp p e below _ s₁ (mkF m 66 #[.val (.int (7 : Int32))] [(.int (7 : Int32)), (.int (7 : Int32))])
  refine own_step (fun _ k => XS.icmpNo X0.here hx rfl (hb hby d1_66) rfl (by decide) k) ?_
  show own_Wp p e below _ s₁ (mkF m 69 #[.val (.int (7 : Int32))] [])
  obtain ⟨T1, X1, e1, st1⟩ := getS2 X0 hx hZ hown (host := "") (Or.inl (hw _ (List.mem_of_getElem? (i := 32) rfl))) Via.refl e0 ((st_w6_SN_IP hw hA).ext O0.2) (g := (mkF m 69 #[.val (.int (7 : Int32))] [])) rfl (hb hby d1_69)
  refine own_step st1 ?_
  show own_Wp p e below _ T1 (mkF m 72 #[.val (.int (7 : Int32))] [(.ref (w6_SN_IP Z))])
  exact own_retA X1 hx hret rfl rfl hlk (hb hby d1_72) (by decide) (by decide) (by rw [e1]; exact ⟨rfl, (Fr.nil n0), rfl⟩)

set_option maxRecDepth 65536 in
set_option maxHeartbeats 40000000 in
theorem rm1_11 (l : Launch) (Z : State) (a0 : Array Value) (hw : ∀ d ∈ tables_1, d.before a0 Z = true) (hA : ∀ d ∈ own_flat narrow_1, d.value a0 Z none Z [] = some true) (ws : List Jvm.Cond) (h0 : Heap) (n0 : Nat) (O0 : Old Z n0 h0) :
    own_Met l Z (⟨"com/example/linepack/linepack/PointClassHasAnnualQuantityPinLaw", "pick", "(I)Lcom/example/linepack/linepack/PointClass;"⟩ : MethodName) (Jvm.Cond.code (⟨"com/example/linepack/linepack/PointClassHasAnnualQuantityPinLaw", "pick", "(I)Lcom/example/linepack/linepack/PointClass;"⟩ : MethodName) method_2_code 1 (some (.object "com/example/linepack/linepack/PointClass"))) ws ({ frames := 0, cells := 0, slots := 0, locals := 0 } : Room) #[(.int (8 : Int32))] h0 (fun v h L => (v = some (.ref (w2_SUBSEA_IC Z)) ∧ Fr n0 L ∧ h = h0)) := by
  refine own_met (own := "com/example/linepack/linepack/PointClassHasAnnualQuantityPinLaw") (plainFor_of_name pn0) rfl ?_
  intro p e s m below meth c s₁ hx hby hml hown hnm hret hlk hZ e0 X0
  refine own_cast (g' := (mkF m 0 #[.val (.int (8 : Int32))] [])) (by first | (simp [entryFrame, mkF, argsToLocals, Value.category]; done) | rfl) ?_
  refine own_step (fun _ k => XS.iloadN X0.here hx rfl (hb hby d1_0) rfl k) ?_
  show own_Wp p e below _ s₁ (mkF m 1 #[.val (.int (8 : Int32))] [(.int (8 : Int32))])
  refine own_step (fun _ k => XS.ifYes X0.here hx rfl (pc0 := 1) (pc' := 8) rfl (hb hby d1_1) rfl (by decide) (by decide) (by decide) k) ?_
  show own_Wp p e below _ s₁ (mkF m 8 #[.val (.int (8 : Int32))] [])
  refine own_step (fun _ k => XS.iloadN X0.here hx rfl (hb hby d1_8) rfl k) ?_
  show own_Wp p e below _ s₁ (mkF m 9 #[.val (.int (8 : Int32))] [(.int (8 : Int32))])
  refine own_step (fun _ k => XS.iconst X0.here hx rfl (hb hby d1_9) k) ?_
  show own_Wp p e below _ s₁ (mkF m 10 #[.val (.int (8 : Int32))] [(.int (1 : Int32)), (.int (8 : Int32))])
  refine own_step (fun _ k => XS.icmpYes X0.here hx rfl (pc0 := 10) (pc' := 17) rfl (hb hby d1_10) rfl (by decide) (by decide) (by decide) k) ?_
  show own_Wp p e below _ s₁ (mkF m 17 #[.val (.int (8 : Int32))] [])
  refine own_step (fun _ k => XS.iloadN X0.here hx rfl (hb hby d1_17) rfl k) ?_
  show own_Wp p e below _ s₁ (mkF m 18 #[.val (.int (8 : Int32))] [(.int (8 : Int32))])
  refine own_step (fun _ k => XS.iconst X0.here hx rfl (hb hby d1_18) k) ?_
  show own_Wp p e below _ s₁ (mkF m 19 #[.val (.int (8 : Int32))] [(.int (2 : Int32)), (.int (8 : Int32))])
  refine own_step (fun _ k => XS.icmpYes X0.here hx rfl (pc0 := 19) (pc' := 26) rfl (hb hby d1_19) rfl (by decide) (by decide) (by decide) k) ?_
  show own_Wp p e below _ s₁ (mkF m 26 #[.val (.int (8 : Int32))] [])
  refine own_step (fun _ k => XS.iloadN X0.here hx rfl (hb hby d1_26) rfl k) ?_
  show own_Wp p e below _ s₁ (mkF m 27 #[.val (.int (8 : Int32))] [(.int (8 : Int32))])
  refine own_step (fun _ k => XS.iconst X0.here hx rfl (hb hby d1_27) k) ?_
  show own_Wp p e below _ s₁ (mkF m 28 #[.val (.int (8 : Int32))] [(.int (3 : Int32)), (.int (8 : Int32))])
  refine own_step (fun _ k => XS.icmpYes X0.here hx rfl (pc0 := 28) (pc' := 35) rfl (hb hby d1_28) rfl (by decide) (by decide) (by decide) k) ?_
  show own_Wp p e below _ s₁ (mkF m 35 #[.val (.int (8 : Int32))] [])
  refine own_step (fun _ k => XS.iloadN X0.here hx rfl (hb hby d1_35) rfl k) ?_
  show own_Wp p e below _ s₁ (mkF m 36 #[.val (.int (8 : Int32))] [(.int (8 : Int32))])
  refine own_step (fun _ k => XS.iconst X0.here hx rfl (hb hby d1_36) k) ?_
  show own_Wp p e below _ s₁ (mkF m 37 #[.val (.int (8 : Int32))] [(.int (4 : Int32)), (.int (8 : Int32))])
  refine own_step (fun _ k => XS.icmpYes X0.here hx rfl (pc0 := 37) (pc' := 44) rfl (hb hby d1_37) rfl (by decide) (by decide) (by decide) k) ?_
  show own_Wp p e below _ s₁ (mkF m 44 #[.val (.int (8 : Int32))] [])
  refine own_step (fun _ k => XS.iloadN X0.here hx rfl (hb hby d1_44) rfl k) ?_
  show own_Wp p e below _ s₁ (mkF m 45 #[.val (.int (8 : Int32))] [(.int (8 : Int32))])
  refine own_step (fun _ k => XS.iconst X0.here hx rfl (hb hby d1_45) k) ?_
  show own_Wp p e below _ s₁ (mkF m 46 #[.val (.int (8 : Int32))] [(.int (5 : Int32)), (.int (8 : Int32))])
  refine own_step (fun _ k => XS.icmpYes X0.here hx rfl (pc0 := 46) (pc' := 53) rfl (hb hby d1_46) rfl (by decide) (by decide) (by decide) k) ?_
  show own_Wp p e below _ s₁ (mkF m 53 #[.val (.int (8 : Int32))] [])
  refine own_step (fun _ k => XS.iloadN X0.here hx rfl (hb hby d1_53) rfl k) ?_
  show own_Wp p e below _ s₁ (mkF m 54 #[.val (.int (8 : Int32))] [(.int (8 : Int32))])
  refine own_step (fun _ k => XS.bipush X0.here hx rfl (hb hby d1_54) k) ?_
  show own_Wp p e below _ s₁ (mkF m 56 #[.val (.int (8 : Int32))] [(.int (6 : Int32)), (.int (8 : Int32))])
  refine own_step (fun _ k => XS.icmpYes X0.here hx rfl (pc0 := 56) (pc' := 63) rfl (hb hby d1_56) rfl (by decide) (by decide) (by decide) k) ?_
  show own_Wp p e below _ s₁ (mkF m 63 #[.val (.int (8 : Int32))] [])
  refine own_step (fun _ k => XS.iloadN X0.here hx rfl (hb hby d1_63) rfl k) ?_
  show own_Wp p e below _ s₁ (mkF m 64 #[.val (.int (8 : Int32))] [(.int (8 : Int32))])
  refine own_step (fun _ k => XS.bipush X0.here hx rfl (hb hby d1_64) k) ?_
  show own_Wp p e below _ s₁ (mkF m 66 #[.val (.int (8 : Int32))] [(.int (7 : Int32)), (.int (8 : Int32))])
  refine own_step (fun _ k => XS.icmpYes X0.here hx rfl (pc0 := 66) (pc' := 73) rfl (hb hby d1_66) rfl (by decide) (by decide) (by decide) k) ?_
  show own_Wp p e below _ s₁ (mkF m 73 #[.val (.int (8 : Int32))] [])
  obtain ⟨T1, X1, e1, st1⟩ := getS2 X0 hx hZ hown (host := "") (Or.inl (hw _ (List.mem_of_getElem? (i := 36) rfl))) Via.refl e0 ((st_w2_SUBSEA_IC hw hA).ext O0.2) (g := (mkF m 73 #[.val (.int (8 : Int32))] [])) rfl (hb hby d1_73)
  refine own_step st1 ?_
  show own_Wp p e below _ T1 (mkF m 76 #[.val (.int (8 : Int32))] [(.ref (w2_SUBSEA_IC Z))])
  exact own_retA X1 hx hret rfl rfl hlk (hb hby d1_76) (by decide) (by decide) (by rw [e1]; exact ⟨rfl, (Fr.nil n0), rfl⟩)

set_option maxRecDepth 65536 in
set_option maxHeartbeats 40000000 in
theorem rm2_12 (l : Launch) (Z : State) (a0 : Array Value) (hw : ∀ d ∈ tables_1, d.before a0 Z = true) (hA : ∀ d ∈ own_flat narrow_1, d.value a0 Z none Z [] = some true) (ws : List Jvm.Cond) (h0 : Heap) (n0 : Nat) (O0 : Old Z n0 h0) :
    own_Met l Z (⟨"com/example/linepack/linepack/PointClass", "hasAnnualQuantity", "()Z"⟩ : MethodName) (Jvm.Cond.code (⟨"com/example/linepack/linepack/PointClass", "hasAnnualQuantity", "()Z"⟩ : MethodName) prog_6_method_6_code 1 (some .boolean)) ws ({ frames := 0, cells := 0, slots := 0, locals := 0 } : Room) #[(.ref (w2_SUBSEA_IC Z))] h0 (fun v h L => (v = some (.int (1 : Int32)) ∧ Fr n0 L ∧ h = h0)) := by
  refine own_met (own := "com/example/linepack/linepack/PointClass") (plainFor_of_name pn2) rfl ?_
  intro p e s m below meth c s₁ hx hby hml hown hnm hret hlk hZ e0 X0
  refine own_cast (g' := (mkF m 0 #[.val (.ref (w2_SUBSEA_IC Z))] [])) (by first | (simp [entryFrame, mkF, argsToLocals, Value.category]; done) | rfl) ?_
  refine own_step (fun _ k => XS.aloadN X0.here hx rfl (hb hby d2_0) rfl rfl k) ?_
  show own_Wp p e below _ s₁ (mkF m 1 #[.val (.ref (w2_SUBSEA_IC Z))] [(.ref (w2_SUBSEA_IC Z))])
  obtain ⟨T1, X1, e1, st1⟩ := getS2 X0 hx hZ hown (host := "") (Or.inl (hw _ (List.mem_of_getElem? (i := 13) rfl))) Via.refl e0 ((st_w1_LDM hw hA).ext O0.2) (g := (mkF m 1 #[.val (.ref (w2_SUBSEA_IC Z))] [(.ref (w2_SUBSEA_IC Z))])) rfl (hb hby d2_1)
  refine own_step st1 ?_
  show own_Wp p e below _ T1 (mkF m 4 #[.val (.ref (w2_SUBSEA_IC Z))] [(.ref (w1_LDM Z)), (.ref (w2_SUBSEA_IC Z))])
  refine own_step (fun _ k => Jvm.RoadKit.acmp (g := (mkF m 4 #[.val (.ref (w2_SUBSEA_IC Z))] [(.ref (w1_LDM Z)), (.ref (w2_SUBSEA_IC Z))])) X1 hx rfl rfl rfl (pc0 := 4) (pc' := 7) (same := false) rfl (hb hby d2_4) rfl (decide_eq_false fun q => (Fld.ne (fl2 hw hA) (fl1 hw hA) (by decide)) (Value.ref.inj q)) (by decide) (by decide) k) ?_
  show own_Wp p e below _ T1 (mkF m 7 #[.val (.ref (w2_SUBSEA_IC Z))] [])
  refine own_step (fun _ k => XS.aloadN X1.here hx rfl (hb hby d2_7) rfl rfl k) ?_
  show own_Wp p e below _ T1 (mkF m 8 #[.val (.ref (w2_SUBSEA_IC Z))] [(.ref (w2_SUBSEA_IC Z))])
  obtain ⟨T2, X2, e2, st2⟩ := getS2 X1 hx hZ hown (host := "") (Or.inl (hw _ (List.mem_of_getElem? (i := 15) rfl))) Via.refl e1 ((st_w2_SUBSEA_IC hw hA).ext O0.2) (g := (mkF m 8 #[.val (.ref (w2_SUBSEA_IC Z))] [(.ref (w2_SUBSEA_IC Z))])) rfl (hb hby d2_8)
  refine own_step st2 ?_
  show own_Wp p e below _ T2 (mkF m 11 #[.val (.ref (w2_SUBSEA_IC Z))] [(.ref (w2_SUBSEA_IC Z)), (.ref (w2_SUBSEA_IC Z))])
  refine own_step (fun _ k => Jvm.RoadKit.acmp (g := (mkF m 11 #[.val (.ref (w2_SUBSEA_IC Z))] [(.ref (w2_SUBSEA_IC Z)), (.ref (w2_SUBSEA_IC Z))])) X2 hx rfl rfl rfl (pc0 := 11) (pc' := 14) (same := true) rfl (hb hby d2_11) rfl (decide_eq_true rfl) (by decide) (by decide) k) ?_
  show own_Wp p e below _ T2 (mkF m 14 #[.val (.ref (w2_SUBSEA_IC Z))] [])
  refine own_step (fun _ k => XS.iconst X2.here hx rfl (hb hby d2_14) k) ?_
  show own_Wp p e below _ T2 (mkF m 15 #[.val (.ref (w2_SUBSEA_IC Z))] [(.int (1 : Int32))])
  refine own_step (fun _ k => XS.goto X2.here hx rfl (pc0 := 15) (pc' := 19) rfl (hb hby d2_15) (by decide) (by decide) k) ?_
  show own_Wp p e below _ T2 (mkF m 19 #[.val (.ref (w2_SUBSEA_IC Z))] [(.int (1 : Int32))])
  exact own_retN X2 hx (t := .boolean) hret (by simp) hlk (hb hby d2_19) (by decide) (by decide) (by rw [e2]; exact ⟨rfl, (Fr.nil n0), rfl⟩)

set_option maxRecDepth 65536 in
set_option maxHeartbeats 40000000 in
theorem rm0 (l : Launch) (Z : State) (a0 : Array Value) (hw : ∀ d ∈ tables_1, d.before a0 Z = true) (hA : ∀ d ∈ own_flat narrow_1, d.value a0 Z none Z [] = some true) (ws : List Jvm.Cond) (p0 : Int32) (h0 : Heap) (n0 : Nat) (O0 : Old Z n0 h0) :
    own_Met l Z x (Jvm.Cond.code x code maxLocals ret) ws room_1 #[(.int p0)] h0 (fun v h L => v = some (.int (1 : Int32)) ∧ Fr n0 L) := by
  refine own_met (own := "com/example/linepack/linepack/PointClassHasAnnualQuantityPinLaw") (plainFor_of_name pn0) rfl ?_
  intro p e s m below meth c s₁ hx hby hml hown hnm hret hlk hZ e0 X0
  refine own_cast (g' := (mkF m 0 #[.val (.int p0), .unset, .unset, .unset, .unset, .unset] [])) (by first | (simp [entryFrame, mkF, argsToLocals, Value.category, maxLocals]; done) | rfl) ?_
  show own_Wp p e below _ s₁ (mkF m 0 #[.val (.int p0), .unset, .unset, .unset, .unset, .unset] [])
  refine own_step (fun _ k => XS.iloadN X0.here hx rfl (hb hby at_0) rfl k) ?_
  show own_Wp p e below _ s₁ (mkF m 1 #[.val (.int p0), .unset, .unset, .unset, .unset, .unset] [(.int p0)])
  refine own_step (X0.ldcInt hx hown (mvT hZ (hw _ (List.mem_of_getElem? (i := 0) rfl))) (g := (mkF m 1 #[.val (.int p0), .unset, .unset, .unset, .unset, .unset] [(.int p0)])) rfl (hb hby at_1)) ?_
  show own_Wp p e below _ s₁ (mkF m 3 #[.val (.int p0), .unset, .unset, .unset, .unset, .unset] [(.int (2147483647 : Int32)), (.int p0)])
  refine own_step (fun _ k => XS.iand X0.here hx rfl (hb hby at_3) rfl k) ?_
  show own_Wp p e below _ s₁ (mkF m 4 #[.val (.int p0), .unset, .unset, .unset, .unset, .unset] [(.int (p0 &&& (2147483647 : Int32)))])
  refine own_step (fun _ k => XS.bipush X0.here hx rfl (hb hby at_4) k) ?_
  show own_Wp p e below _ s₁ (mkF m 6 #[.val (.int p0), .unset, .unset, .unset, .unset, .unset] [(.int (9 : Int32)), (.int (p0 &&& (2147483647 : Int32)))])
  refine own_step (fun _ k => iremM (g := (mkF m 6 #[.val (.int p0), .unset, .unset, .unset, .unset, .unset] [(.int (9 : Int32)), (.int (p0 &&& (2147483647 : Int32)))])) X0 hx rfl (hb hby at_6) rfl (by decide) k) ?_
  show own_Wp p e below _ s₁ (mkF m 7 #[.val (.int p0), .unset, .unset, .unset, .unset, .unset] [(.int ((p0 &&& (2147483647 : Int32)) % (9 : Int32)))])
  rcases own_mod9 p0 with hm | hm | hm | hm | hm | hm | hm | hm | hm
  · skip
    rw [hm]
    show own_Wp p e below _ s₁ (mkF m 7 #[.val (.int p0), .unset, .unset, .unset, .unset, .unset] [(.int (0 : Int32))])
    refine own_step (fun _ k => XS.istoreN X0.here hx rfl (hb hby at_7) rfl (l' := #[.val (.int p0), .val (.int (0 : Int32)), .unset, .unset, .unset, .unset]) rfl k) ?_
    show own_Wp p e below _ s₁ (mkF m 8 #[.val (.int p0), .val (.int (0 : Int32)), .unset, .unset, .unset, .unset] [])
    refine own_step (fun _ k => XS.iloadN X0.here hx rfl (hb hby at_8) rfl k) ?_
    show own_Wp p e below _ s₁ (mkF m 9 #[.val (.int p0), .val (.int (0 : Int32)), .unset, .unset, .unset, .unset] [(.int (0 : Int32))])
    obtain ⟨_, T1, L1, X1, hQ1, st1⟩ := own_callS X0 hx hZ hown (hw _ (List.mem_of_getElem? (i := 1) rfl)) (hw _ (List.mem_of_getElem? (i := 2) rfl)) (hw _ (List.mem_of_getElem? (i := 3) rfl)) (hw _ (List.mem_of_getElem? (i := 4) rfl)) (by decide) (rm1_0 l Z a0 hw hA [] h0 n0 O0) (W := 0) (by decide) (by decide) [(.int (0 : Int32))] rfl (lenOf pd1 rfl) (Ls := #[.val (.int p0), .val (.int (0 : Int32)), .unset, .unset, .unset, .unset]) (by rw [hml]; rfl) (rest := []) (Nat.le_of_eq rfl) (hb hby at_9) e0 (by decide) (by decide)
    refine st1 _ ?_
    obtain ⟨rfl, N1q, e1⟩ := hQ1
    have N1 := Fr.app (Fr.nil n0) N1q
    show own_Wp p e below _ T1 (mkF m 12 #[.val (.int p0), .val (.int (0 : Int32)), .unset, .unset, .unset, .unset] [(.ref (w0_MOFFAT Z))])
    refine own_step (fun _ k => XS.astoreN X1.here hx rfl (hb hby at_12) rfl rfl (l' := #[.val (.int p0), .val (.int (0 : Int32)), .val (.ref (w0_MOFFAT Z)), .unset, .unset, .unset]) rfl k) ?_
    show own_Wp p e below _ T1 (mkF m 13 #[.val (.int p0), .val (.int (0 : Int32)), .val (.ref (w0_MOFFAT Z)), .unset, .unset, .unset] [])
    refine own_step (fun _ k => XS.aloadN X1.here hx rfl (hb hby at_13) rfl rfl k) ?_
    show own_Wp p e below _ T1 (mkF m 14 #[.val (.int p0), .val (.int (0 : Int32)), .val (.ref (w0_MOFFAT Z)), .unset, .unset, .unset] [(.ref (w0_MOFFAT Z))])
    obtain ⟨_, T2, L2, X2, hQ2, st2⟩ := own_callV X1 hx hZ hown (hw _ (List.mem_of_getElem? (i := 8) rfl)) (hw _ (List.mem_of_getElem? (i := 9) rfl)) (notFace_of_selects (args := #[]) (mvT hZ (hw _ (List.mem_of_getElem? (i := 11) rfl)))) (hw _ (List.mem_of_getElem? (i := 11) rfl)) (hw _ (List.mem_of_getElem? (i := 10) rfl)) (hw _ (List.mem_of_getElem? (i := 6) rfl)) (hw _ (List.mem_of_getElem? (i := 12) rfl)) (by decide) ((ex_w0_MOFFAT hw hA).ext O0.2) (rm2_1 l Z a0 hw hA [] (w0_MOFFAT Z) h0 n0 O0 (Fld.ne (fl0 hw hA) (fl1 hw hA) (by decide)) (Fld.ne (fl0 hw hA) (fl2 hw hA) (by decide))) (W := 0) (by decide) (by decide) [] rfl (lenOf pd3 rfl) (Ls := #[.val (.int p0), .val (.int (0 : Int32)), .val (.ref (w0_MOFFAT Z)), .unset, .unset, .unset]) (by rw [hml]; rfl) (rest := []) (Nat.le_of_eq rfl) (hb hby at_14) e1 (by decide) (by decide)
    refine st2 _ ?_
    obtain ⟨rfl, N2q, e2⟩ := hQ2
    have N2 := Fr.app N1 N2q
    show own_Wp p e below _ T2 (mkF m 17 #[.val (.int p0), .val (.int (0 : Int32)), .val (.ref (w0_MOFFAT Z)), .unset, .unset, .unset] [(.int (0 : Int32))])
    refine own_step (fun _ k => XS.istoreN X2.here hx rfl (hb hby at_17) rfl (l' := #[.val (.int p0), .val (.int (0 : Int32)), .val (.ref (w0_MOFFAT Z)), .val (.int (0 : Int32)), .unset, .unset]) rfl k) ?_
    show own_Wp p e below _ T2 (mkF m 18 #[.val (.int p0), .val (.int (0 : Int32)), .val (.ref (w0_MOFFAT Z)), .val (.int (0 : Int32)), .unset, .unset] [])
    refine own_step (fun _ k => XS.iloadN X2.here hx rfl (hb hby at_18) rfl k) ?_
    show own_Wp p e below _ T2 (mkF m 19 #[.val (.int p0), .val (.int (0 : Int32)), .val (.ref (w0_MOFFAT Z)), .val (.int (0 : Int32)), .unset, .unset] [(.int (0 : Int32))])
    refine own_step (fun _ k => XS.iconst X2.here hx rfl (hb hby at_19) k) ?_
    show own_Wp p e below _ T2 (mkF m 20 #[.val (.int p0), .val (.int (0 : Int32)), .val (.ref (w0_MOFFAT Z)), .val (.int (0 : Int32)), .unset, .unset] [(.int (3 : Int32)), (.int (0 : Int32))])
    refine own_step (fun _ k => XS.icmpNo X2.here hx rfl (hb hby at_20) rfl (by decide) k) ?_
    show own_Wp p e below _ T2 (mkF m 23 #[.val (.int p0), .val (.int (0 : Int32)), .val (.ref (w0_MOFFAT Z)), .val (.int (0 : Int32)), .unset, .unset] [])
    refine own_step (fun _ k => XS.iloadN X2.here hx rfl (hb hby at_23) rfl k) ?_
    show own_Wp p e below _ T2 (mkF m 24 #[.val (.int p0), .val (.int (0 : Int32)), .val (.ref (w0_MOFFAT Z)), .val (.int (0 : Int32)), .unset, .unset] [(.int (0 : Int32))])
    refine own_step (fun _ k => XS.bipush X2.here hx rfl (hb hby at_24) k) ?_
    show own_Wp p e below _ T2 (mkF m 26 #[.val (.int p0), .val (.int (0 : Int32)), .val (.ref (w0_MOFFAT Z)), .val (.int (0 : Int32)), .unset, .unset] [(.int (8 : Int32)), (.int (0 : Int32))])
    refine own_step (fun _ k => XS.icmpYes X2.here hx rfl (pc0 := 26) (pc' := 33) rfl (hb hby at_26) rfl (by decide) (by decide) (by decide) k) ?_
    show own_Wp p e below _ T2 (mkF m 33 #[.val (.int p0), .val (.int (0 : Int32)), .val (.ref (w0_MOFFAT Z)), .val (.int (0 : Int32)), .unset, .unset] [])
    refine own_step (fun _ k => XS.iconst X2.here hx rfl (hb hby at_33) k) ?_
    show own_Wp p e below _ T2 (mkF m 34 #[.val (.int p0), .val (.int (0 : Int32)), .val (.ref (w0_MOFFAT Z)), .val (.int (0 : Int32)), .unset, .unset] [(.int (0 : Int32))])
    refine own_step (fun _ k => XS.istore X2.here hx rfl (hb hby at_34) rfl (l' := #[.val (.int p0), .val (.int (0 : Int32)), .val (.ref (w0_MOFFAT Z)), .val (.int (0 : Int32)), .val (.int (0 : Int32)), .unset]) rfl k) ?_
    show own_Wp p e below _ T2 (mkF m 36 #[.val (.int p0), .val (.int (0 : Int32)), .val (.ref (w0_MOFFAT Z)), .val (.int (0 : Int32)), .val (.int (0 : Int32)), .unset] [])
    refine own_step (fun _ k => XS.iloadN X2.here hx rfl (hb hby at_36) rfl k) ?_
    show own_Wp p e below _ T2 (mkF m 37 #[.val (.int p0), .val (.int (0 : Int32)), .val (.ref (w0_MOFFAT Z)), .val (.int (0 : Int32)), .val (.int (0 : Int32)), .unset] [(.int (0 : Int32))])
    refine own_step (fun _ k => XS.ifYes X2.here hx rfl (pc0 := 37) (pc' := 50) rfl (hb hby at_37) rfl (by decide) (by decide) (by decide) k) ?_
    show own_Wp p e below _ T2 (mkF m 50 #[.val (.int p0), .val (.int (0 : Int32)), .val (.ref (w0_MOFFAT Z)), .val (.int (0 : Int32)), .val (.int (0 : Int32)), .unset] [])
    refine own_step (fun _ k => XS.iconst X2.here hx rfl (hb hby at_50) k) ?_
    show own_Wp p e below _ T2 (mkF m 51 #[.val (.int p0), .val (.int (0 : Int32)), .val (.ref (w0_MOFFAT Z)), .val (.int (0 : Int32)), .val (.int (0 : Int32)), .unset] [(.int (1 : Int32))])
    refine own_step (fun _ k => XS.goto X2.here hx rfl (pc0 := 51) (pc' := 55) rfl (hb hby at_51) (by decide) (by decide) k) ?_
    show own_Wp p e below _ T2 (mkF m 55 #[.val (.int p0), .val (.int (0 : Int32)), .val (.ref (w0_MOFFAT Z)), .val (.int (0 : Int32)), .val (.int (0 : Int32)), .unset] [(.int (1 : Int32))])
    refine own_step (fun _ k => XS.istore X2.here hx rfl (hb hby at_55) rfl (l' := #[.val (.int p0), .val (.int (0 : Int32)), .val (.ref (w0_MOFFAT Z)), .val (.int (0 : Int32)), .val (.int (0 : Int32)), .val (.int (1 : Int32))]) rfl k) ?_
    show own_Wp p e below _ T2 (mkF m 57 #[.val (.int p0), .val (.int (0 : Int32)), .val (.ref (w0_MOFFAT Z)), .val (.int (0 : Int32)), .val (.int (0 : Int32)), .val (.int (1 : Int32))] [])
    refine own_step (fun _ k => XS.iloadN X2.here hx rfl (hb hby at_57) rfl k) ?_
    show own_Wp p e below _ T2 (mkF m 58 #[.val (.int p0), .val (.int (0 : Int32)), .val (.ref (w0_MOFFAT Z)), .val (.int (0 : Int32)), .val (.int (0 : Int32)), .val (.int (1 : Int32))] [(.int (0 : Int32))])
    refine own_step (fun _ k => XS.iload X2.here hx rfl (hb hby at_58) rfl k) ?_
    show own_Wp p e below _ T2 (mkF m 60 #[.val (.int p0), .val (.int (0 : Int32)), .val (.ref (w0_MOFFAT Z)), .val (.int (0 : Int32)), .val (.int (0 : Int32)), .val (.int (1 : Int32))] [(.int (0 : Int32)), (.int (0 : Int32))])
    refine own_step (fun _ k => XS.icmpNo X2.here hx rfl (hb hby at_60) rfl (by decide) k) ?_
    show own_Wp p e below _ T2 (mkF m 63 #[.val (.int p0), .val (.int (0 : Int32)), .val (.ref (w0_MOFFAT Z)), .val (.int (0 : Int32)), .val (.int (0 : Int32)), .val (.int (1 : Int32))] [])
    refine own_step (fun _ k => XS.iload X2.here hx rfl (hb hby at_63) rfl k) ?_
    show own_Wp p e below _ T2 (mkF m 65 #[.val (.int p0), .val (.int (0 : Int32)), .val (.ref (w0_MOFFAT Z)), .val (.int (0 : Int32)), .val (.int (0 : Int32)), .val (.int (1 : Int32))] [(.int (1 : Int32))])
    refine own_step (fun _ k => XS.ifNo X2.here hx rfl (hb hby at_65) rfl (by decide) k) ?_
    show own_Wp p e below _ T2 (mkF m 68 #[.val (.int p0), .val (.int (0 : Int32)), .val (.ref (w0_MOFFAT Z)), .val (.int (0 : Int32)), .val (.int (0 : Int32)), .val (.int (1 : Int32))] [])
    refine own_step (fun _ k => XS.iconst X2.here hx rfl (hb hby at_68) k) ?_
    show own_Wp p e below _ T2 (mkF m 69 #[.val (.int p0), .val (.int (0 : Int32)), .val (.ref (w0_MOFFAT Z)), .val (.int (0 : Int32)), .val (.int (0 : Int32)), .val (.int (1 : Int32))] [(.int (1 : Int32))])
    refine own_step (fun _ k => XS.goto X2.here hx rfl (pc0 := 69) (pc' := 73) rfl (hb hby at_69) (by decide) (by decide) k) ?_
    show own_Wp p e below _ T2 (mkF m 73 #[.val (.int p0), .val (.int (0 : Int32)), .val (.ref (w0_MOFFAT Z)), .val (.int (0 : Int32)), .val (.int (0 : Int32)), .val (.int (1 : Int32))] [(.int (1 : Int32))])
    exact own_retN X2 hx (t := .boolean) hret (by simp) hlk (hb hby at_73) (by decide) (by decide) ⟨rfl, N2⟩
  · skip
    rw [hm]
    show own_Wp p e below _ s₁ (mkF m 7 #[.val (.int p0), .unset, .unset, .unset, .unset, .unset] [(.int (1 : Int32))])
    refine own_step (fun _ k => XS.istoreN X0.here hx rfl (hb hby at_7) rfl (l' := #[.val (.int p0), .val (.int (1 : Int32)), .unset, .unset, .unset, .unset]) rfl k) ?_
    show own_Wp p e below _ s₁ (mkF m 8 #[.val (.int p0), .val (.int (1 : Int32)), .unset, .unset, .unset, .unset] [])
    refine own_step (fun _ k => XS.iloadN X0.here hx rfl (hb hby at_8) rfl k) ?_
    show own_Wp p e below _ s₁ (mkF m 9 #[.val (.int p0), .val (.int (1 : Int32)), .unset, .unset, .unset, .unset] [(.int (1 : Int32))])
    obtain ⟨_, T3, L3, X3, hQ3, st3⟩ := own_callS X0 hx hZ hown (hw _ (List.mem_of_getElem? (i := 1) rfl)) (hw _ (List.mem_of_getElem? (i := 2) rfl)) (hw _ (List.mem_of_getElem? (i := 3) rfl)) (hw _ (List.mem_of_getElem? (i := 4) rfl)) (by decide) (rm1_2 l Z a0 hw hA [] h0 n0 O0) (W := 0) (by decide) (by decide) [(.int (1 : Int32))] rfl (lenOf pd1 rfl) (Ls := #[.val (.int p0), .val (.int (1 : Int32)), .unset, .unset, .unset, .unset]) (by rw [hml]; rfl) (rest := []) (Nat.le_of_eq rfl) (hb hby at_9) e0 (by decide) (by decide)
    refine st3 _ ?_
    obtain ⟨rfl, N3q, e3⟩ := hQ3
    have N3 := Fr.app (Fr.nil n0) N3q
    show own_Wp p e below _ T3 (mkF m 12 #[.val (.int p0), .val (.int (1 : Int32)), .unset, .unset, .unset, .unset] [(.ref (w5_INCH Z))])
    refine own_step (fun _ k => XS.astoreN X3.here hx rfl (hb hby at_12) rfl rfl (l' := #[.val (.int p0), .val (.int (1 : Int32)), .val (.ref (w5_INCH Z)), .unset, .unset, .unset]) rfl k) ?_
    show own_Wp p e below _ T3 (mkF m 13 #[.val (.int p0), .val (.int (1 : Int32)), .val (.ref (w5_INCH Z)), .unset, .unset, .unset] [])
    refine own_step (fun _ k => XS.aloadN X3.here hx rfl (hb hby at_13) rfl rfl k) ?_
    show own_Wp p e below _ T3 (mkF m 14 #[.val (.int p0), .val (.int (1 : Int32)), .val (.ref (w5_INCH Z)), .unset, .unset, .unset] [(.ref (w5_INCH Z))])
    obtain ⟨_, T4, L4, X4, hQ4, st4⟩ := own_callV X3 hx hZ hown (hw _ (List.mem_of_getElem? (i := 8) rfl)) (hw _ (List.mem_of_getElem? (i := 9) rfl)) (notFace_of_selects (args := #[]) (mvT hZ (hw _ (List.mem_of_getElem? (i := 11) rfl)))) (hw _ (List.mem_of_getElem? (i := 11) rfl)) (hw _ (List.mem_of_getElem? (i := 10) rfl)) (hw _ (List.mem_of_getElem? (i := 6) rfl)) (hw _ (List.mem_of_getElem? (i := 12) rfl)) (by decide) ((ex_w5_INCH hw hA).ext O0.2) (rm2_1 l Z a0 hw hA [] (w5_INCH Z) h0 n0 O0 (Fld.ne (fl5 hw hA) (fl1 hw hA) (by decide)) (Fld.ne (fl5 hw hA) (fl2 hw hA) (by decide))) (W := 0) (by decide) (by decide) [] rfl (lenOf pd3 rfl) (Ls := #[.val (.int p0), .val (.int (1 : Int32)), .val (.ref (w5_INCH Z)), .unset, .unset, .unset]) (by rw [hml]; rfl) (rest := []) (Nat.le_of_eq rfl) (hb hby at_14) e3 (by decide) (by decide)
    refine st4 _ ?_
    obtain ⟨rfl, N4q, e4⟩ := hQ4
    have N4 := Fr.app N3 N4q
    show own_Wp p e below _ T4 (mkF m 17 #[.val (.int p0), .val (.int (1 : Int32)), .val (.ref (w5_INCH Z)), .unset, .unset, .unset] [(.int (0 : Int32))])
    refine own_step (fun _ k => XS.istoreN X4.here hx rfl (hb hby at_17) rfl (l' := #[.val (.int p0), .val (.int (1 : Int32)), .val (.ref (w5_INCH Z)), .val (.int (0 : Int32)), .unset, .unset]) rfl k) ?_
    show own_Wp p e below _ T4 (mkF m 18 #[.val (.int p0), .val (.int (1 : Int32)), .val (.ref (w5_INCH Z)), .val (.int (0 : Int32)), .unset, .unset] [])
    refine own_step (fun _ k => XS.iloadN X4.here hx rfl (hb hby at_18) rfl k) ?_
    show own_Wp p e below _ T4 (mkF m 19 #[.val (.int p0), .val (.int (1 : Int32)), .val (.ref (w5_INCH Z)), .val (.int (0 : Int32)), .unset, .unset] [(.int (1 : Int32))])
    refine own_step (fun _ k => XS.iconst X4.here hx rfl (hb hby at_19) k) ?_
    show own_Wp p e below _ T4 (mkF m 20 #[.val (.int p0), .val (.int (1 : Int32)), .val (.ref (w5_INCH Z)), .val (.int (0 : Int32)), .unset, .unset] [(.int (3 : Int32)), (.int (1 : Int32))])
    refine own_step (fun _ k => XS.icmpNo X4.here hx rfl (hb hby at_20) rfl (by decide) k) ?_
    show own_Wp p e below _ T4 (mkF m 23 #[.val (.int p0), .val (.int (1 : Int32)), .val (.ref (w5_INCH Z)), .val (.int (0 : Int32)), .unset, .unset] [])
    refine own_step (fun _ k => XS.iloadN X4.here hx rfl (hb hby at_23) rfl k) ?_
    show own_Wp p e below _ T4 (mkF m 24 #[.val (.int p0), .val (.int (1 : Int32)), .val (.ref (w5_INCH Z)), .val (.int (0 : Int32)), .unset, .unset] [(.int (1 : Int32))])
    refine own_step (fun _ k => XS.bipush X4.here hx rfl (hb hby at_24) k) ?_
    show own_Wp p e below _ T4 (mkF m 26 #[.val (.int p0), .val (.int (1 : Int32)), .val (.ref (w5_INCH Z)), .val (.int (0 : Int32)), .unset, .unset] [(.int (8 : Int32)), (.int (1 : Int32))])
    refine own_step (fun _ k => XS.icmpYes X4.here hx rfl (pc0 := 26) (pc' := 33) rfl (hb hby at_26) rfl (by decide) (by decide) (by decide) k) ?_
    show own_Wp p e below _ T4 (mkF m 33 #[.val (.int p0), .val (.int (1 : Int32)), .val (.ref (w5_INCH Z)), .val (.int (0 : Int32)), .unset, .unset] [])
    refine own_step (fun _ k => XS.iconst X4.here hx rfl (hb hby at_33) k) ?_
    show own_Wp p e below _ T4 (mkF m 34 #[.val (.int p0), .val (.int (1 : Int32)), .val (.ref (w5_INCH Z)), .val (.int (0 : Int32)), .unset, .unset] [(.int (0 : Int32))])
    refine own_step (fun _ k => XS.istore X4.here hx rfl (hb hby at_34) rfl (l' := #[.val (.int p0), .val (.int (1 : Int32)), .val (.ref (w5_INCH Z)), .val (.int (0 : Int32)), .val (.int (0 : Int32)), .unset]) rfl k) ?_
    show own_Wp p e below _ T4 (mkF m 36 #[.val (.int p0), .val (.int (1 : Int32)), .val (.ref (w5_INCH Z)), .val (.int (0 : Int32)), .val (.int (0 : Int32)), .unset] [])
    refine own_step (fun _ k => XS.iloadN X4.here hx rfl (hb hby at_36) rfl k) ?_
    show own_Wp p e below _ T4 (mkF m 37 #[.val (.int p0), .val (.int (1 : Int32)), .val (.ref (w5_INCH Z)), .val (.int (0 : Int32)), .val (.int (0 : Int32)), .unset] [(.int (0 : Int32))])
    refine own_step (fun _ k => XS.ifYes X4.here hx rfl (pc0 := 37) (pc' := 50) rfl (hb hby at_37) rfl (by decide) (by decide) (by decide) k) ?_
    show own_Wp p e below _ T4 (mkF m 50 #[.val (.int p0), .val (.int (1 : Int32)), .val (.ref (w5_INCH Z)), .val (.int (0 : Int32)), .val (.int (0 : Int32)), .unset] [])
    refine own_step (fun _ k => XS.iconst X4.here hx rfl (hb hby at_50) k) ?_
    show own_Wp p e below _ T4 (mkF m 51 #[.val (.int p0), .val (.int (1 : Int32)), .val (.ref (w5_INCH Z)), .val (.int (0 : Int32)), .val (.int (0 : Int32)), .unset] [(.int (1 : Int32))])
    refine own_step (fun _ k => XS.goto X4.here hx rfl (pc0 := 51) (pc' := 55) rfl (hb hby at_51) (by decide) (by decide) k) ?_
    show own_Wp p e below _ T4 (mkF m 55 #[.val (.int p0), .val (.int (1 : Int32)), .val (.ref (w5_INCH Z)), .val (.int (0 : Int32)), .val (.int (0 : Int32)), .unset] [(.int (1 : Int32))])
    refine own_step (fun _ k => XS.istore X4.here hx rfl (hb hby at_55) rfl (l' := #[.val (.int p0), .val (.int (1 : Int32)), .val (.ref (w5_INCH Z)), .val (.int (0 : Int32)), .val (.int (0 : Int32)), .val (.int (1 : Int32))]) rfl k) ?_
    show own_Wp p e below _ T4 (mkF m 57 #[.val (.int p0), .val (.int (1 : Int32)), .val (.ref (w5_INCH Z)), .val (.int (0 : Int32)), .val (.int (0 : Int32)), .val (.int (1 : Int32))] [])
    refine own_step (fun _ k => XS.iloadN X4.here hx rfl (hb hby at_57) rfl k) ?_
    show own_Wp p e below _ T4 (mkF m 58 #[.val (.int p0), .val (.int (1 : Int32)), .val (.ref (w5_INCH Z)), .val (.int (0 : Int32)), .val (.int (0 : Int32)), .val (.int (1 : Int32))] [(.int (0 : Int32))])
    refine own_step (fun _ k => XS.iload X4.here hx rfl (hb hby at_58) rfl k) ?_
    show own_Wp p e below _ T4 (mkF m 60 #[.val (.int p0), .val (.int (1 : Int32)), .val (.ref (w5_INCH Z)), .val (.int (0 : Int32)), .val (.int (0 : Int32)), .val (.int (1 : Int32))] [(.int (0 : Int32)), (.int (0 : Int32))])
    refine own_step (fun _ k => XS.icmpNo X4.here hx rfl (hb hby at_60) rfl (by decide) k) ?_
    show own_Wp p e below _ T4 (mkF m 63 #[.val (.int p0), .val (.int (1 : Int32)), .val (.ref (w5_INCH Z)), .val (.int (0 : Int32)), .val (.int (0 : Int32)), .val (.int (1 : Int32))] [])
    refine own_step (fun _ k => XS.iload X4.here hx rfl (hb hby at_63) rfl k) ?_
    show own_Wp p e below _ T4 (mkF m 65 #[.val (.int p0), .val (.int (1 : Int32)), .val (.ref (w5_INCH Z)), .val (.int (0 : Int32)), .val (.int (0 : Int32)), .val (.int (1 : Int32))] [(.int (1 : Int32))])
    refine own_step (fun _ k => XS.ifNo X4.here hx rfl (hb hby at_65) rfl (by decide) k) ?_
    show own_Wp p e below _ T4 (mkF m 68 #[.val (.int p0), .val (.int (1 : Int32)), .val (.ref (w5_INCH Z)), .val (.int (0 : Int32)), .val (.int (0 : Int32)), .val (.int (1 : Int32))] [])
    refine own_step (fun _ k => XS.iconst X4.here hx rfl (hb hby at_68) k) ?_
    show own_Wp p e below _ T4 (mkF m 69 #[.val (.int p0), .val (.int (1 : Int32)), .val (.ref (w5_INCH Z)), .val (.int (0 : Int32)), .val (.int (0 : Int32)), .val (.int (1 : Int32))] [(.int (1 : Int32))])
    refine own_step (fun _ k => XS.goto X4.here hx rfl (pc0 := 69) (pc' := 73) rfl (hb hby at_69) (by decide) (by decide) k) ?_
    show own_Wp p e below _ T4 (mkF m 73 #[.val (.int p0), .val (.int (1 : Int32)), .val (.ref (w5_INCH Z)), .val (.int (0 : Int32)), .val (.int (0 : Int32)), .val (.int (1 : Int32))] [(.int (1 : Int32))])
    exact own_retN X4 hx (t := .boolean) hret (by simp) hlk (hb hby at_73) (by decide) (by decide) ⟨rfl, N4⟩
  · skip
    rw [hm]
    show own_Wp p e below _ s₁ (mkF m 7 #[.val (.int p0), .unset, .unset, .unset, .unset, .unset] [(.int (2 : Int32))])
    refine own_step (fun _ k => XS.istoreN X0.here hx rfl (hb hby at_7) rfl (l' := #[.val (.int p0), .val (.int (2 : Int32)), .unset, .unset, .unset, .unset]) rfl k) ?_
    show own_Wp p e below _ s₁ (mkF m 8 #[.val (.int p0), .val (.int (2 : Int32)), .unset, .unset, .unset, .unset] [])
    refine own_step (fun _ k => XS.iloadN X0.here hx rfl (hb hby at_8) rfl k) ?_
    show own_Wp p e below _ s₁ (mkF m 9 #[.val (.int p0), .val (.int (2 : Int32)), .unset, .unset, .unset, .unset] [(.int (2 : Int32))])
    obtain ⟨_, T5, L5, X5, hQ5, st5⟩ := own_callS X0 hx hZ hown (hw _ (List.mem_of_getElem? (i := 1) rfl)) (hw _ (List.mem_of_getElem? (i := 2) rfl)) (hw _ (List.mem_of_getElem? (i := 3) rfl)) (hw _ (List.mem_of_getElem? (i := 4) rfl)) (by decide) (rm1_3 l Z a0 hw hA [] h0 n0 O0) (W := 0) (by decide) (by decide) [(.int (2 : Int32))] rfl (lenOf pd1 rfl) (Ls := #[.val (.int p0), .val (.int (2 : Int32)), .unset, .unset, .unset, .unset]) (by rw [hml]; rfl) (rest := []) (Nat.le_of_eq rfl) (hb hby at_9) e0 (by decide) (by decide)
    refine st5 _ ?_
    obtain ⟨rfl, N5q, e5⟩ := hQ5
    have N5 := Fr.app (Fr.nil n0) N5q
    show own_Wp p e below _ T5 (mkF m 12 #[.val (.int p0), .val (.int (2 : Int32)), .unset, .unset, .unset, .unset] [(.ref (w4_BELLANABOY Z))])
    refine own_step (fun _ k => XS.astoreN X5.here hx rfl (hb hby at_12) rfl rfl (l' := #[.val (.int p0), .val (.int (2 : Int32)), .val (.ref (w4_BELLANABOY Z)), .unset, .unset, .unset]) rfl k) ?_
    show own_Wp p e below _ T5 (mkF m 13 #[.val (.int p0), .val (.int (2 : Int32)), .val (.ref (w4_BELLANABOY Z)), .unset, .unset, .unset] [])
    refine own_step (fun _ k => XS.aloadN X5.here hx rfl (hb hby at_13) rfl rfl k) ?_
    show own_Wp p e below _ T5 (mkF m 14 #[.val (.int p0), .val (.int (2 : Int32)), .val (.ref (w4_BELLANABOY Z)), .unset, .unset, .unset] [(.ref (w4_BELLANABOY Z))])
    obtain ⟨_, T6, L6, X6, hQ6, st6⟩ := own_callV X5 hx hZ hown (hw _ (List.mem_of_getElem? (i := 8) rfl)) (hw _ (List.mem_of_getElem? (i := 9) rfl)) (notFace_of_selects (args := #[]) (mvT hZ (hw _ (List.mem_of_getElem? (i := 11) rfl)))) (hw _ (List.mem_of_getElem? (i := 11) rfl)) (hw _ (List.mem_of_getElem? (i := 10) rfl)) (hw _ (List.mem_of_getElem? (i := 6) rfl)) (hw _ (List.mem_of_getElem? (i := 12) rfl)) (by decide) ((ex_w4_BELLANABOY hw hA).ext O0.2) (rm2_1 l Z a0 hw hA [] (w4_BELLANABOY Z) h0 n0 O0 (Fld.ne (fl4 hw hA) (fl1 hw hA) (by decide)) (Fld.ne (fl4 hw hA) (fl2 hw hA) (by decide))) (W := 0) (by decide) (by decide) [] rfl (lenOf pd3 rfl) (Ls := #[.val (.int p0), .val (.int (2 : Int32)), .val (.ref (w4_BELLANABOY Z)), .unset, .unset, .unset]) (by rw [hml]; rfl) (rest := []) (Nat.le_of_eq rfl) (hb hby at_14) e5 (by decide) (by decide)
    refine st6 _ ?_
    obtain ⟨rfl, N6q, e6⟩ := hQ6
    have N6 := Fr.app N5 N6q
    show own_Wp p e below _ T6 (mkF m 17 #[.val (.int p0), .val (.int (2 : Int32)), .val (.ref (w4_BELLANABOY Z)), .unset, .unset, .unset] [(.int (0 : Int32))])
    refine own_step (fun _ k => XS.istoreN X6.here hx rfl (hb hby at_17) rfl (l' := #[.val (.int p0), .val (.int (2 : Int32)), .val (.ref (w4_BELLANABOY Z)), .val (.int (0 : Int32)), .unset, .unset]) rfl k) ?_
    show own_Wp p e below _ T6 (mkF m 18 #[.val (.int p0), .val (.int (2 : Int32)), .val (.ref (w4_BELLANABOY Z)), .val (.int (0 : Int32)), .unset, .unset] [])
    refine own_step (fun _ k => XS.iloadN X6.here hx rfl (hb hby at_18) rfl k) ?_
    show own_Wp p e below _ T6 (mkF m 19 #[.val (.int p0), .val (.int (2 : Int32)), .val (.ref (w4_BELLANABOY Z)), .val (.int (0 : Int32)), .unset, .unset] [(.int (2 : Int32))])
    refine own_step (fun _ k => XS.iconst X6.here hx rfl (hb hby at_19) k) ?_
    show own_Wp p e below _ T6 (mkF m 20 #[.val (.int p0), .val (.int (2 : Int32)), .val (.ref (w4_BELLANABOY Z)), .val (.int (0 : Int32)), .unset, .unset] [(.int (3 : Int32)), (.int (2 : Int32))])
    refine own_step (fun _ k => XS.icmpNo X6.here hx rfl (hb hby at_20) rfl (by decide) k) ?_
    show own_Wp p e below _ T6 (mkF m 23 #[.val (.int p0), .val (.int (2 : Int32)), .val (.ref (w4_BELLANABOY Z)), .val (.int (0 : Int32)), .unset, .unset] [])
    refine own_step (fun _ k => XS.iloadN X6.here hx rfl (hb hby at_23) rfl k) ?_
    show own_Wp p e below _ T6 (mkF m 24 #[.val (.int p0), .val (.int (2 : Int32)), .val (.ref (w4_BELLANABOY Z)), .val (.int (0 : Int32)), .unset, .unset] [(.int (2 : Int32))])
    refine own_step (fun _ k => XS.bipush X6.here hx rfl (hb hby at_24) k) ?_
    show own_Wp p e below _ T6 (mkF m 26 #[.val (.int p0), .val (.int (2 : Int32)), .val (.ref (w4_BELLANABOY Z)), .val (.int (0 : Int32)), .unset, .unset] [(.int (8 : Int32)), (.int (2 : Int32))])
    refine own_step (fun _ k => XS.icmpYes X6.here hx rfl (pc0 := 26) (pc' := 33) rfl (hb hby at_26) rfl (by decide) (by decide) (by decide) k) ?_
    show own_Wp p e below _ T6 (mkF m 33 #[.val (.int p0), .val (.int (2 : Int32)), .val (.ref (w4_BELLANABOY Z)), .val (.int (0 : Int32)), .unset, .unset] [])
    refine own_step (fun _ k => XS.iconst X6.here hx rfl (hb hby at_33) k) ?_
    show own_Wp p e below _ T6 (mkF m 34 #[.val (.int p0), .val (.int (2 : Int32)), .val (.ref (w4_BELLANABOY Z)), .val (.int (0 : Int32)), .unset, .unset] [(.int (0 : Int32))])
    refine own_step (fun _ k => XS.istore X6.here hx rfl (hb hby at_34) rfl (l' := #[.val (.int p0), .val (.int (2 : Int32)), .val (.ref (w4_BELLANABOY Z)), .val (.int (0 : Int32)), .val (.int (0 : Int32)), .unset]) rfl k) ?_
    show own_Wp p e below _ T6 (mkF m 36 #[.val (.int p0), .val (.int (2 : Int32)), .val (.ref (w4_BELLANABOY Z)), .val (.int (0 : Int32)), .val (.int (0 : Int32)), .unset] [])
    refine own_step (fun _ k => XS.iloadN X6.here hx rfl (hb hby at_36) rfl k) ?_
    show own_Wp p e below _ T6 (mkF m 37 #[.val (.int p0), .val (.int (2 : Int32)), .val (.ref (w4_BELLANABOY Z)), .val (.int (0 : Int32)), .val (.int (0 : Int32)), .unset] [(.int (0 : Int32))])
    refine own_step (fun _ k => XS.ifYes X6.here hx rfl (pc0 := 37) (pc' := 50) rfl (hb hby at_37) rfl (by decide) (by decide) (by decide) k) ?_
    show own_Wp p e below _ T6 (mkF m 50 #[.val (.int p0), .val (.int (2 : Int32)), .val (.ref (w4_BELLANABOY Z)), .val (.int (0 : Int32)), .val (.int (0 : Int32)), .unset] [])
    refine own_step (fun _ k => XS.iconst X6.here hx rfl (hb hby at_50) k) ?_
    show own_Wp p e below _ T6 (mkF m 51 #[.val (.int p0), .val (.int (2 : Int32)), .val (.ref (w4_BELLANABOY Z)), .val (.int (0 : Int32)), .val (.int (0 : Int32)), .unset] [(.int (1 : Int32))])
    refine own_step (fun _ k => XS.goto X6.here hx rfl (pc0 := 51) (pc' := 55) rfl (hb hby at_51) (by decide) (by decide) k) ?_
    show own_Wp p e below _ T6 (mkF m 55 #[.val (.int p0), .val (.int (2 : Int32)), .val (.ref (w4_BELLANABOY Z)), .val (.int (0 : Int32)), .val (.int (0 : Int32)), .unset] [(.int (1 : Int32))])
    refine own_step (fun _ k => XS.istore X6.here hx rfl (hb hby at_55) rfl (l' := #[.val (.int p0), .val (.int (2 : Int32)), .val (.ref (w4_BELLANABOY Z)), .val (.int (0 : Int32)), .val (.int (0 : Int32)), .val (.int (1 : Int32))]) rfl k) ?_
    show own_Wp p e below _ T6 (mkF m 57 #[.val (.int p0), .val (.int (2 : Int32)), .val (.ref (w4_BELLANABOY Z)), .val (.int (0 : Int32)), .val (.int (0 : Int32)), .val (.int (1 : Int32))] [])
    refine own_step (fun _ k => XS.iloadN X6.here hx rfl (hb hby at_57) rfl k) ?_
    show own_Wp p e below _ T6 (mkF m 58 #[.val (.int p0), .val (.int (2 : Int32)), .val (.ref (w4_BELLANABOY Z)), .val (.int (0 : Int32)), .val (.int (0 : Int32)), .val (.int (1 : Int32))] [(.int (0 : Int32))])
    refine own_step (fun _ k => XS.iload X6.here hx rfl (hb hby at_58) rfl k) ?_
    show own_Wp p e below _ T6 (mkF m 60 #[.val (.int p0), .val (.int (2 : Int32)), .val (.ref (w4_BELLANABOY Z)), .val (.int (0 : Int32)), .val (.int (0 : Int32)), .val (.int (1 : Int32))] [(.int (0 : Int32)), (.int (0 : Int32))])
    refine own_step (fun _ k => XS.icmpNo X6.here hx rfl (hb hby at_60) rfl (by decide) k) ?_
    show own_Wp p e below _ T6 (mkF m 63 #[.val (.int p0), .val (.int (2 : Int32)), .val (.ref (w4_BELLANABOY Z)), .val (.int (0 : Int32)), .val (.int (0 : Int32)), .val (.int (1 : Int32))] [])
    refine own_step (fun _ k => XS.iload X6.here hx rfl (hb hby at_63) rfl k) ?_
    show own_Wp p e below _ T6 (mkF m 65 #[.val (.int p0), .val (.int (2 : Int32)), .val (.ref (w4_BELLANABOY Z)), .val (.int (0 : Int32)), .val (.int (0 : Int32)), .val (.int (1 : Int32))] [(.int (1 : Int32))])
    refine own_step (fun _ k => XS.ifNo X6.here hx rfl (hb hby at_65) rfl (by decide) k) ?_
    show own_Wp p e below _ T6 (mkF m 68 #[.val (.int p0), .val (.int (2 : Int32)), .val (.ref (w4_BELLANABOY Z)), .val (.int (0 : Int32)), .val (.int (0 : Int32)), .val (.int (1 : Int32))] [])
    refine own_step (fun _ k => XS.iconst X6.here hx rfl (hb hby at_68) k) ?_
    show own_Wp p e below _ T6 (mkF m 69 #[.val (.int p0), .val (.int (2 : Int32)), .val (.ref (w4_BELLANABOY Z)), .val (.int (0 : Int32)), .val (.int (0 : Int32)), .val (.int (1 : Int32))] [(.int (1 : Int32))])
    refine own_step (fun _ k => XS.goto X6.here hx rfl (pc0 := 69) (pc' := 73) rfl (hb hby at_69) (by decide) (by decide) k) ?_
    show own_Wp p e below _ T6 (mkF m 73 #[.val (.int p0), .val (.int (2 : Int32)), .val (.ref (w4_BELLANABOY Z)), .val (.int (0 : Int32)), .val (.int (0 : Int32)), .val (.int (1 : Int32))] [(.int (1 : Int32))])
    exact own_retN X6 hx (t := .boolean) hret (by simp) hlk (hb hby at_73) (by decide) (by decide) ⟨rfl, N6⟩
  · skip
    rw [hm]
    show own_Wp p e below _ s₁ (mkF m 7 #[.val (.int p0), .unset, .unset, .unset, .unset, .unset] [(.int (3 : Int32))])
    refine own_step (fun _ k => XS.istoreN X0.here hx rfl (hb hby at_7) rfl (l' := #[.val (.int p0), .val (.int (3 : Int32)), .unset, .unset, .unset, .unset]) rfl k) ?_
    show own_Wp p e below _ s₁ (mkF m 8 #[.val (.int p0), .val (.int (3 : Int32)), .unset, .unset, .unset, .unset] [])
    refine own_step (fun _ k => XS.iloadN X0.here hx rfl (hb hby at_8) rfl k) ?_
    show own_Wp p e below _ s₁ (mkF m 9 #[.val (.int p0), .val (.int (3 : Int32)), .unset, .unset, .unset, .unset] [(.int (3 : Int32))])
    obtain ⟨_, T7, L7, X7, hQ7, st7⟩ := own_callS X0 hx hZ hown (hw _ (List.mem_of_getElem? (i := 1) rfl)) (hw _ (List.mem_of_getElem? (i := 2) rfl)) (hw _ (List.mem_of_getElem? (i := 3) rfl)) (hw _ (List.mem_of_getElem? (i := 4) rfl)) (by decide) (rm1_4 l Z a0 hw hA [] h0 n0 O0) (W := 0) (by decide) (by decide) [(.int (3 : Int32))] rfl (lenOf pd1 rfl) (Ls := #[.val (.int p0), .val (.int (3 : Int32)), .unset, .unset, .unset, .unset]) (by rw [hml]; rfl) (rest := []) (Nat.le_of_eq rfl) (hb hby at_9) e0 (by decide) (by decide)
    refine st7 _ ?_
    obtain ⟨rfl, N7q, e7⟩ := hQ7
    have N7 := Fr.app (Fr.nil n0) N7q
    show own_Wp p e below _ T7 (mkF m 12 #[.val (.int p0), .val (.int (3 : Int32)), .unset, .unset, .unset, .unset] [(.ref (w1_LDM Z))])
    refine own_step (fun _ k => XS.astoreN X7.here hx rfl (hb hby at_12) rfl rfl (l' := #[.val (.int p0), .val (.int (3 : Int32)), .val (.ref (w1_LDM Z)), .unset, .unset, .unset]) rfl k) ?_
    show own_Wp p e below _ T7 (mkF m 13 #[.val (.int p0), .val (.int (3 : Int32)), .val (.ref (w1_LDM Z)), .unset, .unset, .unset] [])
    refine own_step (fun _ k => XS.aloadN X7.here hx rfl (hb hby at_13) rfl rfl k) ?_
    show own_Wp p e below _ T7 (mkF m 14 #[.val (.int p0), .val (.int (3 : Int32)), .val (.ref (w1_LDM Z)), .unset, .unset, .unset] [(.ref (w1_LDM Z))])
    obtain ⟨_, T8, L8, X8, hQ8, st8⟩ := own_callV X7 hx hZ hown (hw _ (List.mem_of_getElem? (i := 8) rfl)) (hw _ (List.mem_of_getElem? (i := 9) rfl)) (notFace_of_selects (args := #[]) (mvT hZ (hw _ (List.mem_of_getElem? (i := 11) rfl)))) (hw _ (List.mem_of_getElem? (i := 11) rfl)) (hw _ (List.mem_of_getElem? (i := 10) rfl)) (hw _ (List.mem_of_getElem? (i := 6) rfl)) (hw _ (List.mem_of_getElem? (i := 12) rfl)) (by decide) ((ex_w1_LDM hw hA).ext O0.2) (rm2_5 l Z a0 hw hA [] h0 n0 O0) (W := 0) (by decide) (by decide) [] rfl (lenOf pd3 rfl) (Ls := #[.val (.int p0), .val (.int (3 : Int32)), .val (.ref (w1_LDM Z)), .unset, .unset, .unset]) (by rw [hml]; rfl) (rest := []) (Nat.le_of_eq rfl) (hb hby at_14) e7 (by decide) (by decide)
    refine st8 _ ?_
    obtain ⟨rfl, N8q, e8⟩ := hQ8
    have N8 := Fr.app N7 N8q
    show own_Wp p e below _ T8 (mkF m 17 #[.val (.int p0), .val (.int (3 : Int32)), .val (.ref (w1_LDM Z)), .unset, .unset, .unset] [(.int (1 : Int32))])
    refine own_step (fun _ k => XS.istoreN X8.here hx rfl (hb hby at_17) rfl (l' := #[.val (.int p0), .val (.int (3 : Int32)), .val (.ref (w1_LDM Z)), .val (.int (1 : Int32)), .unset, .unset]) rfl k) ?_
    show own_Wp p e below _ T8 (mkF m 18 #[.val (.int p0), .val (.int (3 : Int32)), .val (.ref (w1_LDM Z)), .val (.int (1 : Int32)), .unset, .unset] [])
    refine own_step (fun _ k => XS.iloadN X8.here hx rfl (hb hby at_18) rfl k) ?_
    show own_Wp p e below _ T8 (mkF m 19 #[.val (.int p0), .val (.int (3 : Int32)), .val (.ref (w1_LDM Z)), .val (.int (1 : Int32)), .unset, .unset] [(.int (3 : Int32))])
    refine own_step (fun _ k => XS.iconst X8.here hx rfl (hb hby at_19) k) ?_
    show own_Wp p e below _ T8 (mkF m 20 #[.val (.int p0), .val (.int (3 : Int32)), .val (.ref (w1_LDM Z)), .val (.int (1 : Int32)), .unset, .unset] [(.int (3 : Int32)), (.int (3 : Int32))])
    refine own_step (fun _ k => XS.icmpYes X8.here hx rfl (pc0 := 20) (pc' := 29) rfl (hb hby at_20) rfl (by decide) (by decide) (by decide) k) ?_
    show own_Wp p e below _ T8 (mkF m 29 #[.val (.int p0), .val (.int (3 : Int32)), .val (.ref (w1_LDM Z)), .val (.int (1 : Int32)), .unset, .unset] [])
    refine own_step (fun _ k => XS.iconst X8.here hx rfl (hb hby at_29) k) ?_
    show own_Wp p e below _ T8 (mkF m 30 #[.val (.int p0), .val (.int (3 : Int32)), .val (.ref (w1_LDM Z)), .val (.int (1 : Int32)), .unset, .unset] [(.int (1 : Int32))])
    refine own_step (fun _ k => XS.goto X8.here hx rfl (pc0 := 30) (pc' := 34) rfl (hb hby at_30) (by decide) (by decide) k) ?_
    show own_Wp p e below _ T8 (mkF m 34 #[.val (.int p0), .val (.int (3 : Int32)), .val (.ref (w1_LDM Z)), .val (.int (1 : Int32)), .unset, .unset] [(.int (1 : Int32))])
    refine own_step (fun _ k => XS.istore X8.here hx rfl (hb hby at_34) rfl (l' := #[.val (.int p0), .val (.int (3 : Int32)), .val (.ref (w1_LDM Z)), .val (.int (1 : Int32)), .val (.int (1 : Int32)), .unset]) rfl k) ?_
    show own_Wp p e below _ T8 (mkF m 36 #[.val (.int p0), .val (.int (3 : Int32)), .val (.ref (w1_LDM Z)), .val (.int (1 : Int32)), .val (.int (1 : Int32)), .unset] [])
    refine own_step (fun _ k => XS.iloadN X8.here hx rfl (hb hby at_36) rfl k) ?_
    show own_Wp p e below _ T8 (mkF m 37 #[.val (.int p0), .val (.int (3 : Int32)), .val (.ref (w1_LDM Z)), .val (.int (1 : Int32)), .val (.int (1 : Int32)), .unset] [(.int (1 : Int32))])
    refine own_step (fun _ k => XS.ifNo X8.here hx rfl (hb hby at_37) rfl (by decide) k) ?_
    show own_Wp p e below _ T8 (mkF m 40 #[.val (.int p0), .val (.int (3 : Int32)), .val (.ref (w1_LDM Z)), .val (.int (1 : Int32)), .val (.int (1 : Int32)), .unset] [])
    refine own_step (fun _ k => XS.aloadN X8.here hx rfl (hb hby at_40) rfl rfl k) ?_
    show own_Wp p e below _ T8 (mkF m 41 #[.val (.int p0), .val (.int (3 : Int32)), .val (.ref (w1_LDM Z)), .val (.int (1 : Int32)), .val (.int (1 : Int32)), .unset] [(.ref (w1_LDM Z))])
    obtain ⟨_, T9, L9, X9, hQ9, st9⟩ := own_callV X8 hx hZ hown (hw _ (List.mem_of_getElem? (i := 18) rfl)) (hw _ (List.mem_of_getElem? (i := 19) rfl)) (notFace_of_selects (args := #[]) (mvT hZ (hw _ (List.mem_of_getElem? (i := 21) rfl)))) (hw _ (List.mem_of_getElem? (i := 21) rfl)) (hw _ (List.mem_of_getElem? (i := 20) rfl)) (hw _ (List.mem_of_getElem? (i := 6) rfl)) (hw _ (List.mem_of_getElem? (i := 22) rfl)) (by decide) ((ex_w1_LDM hw hA).ext O0.2) (rm3_6 l Z a0 hw hA [] (w1_LDM Z) h0 n0 O0 (fl3 hw hA)) (W := 0) (by decide) (by decide) [] rfl (lenOf pd4 rfl) (Ls := #[.val (.int p0), .val (.int (3 : Int32)), .val (.ref (w1_LDM Z)), .val (.int (1 : Int32)), .val (.int (1 : Int32)), .unset]) (by rw [hml]; rfl) (rest := []) (Nat.le_of_eq rfl) (hb hby at_41) e8 (by decide) (by decide)
    refine st9 _ ?_
    obtain ⟨rfl, N9q, e9⟩ := hQ9
    have N9 := Fr.app N8 N9q
    show own_Wp p e below _ T9 (mkF m 44 #[.val (.int p0), .val (.int (3 : Int32)), .val (.ref (w1_LDM Z)), .val (.int (1 : Int32)), .val (.int (1 : Int32)), .unset] [(.ref (w3_EXIT Z))])
    obtain ⟨T10, X10, e10, st10⟩ := getS2 X9 hx hZ hown (host := "") (Or.inl (hw _ (List.mem_of_getElem? (i := 27) rfl))) Via.refl e9 ((st_w3_EXIT hw hA).ext O0.2) (g := (mkF m 44 #[.val (.int p0), .val (.int (3 : Int32)), .val (.ref (w1_LDM Z)), .val (.int (1 : Int32)), .val (.int (1 : Int32)), .unset] [(.ref (w3_EXIT Z))])) rfl (hb hby at_44)
    refine own_step st10 ?_
    show own_Wp p e below _ T10 (mkF m 47 #[.val (.int p0), .val (.int (3 : Int32)), .val (.ref (w1_LDM Z)), .val (.int (1 : Int32)), .val (.int (1 : Int32)), .unset] [(.ref (w3_EXIT Z)), (.ref (w3_EXIT Z))])
    refine own_step (fun _ k => Jvm.RoadKit.acmp (g := (mkF m 47 #[.val (.int p0), .val (.int (3 : Int32)), .val (.ref (w1_LDM Z)), .val (.int (1 : Int32)), .val (.int (1 : Int32)), .unset] [(.ref (w3_EXIT Z)), (.ref (w3_EXIT Z))])) X10 hx rfl rfl rfl (pc0 := 47) (pc' := 50) (same := true) rfl (hb hby at_47) rfl (decide_eq_true rfl) (by decide) (by decide) k) ?_
    show own_Wp p e below _ T10 (mkF m 50 #[.val (.int p0), .val (.int (3 : Int32)), .val (.ref (w1_LDM Z)), .val (.int (1 : Int32)), .val (.int (1 : Int32)), .unset] [])
    refine own_step (fun _ k => XS.iconst X10.here hx rfl (hb hby at_50) k) ?_
    show own_Wp p e below _ T10 (mkF m 51 #[.val (.int p0), .val (.int (3 : Int32)), .val (.ref (w1_LDM Z)), .val (.int (1 : Int32)), .val (.int (1 : Int32)), .unset] [(.int (1 : Int32))])
    refine own_step (fun _ k => XS.goto X10.here hx rfl (pc0 := 51) (pc' := 55) rfl (hb hby at_51) (by decide) (by decide) k) ?_
    show own_Wp p e below _ T10 (mkF m 55 #[.val (.int p0), .val (.int (3 : Int32)), .val (.ref (w1_LDM Z)), .val (.int (1 : Int32)), .val (.int (1 : Int32)), .unset] [(.int (1 : Int32))])
    refine own_step (fun _ k => XS.istore X10.here hx rfl (hb hby at_55) rfl (l' := #[.val (.int p0), .val (.int (3 : Int32)), .val (.ref (w1_LDM Z)), .val (.int (1 : Int32)), .val (.int (1 : Int32)), .val (.int (1 : Int32))]) rfl k) ?_
    show own_Wp p e below _ T10 (mkF m 57 #[.val (.int p0), .val (.int (3 : Int32)), .val (.ref (w1_LDM Z)), .val (.int (1 : Int32)), .val (.int (1 : Int32)), .val (.int (1 : Int32))] [])
    refine own_step (fun _ k => XS.iloadN X10.here hx rfl (hb hby at_57) rfl k) ?_
    show own_Wp p e below _ T10 (mkF m 58 #[.val (.int p0), .val (.int (3 : Int32)), .val (.ref (w1_LDM Z)), .val (.int (1 : Int32)), .val (.int (1 : Int32)), .val (.int (1 : Int32))] [(.int (1 : Int32))])
    refine own_step (fun _ k => XS.iload X10.here hx rfl (hb hby at_58) rfl k) ?_
    show own_Wp p e below _ T10 (mkF m 60 #[.val (.int p0), .val (.int (3 : Int32)), .val (.ref (w1_LDM Z)), .val (.int (1 : Int32)), .val (.int (1 : Int32)), .val (.int (1 : Int32))] [(.int (1 : Int32)), (.int (1 : Int32))])
    refine own_step (fun _ k => XS.icmpNo X10.here hx rfl (hb hby at_60) rfl (by decide) k) ?_
    show own_Wp p e below _ T10 (mkF m 63 #[.val (.int p0), .val (.int (3 : Int32)), .val (.ref (w1_LDM Z)), .val (.int (1 : Int32)), .val (.int (1 : Int32)), .val (.int (1 : Int32))] [])
    refine own_step (fun _ k => XS.iload X10.here hx rfl (hb hby at_63) rfl k) ?_
    show own_Wp p e below _ T10 (mkF m 65 #[.val (.int p0), .val (.int (3 : Int32)), .val (.ref (w1_LDM Z)), .val (.int (1 : Int32)), .val (.int (1 : Int32)), .val (.int (1 : Int32))] [(.int (1 : Int32))])
    refine own_step (fun _ k => XS.ifNo X10.here hx rfl (hb hby at_65) rfl (by decide) k) ?_
    show own_Wp p e below _ T10 (mkF m 68 #[.val (.int p0), .val (.int (3 : Int32)), .val (.ref (w1_LDM Z)), .val (.int (1 : Int32)), .val (.int (1 : Int32)), .val (.int (1 : Int32))] [])
    refine own_step (fun _ k => XS.iconst X10.here hx rfl (hb hby at_68) k) ?_
    show own_Wp p e below _ T10 (mkF m 69 #[.val (.int p0), .val (.int (3 : Int32)), .val (.ref (w1_LDM Z)), .val (.int (1 : Int32)), .val (.int (1 : Int32)), .val (.int (1 : Int32))] [(.int (1 : Int32))])
    refine own_step (fun _ k => XS.goto X10.here hx rfl (pc0 := 69) (pc' := 73) rfl (hb hby at_69) (by decide) (by decide) k) ?_
    show own_Wp p e below _ T10 (mkF m 73 #[.val (.int p0), .val (.int (3 : Int32)), .val (.ref (w1_LDM Z)), .val (.int (1 : Int32)), .val (.int (1 : Int32)), .val (.int (1 : Int32))] [(.int (1 : Int32))])
    exact own_retN X10 hx (t := .boolean) hret (by simp) hlk (hb hby at_73) (by decide) (by decide) ⟨rfl, N9⟩
  · skip
    rw [hm]
    show own_Wp p e below _ s₁ (mkF m 7 #[.val (.int p0), .unset, .unset, .unset, .unset, .unset] [(.int (4 : Int32))])
    refine own_step (fun _ k => XS.istoreN X0.here hx rfl (hb hby at_7) rfl (l' := #[.val (.int p0), .val (.int (4 : Int32)), .unset, .unset, .unset, .unset]) rfl k) ?_
    show own_Wp p e below _ s₁ (mkF m 8 #[.val (.int p0), .val (.int (4 : Int32)), .unset, .unset, .unset, .unset] [])
    refine own_step (fun _ k => XS.iloadN X0.here hx rfl (hb hby at_8) rfl k) ?_
    show own_Wp p e below _ s₁ (mkF m 9 #[.val (.int p0), .val (.int (4 : Int32)), .unset, .unset, .unset, .unset] [(.int (4 : Int32))])
    obtain ⟨_, T11, L11, X11, hQ11, st11⟩ := own_callS X0 hx hZ hown (hw _ (List.mem_of_getElem? (i := 1) rfl)) (hw _ (List.mem_of_getElem? (i := 2) rfl)) (hw _ (List.mem_of_getElem? (i := 3) rfl)) (hw _ (List.mem_of_getElem? (i := 4) rfl)) (by decide) (rm1_7 l Z a0 hw hA [] h0 n0 O0) (W := 0) (by decide) (by decide) [(.int (4 : Int32))] rfl (lenOf pd1 rfl) (Ls := #[.val (.int p0), .val (.int (4 : Int32)), .unset, .unset, .unset, .unset]) (by rw [hml]; rfl) (rest := []) (Nat.le_of_eq rfl) (hb hby at_9) e0 (by decide) (by decide)
    refine st11 _ ?_
    obtain ⟨rfl, N11q, e11⟩ := hQ11
    have N11 := Fr.app (Fr.nil n0) N11q
    show own_Wp p e below _ T11 (mkF m 12 #[.val (.int p0), .val (.int (4 : Int32)), .unset, .unset, .unset, .unset] [(.ref (w7_DM Z))])
    refine own_step (fun _ k => XS.astoreN X11.here hx rfl (hb hby at_12) rfl rfl (l' := #[.val (.int p0), .val (.int (4 : Int32)), .val (.ref (w7_DM Z)), .unset, .unset, .unset]) rfl k) ?_
    show own_Wp p e below _ T11 (mkF m 13 #[.val (.int p0), .val (.int (4 : Int32)), .val (.ref (w7_DM Z)), .unset, .unset, .unset] [])
    refine own_step (fun _ k => XS.aloadN X11.here hx rfl (hb hby at_13) rfl rfl k) ?_
    show own_Wp p e below _ T11 (mkF m 14 #[.val (.int p0), .val (.int (4 : Int32)), .val (.ref (w7_DM Z)), .unset, .unset, .unset] [(.ref (w7_DM Z))])
    obtain ⟨_, T12, L12, X12, hQ12, st12⟩ := own_callV X11 hx hZ hown (hw _ (List.mem_of_getElem? (i := 8) rfl)) (hw _ (List.mem_of_getElem? (i := 9) rfl)) (notFace_of_selects (args := #[]) (mvT hZ (hw _ (List.mem_of_getElem? (i := 11) rfl)))) (hw _ (List.mem_of_getElem? (i := 11) rfl)) (hw _ (List.mem_of_getElem? (i := 10) rfl)) (hw _ (List.mem_of_getElem? (i := 6) rfl)) (hw _ (List.mem_of_getElem? (i := 12) rfl)) (by decide) ((ex_w7_DM hw hA).ext O0.2) (rm2_1 l Z a0 hw hA [] (w7_DM Z) h0 n0 O0 (Fld.ne (fl7 hw hA) (fl1 hw hA) (by decide)) (Fld.ne (fl7 hw hA) (fl2 hw hA) (by decide))) (W := 0) (by decide) (by decide) [] rfl (lenOf pd3 rfl) (Ls := #[.val (.int p0), .val (.int (4 : Int32)), .val (.ref (w7_DM Z)), .unset, .unset, .unset]) (by rw [hml]; rfl) (rest := []) (Nat.le_of_eq rfl) (hb hby at_14) e11 (by decide) (by decide)
    refine st12 _ ?_
    obtain ⟨rfl, N12q, e12⟩ := hQ12
    have N12 := Fr.app N11 N12q
    show own_Wp p e below _ T12 (mkF m 17 #[.val (.int p0), .val (.int (4 : Int32)), .val (.ref (w7_DM Z)), .unset, .unset, .unset] [(.int (0 : Int32))])
    refine own_step (fun _ k => XS.istoreN X12.here hx rfl (hb hby at_17) rfl (l' := #[.val (.int p0), .val (.int (4 : Int32)), .val (.ref (w7_DM Z)), .val (.int (0 : Int32)), .unset, .unset]) rfl k) ?_
    show own_Wp p e below _ T12 (mkF m 18 #[.val (.int p0), .val (.int (4 : Int32)), .val (.ref (w7_DM Z)), .val (.int (0 : Int32)), .unset, .unset] [])
    refine own_step (fun _ k => XS.iloadN X12.here hx rfl (hb hby at_18) rfl k) ?_
    show own_Wp p e below _ T12 (mkF m 19 #[.val (.int p0), .val (.int (4 : Int32)), .val (.ref (w7_DM Z)), .val (.int (0 : Int32)), .unset, .unset] [(.int (4 : Int32))])
    refine own_step (fun _ k => XS.iconst X12.here hx rfl (hb hby at_19) k) ?_
    show own_Wp p e below _ T12 (mkF m 20 #[.val (.int p0), .val (.int (4 : Int32)), .val (.ref (w7_DM Z)), .val (.int (0 : Int32)), .unset, .unset] [(.int (3 : Int32)), (.int (4 : Int32))])
    refine own_step (fun _ k => XS.icmpNo X12.here hx rfl (hb hby at_20) rfl (by decide) k) ?_
    show own_Wp p e below _ T12 (mkF m 23 #[.val (.int p0), .val (.int (4 : Int32)), .val (.ref (w7_DM Z)), .val (.int (0 : Int32)), .unset, .unset] [])
    refine own_step (fun _ k => XS.iloadN X12.here hx rfl (hb hby at_23) rfl k) ?_
    show own_Wp p e below _ T12 (mkF m 24 #[.val (.int p0), .val (.int (4 : Int32)), .val (.ref (w7_DM Z)), .val (.int (0 : Int32)), .unset, .unset] [(.int (4 : Int32))])
    refine own_step (fun _ k => XS.bipush X12.here hx rfl (hb hby at_24) k) ?_
    show own_Wp p e below _ T12 (mkF m 26 #[.val (.int p0), .val (.int (4 : Int32)), .val (.ref (w7_DM Z)), .val (.int (0 : Int32)), .unset, .unset] [(.int (8 : Int32)), (.int (4 : Int32))])
    refine own_step (fun _ k => XS.icmpYes X12.here hx rfl (pc0 := 26) (pc' := 33) rfl (hb hby at_26) rfl (by decide) (by decide) (by decide) k) ?_
    show own_Wp p e below _ T12 (mkF m 33 #[.val (.int p0), .val (.int (4 : Int32)), .val (.ref (w7_DM Z)), .val (.int (0 : Int32)), .unset, .unset] [])
    refine own_step (fun _ k => XS.iconst X12.here hx rfl (hb hby at_33) k) ?_
    show own_Wp p e below _ T12 (mkF m 34 #[.val (.int p0), .val (.int (4 : Int32)), .val (.ref (w7_DM Z)), .val (.int (0 : Int32)), .unset, .unset] [(.int (0 : Int32))])
    refine own_step (fun _ k => XS.istore X12.here hx rfl (hb hby at_34) rfl (l' := #[.val (.int p0), .val (.int (4 : Int32)), .val (.ref (w7_DM Z)), .val (.int (0 : Int32)), .val (.int (0 : Int32)), .unset]) rfl k) ?_
    show own_Wp p e below _ T12 (mkF m 36 #[.val (.int p0), .val (.int (4 : Int32)), .val (.ref (w7_DM Z)), .val (.int (0 : Int32)), .val (.int (0 : Int32)), .unset] [])
    refine own_step (fun _ k => XS.iloadN X12.here hx rfl (hb hby at_36) rfl k) ?_
    show own_Wp p e below _ T12 (mkF m 37 #[.val (.int p0), .val (.int (4 : Int32)), .val (.ref (w7_DM Z)), .val (.int (0 : Int32)), .val (.int (0 : Int32)), .unset] [(.int (0 : Int32))])
    refine own_step (fun _ k => XS.ifYes X12.here hx rfl (pc0 := 37) (pc' := 50) rfl (hb hby at_37) rfl (by decide) (by decide) (by decide) k) ?_
    show own_Wp p e below _ T12 (mkF m 50 #[.val (.int p0), .val (.int (4 : Int32)), .val (.ref (w7_DM Z)), .val (.int (0 : Int32)), .val (.int (0 : Int32)), .unset] [])
    refine own_step (fun _ k => XS.iconst X12.here hx rfl (hb hby at_50) k) ?_
    show own_Wp p e below _ T12 (mkF m 51 #[.val (.int p0), .val (.int (4 : Int32)), .val (.ref (w7_DM Z)), .val (.int (0 : Int32)), .val (.int (0 : Int32)), .unset] [(.int (1 : Int32))])
    refine own_step (fun _ k => XS.goto X12.here hx rfl (pc0 := 51) (pc' := 55) rfl (hb hby at_51) (by decide) (by decide) k) ?_
    show own_Wp p e below _ T12 (mkF m 55 #[.val (.int p0), .val (.int (4 : Int32)), .val (.ref (w7_DM Z)), .val (.int (0 : Int32)), .val (.int (0 : Int32)), .unset] [(.int (1 : Int32))])
    refine own_step (fun _ k => XS.istore X12.here hx rfl (hb hby at_55) rfl (l' := #[.val (.int p0), .val (.int (4 : Int32)), .val (.ref (w7_DM Z)), .val (.int (0 : Int32)), .val (.int (0 : Int32)), .val (.int (1 : Int32))]) rfl k) ?_
    show own_Wp p e below _ T12 (mkF m 57 #[.val (.int p0), .val (.int (4 : Int32)), .val (.ref (w7_DM Z)), .val (.int (0 : Int32)), .val (.int (0 : Int32)), .val (.int (1 : Int32))] [])
    refine own_step (fun _ k => XS.iloadN X12.here hx rfl (hb hby at_57) rfl k) ?_
    show own_Wp p e below _ T12 (mkF m 58 #[.val (.int p0), .val (.int (4 : Int32)), .val (.ref (w7_DM Z)), .val (.int (0 : Int32)), .val (.int (0 : Int32)), .val (.int (1 : Int32))] [(.int (0 : Int32))])
    refine own_step (fun _ k => XS.iload X12.here hx rfl (hb hby at_58) rfl k) ?_
    show own_Wp p e below _ T12 (mkF m 60 #[.val (.int p0), .val (.int (4 : Int32)), .val (.ref (w7_DM Z)), .val (.int (0 : Int32)), .val (.int (0 : Int32)), .val (.int (1 : Int32))] [(.int (0 : Int32)), (.int (0 : Int32))])
    refine own_step (fun _ k => XS.icmpNo X12.here hx rfl (hb hby at_60) rfl (by decide) k) ?_
    show own_Wp p e below _ T12 (mkF m 63 #[.val (.int p0), .val (.int (4 : Int32)), .val (.ref (w7_DM Z)), .val (.int (0 : Int32)), .val (.int (0 : Int32)), .val (.int (1 : Int32))] [])
    refine own_step (fun _ k => XS.iload X12.here hx rfl (hb hby at_63) rfl k) ?_
    show own_Wp p e below _ T12 (mkF m 65 #[.val (.int p0), .val (.int (4 : Int32)), .val (.ref (w7_DM Z)), .val (.int (0 : Int32)), .val (.int (0 : Int32)), .val (.int (1 : Int32))] [(.int (1 : Int32))])
    refine own_step (fun _ k => XS.ifNo X12.here hx rfl (hb hby at_65) rfl (by decide) k) ?_
    show own_Wp p e below _ T12 (mkF m 68 #[.val (.int p0), .val (.int (4 : Int32)), .val (.ref (w7_DM Z)), .val (.int (0 : Int32)), .val (.int (0 : Int32)), .val (.int (1 : Int32))] [])
    refine own_step (fun _ k => XS.iconst X12.here hx rfl (hb hby at_68) k) ?_
    show own_Wp p e below _ T12 (mkF m 69 #[.val (.int p0), .val (.int (4 : Int32)), .val (.ref (w7_DM Z)), .val (.int (0 : Int32)), .val (.int (0 : Int32)), .val (.int (1 : Int32))] [(.int (1 : Int32))])
    refine own_step (fun _ k => XS.goto X12.here hx rfl (pc0 := 69) (pc' := 73) rfl (hb hby at_69) (by decide) (by decide) k) ?_
    show own_Wp p e below _ T12 (mkF m 73 #[.val (.int p0), .val (.int (4 : Int32)), .val (.ref (w7_DM Z)), .val (.int (0 : Int32)), .val (.int (0 : Int32)), .val (.int (1 : Int32))] [(.int (1 : Int32))])
    exact own_retN X12 hx (t := .boolean) hret (by simp) hlk (hb hby at_73) (by decide) (by decide) ⟨rfl, N12⟩
  · skip
    rw [hm]
    show own_Wp p e below _ s₁ (mkF m 7 #[.val (.int p0), .unset, .unset, .unset, .unset, .unset] [(.int (5 : Int32))])
    refine own_step (fun _ k => XS.istoreN X0.here hx rfl (hb hby at_7) rfl (l' := #[.val (.int p0), .val (.int (5 : Int32)), .unset, .unset, .unset, .unset]) rfl k) ?_
    show own_Wp p e below _ s₁ (mkF m 8 #[.val (.int p0), .val (.int (5 : Int32)), .unset, .unset, .unset, .unset] [])
    refine own_step (fun _ k => XS.iloadN X0.here hx rfl (hb hby at_8) rfl k) ?_
    show own_Wp p e below _ s₁ (mkF m 9 #[.val (.int p0), .val (.int (5 : Int32)), .unset, .unset, .unset, .unset] [(.int (5 : Int32))])
    obtain ⟨_, T13, L13, X13, hQ13, st13⟩ := own_callS X0 hx hZ hown (hw _ (List.mem_of_getElem? (i := 1) rfl)) (hw _ (List.mem_of_getElem? (i := 2) rfl)) (hw _ (List.mem_of_getElem? (i := 3) rfl)) (hw _ (List.mem_of_getElem? (i := 4) rfl)) (by decide) (rm1_8 l Z a0 hw hA [] h0 n0 O0) (W := 0) (by decide) (by decide) [(.int (5 : Int32))] rfl (lenOf pd1 rfl) (Ls := #[.val (.int p0), .val (.int (5 : Int32)), .unset, .unset, .unset, .unset]) (by rw [hml]; rfl) (rest := []) (Nat.le_of_eq rfl) (hb hby at_9) e0 (by decide) (by decide)
    refine st13 _ ?_
    obtain ⟨rfl, N13q, e13⟩ := hQ13
    have N13 := Fr.app (Fr.nil n0) N13q
    show own_Wp p e below _ T13 (mkF m 12 #[.val (.int p0), .val (.int (5 : Int32)), .unset, .unset, .unset, .unset] [(.ref (w9_NDM Z))])
    refine own_step (fun _ k => XS.astoreN X13.here hx rfl (hb hby at_12) rfl rfl (l' := #[.val (.int p0), .val (.int (5 : Int32)), .val (.ref (w9_NDM Z)), .unset, .unset, .unset]) rfl k) ?_
    show own_Wp p e below _ T13 (mkF m 13 #[.val (.int p0), .val (.int (5 : Int32)), .val (.ref (w9_NDM Z)), .unset, .unset, .unset] [])
    refine own_step (fun _ k => XS.aloadN X13.here hx rfl (hb hby at_13) rfl rfl k) ?_
    show own_Wp p e below _ T13 (mkF m 14 #[.val (.int p0), .val (.int (5 : Int32)), .val (.ref (w9_NDM Z)), .unset, .unset, .unset] [(.ref (w9_NDM Z))])
    obtain ⟨_, T14, L14, X14, hQ14, st14⟩ := own_callV X13 hx hZ hown (hw _ (List.mem_of_getElem? (i := 8) rfl)) (hw _ (List.mem_of_getElem? (i := 9) rfl)) (notFace_of_selects (args := #[]) (mvT hZ (hw _ (List.mem_of_getElem? (i := 11) rfl)))) (hw _ (List.mem_of_getElem? (i := 11) rfl)) (hw _ (List.mem_of_getElem? (i := 10) rfl)) (hw _ (List.mem_of_getElem? (i := 6) rfl)) (hw _ (List.mem_of_getElem? (i := 12) rfl)) (by decide) ((ex_w9_NDM hw hA).ext O0.2) (rm2_1 l Z a0 hw hA [] (w9_NDM Z) h0 n0 O0 (Fld.ne (fl10 hw hA) (fl1 hw hA) (by decide)) (Fld.ne (fl10 hw hA) (fl2 hw hA) (by decide))) (W := 0) (by decide) (by decide) [] rfl (lenOf pd3 rfl) (Ls := #[.val (.int p0), .val (.int (5 : Int32)), .val (.ref (w9_NDM Z)), .unset, .unset, .unset]) (by rw [hml]; rfl) (rest := []) (Nat.le_of_eq rfl) (hb hby at_14) e13 (by decide) (by decide)
    refine st14 _ ?_
    obtain ⟨rfl, N14q, e14⟩ := hQ14
    have N14 := Fr.app N13 N14q
    show own_Wp p e below _ T14 (mkF m 17 #[.val (.int p0), .val (.int (5 : Int32)), .val (.ref (w9_NDM Z)), .unset, .unset, .unset] [(.int (0 : Int32))])
    refine own_step (fun _ k => XS.istoreN X14.here hx rfl (hb hby at_17) rfl (l' := #[.val (.int p0), .val (.int (5 : Int32)), .val (.ref (w9_NDM Z)), .val (.int (0 : Int32)), .unset, .unset]) rfl k) ?_
    show own_Wp p e below _ T14 (mkF m 18 #[.val (.int p0), .val (.int (5 : Int32)), .val (.ref (w9_NDM Z)), .val (.int (0 : Int32)), .unset, .unset] [])
    refine own_step (fun _ k => XS.iloadN X14.here hx rfl (hb hby at_18) rfl k) ?_
    show own_Wp p e below _ T14 (mkF m 19 #[.val (.int p0), .val (.int (5 : Int32)), .val (.ref (w9_NDM Z)), .val (.int (0 : Int32)), .unset, .unset] [(.int (5 : Int32))])
    refine own_step (fun _ k => XS.iconst X14.here hx rfl (hb hby at_19) k) ?_
    show own_Wp p e below _ T14 (mkF m 20 #[.val (.int p0), .val (.int (5 : Int32)), .val (.ref (w9_NDM Z)), .val (.int (0 : Int32)), .unset, .unset] [(.int (3 : Int32)), (.int (5 : Int32))])
    refine own_step (fun _ k => XS.icmpNo X14.here hx rfl (hb hby at_20) rfl (by decide) k) ?_
    show own_Wp p e below _ T14 (mkF m 23 #[.val (.int p0), .val (.int (5 : Int32)), .val (.ref (w9_NDM Z)), .val (.int (0 : Int32)), .unset, .unset] [])
    refine own_step (fun _ k => XS.iloadN X14.here hx rfl (hb hby at_23) rfl k) ?_
    show own_Wp p e below _ T14 (mkF m 24 #[.val (.int p0), .val (.int (5 : Int32)), .val (.ref (w9_NDM Z)), .val (.int (0 : Int32)), .unset, .unset] [(.int (5 : Int32))])
    refine own_step (fun _ k => XS.bipush X14.here hx rfl (hb hby at_24) k) ?_
    show own_Wp p e below _ T14 (mkF m 26 #[.val (.int p0), .val (.int (5 : Int32)), .val (.ref (w9_NDM Z)), .val (.int (0 : Int32)), .unset, .unset] [(.int (8 : Int32)), (.int (5 : Int32))])
    refine own_step (fun _ k => XS.icmpYes X14.here hx rfl (pc0 := 26) (pc' := 33) rfl (hb hby at_26) rfl (by decide) (by decide) (by decide) k) ?_
    show own_Wp p e below _ T14 (mkF m 33 #[.val (.int p0), .val (.int (5 : Int32)), .val (.ref (w9_NDM Z)), .val (.int (0 : Int32)), .unset, .unset] [])
    refine own_step (fun _ k => XS.iconst X14.here hx rfl (hb hby at_33) k) ?_
    show own_Wp p e below _ T14 (mkF m 34 #[.val (.int p0), .val (.int (5 : Int32)), .val (.ref (w9_NDM Z)), .val (.int (0 : Int32)), .unset, .unset] [(.int (0 : Int32))])
    refine own_step (fun _ k => XS.istore X14.here hx rfl (hb hby at_34) rfl (l' := #[.val (.int p0), .val (.int (5 : Int32)), .val (.ref (w9_NDM Z)), .val (.int (0 : Int32)), .val (.int (0 : Int32)), .unset]) rfl k) ?_
    show own_Wp p e below _ T14 (mkF m 36 #[.val (.int p0), .val (.int (5 : Int32)), .val (.ref (w9_NDM Z)), .val (.int (0 : Int32)), .val (.int (0 : Int32)), .unset] [])
    refine own_step (fun _ k => XS.iloadN X14.here hx rfl (hb hby at_36) rfl k) ?_
    show own_Wp p e below _ T14 (mkF m 37 #[.val (.int p0), .val (.int (5 : Int32)), .val (.ref (w9_NDM Z)), .val (.int (0 : Int32)), .val (.int (0 : Int32)), .unset] [(.int (0 : Int32))])
    refine own_step (fun _ k => XS.ifYes X14.here hx rfl (pc0 := 37) (pc' := 50) rfl (hb hby at_37) rfl (by decide) (by decide) (by decide) k) ?_
    show own_Wp p e below _ T14 (mkF m 50 #[.val (.int p0), .val (.int (5 : Int32)), .val (.ref (w9_NDM Z)), .val (.int (0 : Int32)), .val (.int (0 : Int32)), .unset] [])
    refine own_step (fun _ k => XS.iconst X14.here hx rfl (hb hby at_50) k) ?_
    show own_Wp p e below _ T14 (mkF m 51 #[.val (.int p0), .val (.int (5 : Int32)), .val (.ref (w9_NDM Z)), .val (.int (0 : Int32)), .val (.int (0 : Int32)), .unset] [(.int (1 : Int32))])
    refine own_step (fun _ k => XS.goto X14.here hx rfl (pc0 := 51) (pc' := 55) rfl (hb hby at_51) (by decide) (by decide) k) ?_
    show own_Wp p e below _ T14 (mkF m 55 #[.val (.int p0), .val (.int (5 : Int32)), .val (.ref (w9_NDM Z)), .val (.int (0 : Int32)), .val (.int (0 : Int32)), .unset] [(.int (1 : Int32))])
    refine own_step (fun _ k => XS.istore X14.here hx rfl (hb hby at_55) rfl (l' := #[.val (.int p0), .val (.int (5 : Int32)), .val (.ref (w9_NDM Z)), .val (.int (0 : Int32)), .val (.int (0 : Int32)), .val (.int (1 : Int32))]) rfl k) ?_
    show own_Wp p e below _ T14 (mkF m 57 #[.val (.int p0), .val (.int (5 : Int32)), .val (.ref (w9_NDM Z)), .val (.int (0 : Int32)), .val (.int (0 : Int32)), .val (.int (1 : Int32))] [])
    refine own_step (fun _ k => XS.iloadN X14.here hx rfl (hb hby at_57) rfl k) ?_
    show own_Wp p e below _ T14 (mkF m 58 #[.val (.int p0), .val (.int (5 : Int32)), .val (.ref (w9_NDM Z)), .val (.int (0 : Int32)), .val (.int (0 : Int32)), .val (.int (1 : Int32))] [(.int (0 : Int32))])
    refine own_step (fun _ k => XS.iload X14.here hx rfl (hb hby at_58) rfl k) ?_
    show own_Wp p e below _ T14 (mkF m 60 #[.val (.int p0), .val (.int (5 : Int32)), .val (.ref (w9_NDM Z)), .val (.int (0 : Int32)), .val (.int (0 : Int32)), .val (.int (1 : Int32))] [(.int (0 : Int32)), (.int (0 : Int32))])
    refine own_step (fun _ k => XS.icmpNo X14.here hx rfl (hb hby at_60) rfl (by decide) k) ?_
    show own_Wp p e below _ T14 (mkF m 63 #[.val (.int p0), .val (.int (5 : Int32)), .val (.ref (w9_NDM Z)), .val (.int (0 : Int32)), .val (.int (0 : Int32)), .val (.int (1 : Int32))] [])
    refine own_step (fun _ k => XS.iload X14.here hx rfl (hb hby at_63) rfl k) ?_
    show own_Wp p e below _ T14 (mkF m 65 #[.val (.int p0), .val (.int (5 : Int32)), .val (.ref (w9_NDM Z)), .val (.int (0 : Int32)), .val (.int (0 : Int32)), .val (.int (1 : Int32))] [(.int (1 : Int32))])
    refine own_step (fun _ k => XS.ifNo X14.here hx rfl (hb hby at_65) rfl (by decide) k) ?_
    show own_Wp p e below _ T14 (mkF m 68 #[.val (.int p0), .val (.int (5 : Int32)), .val (.ref (w9_NDM Z)), .val (.int (0 : Int32)), .val (.int (0 : Int32)), .val (.int (1 : Int32))] [])
    refine own_step (fun _ k => XS.iconst X14.here hx rfl (hb hby at_68) k) ?_
    show own_Wp p e below _ T14 (mkF m 69 #[.val (.int p0), .val (.int (5 : Int32)), .val (.ref (w9_NDM Z)), .val (.int (0 : Int32)), .val (.int (0 : Int32)), .val (.int (1 : Int32))] [(.int (1 : Int32))])
    refine own_step (fun _ k => XS.goto X14.here hx rfl (pc0 := 69) (pc' := 73) rfl (hb hby at_69) (by decide) (by decide) k) ?_
    show own_Wp p e below _ T14 (mkF m 73 #[.val (.int p0), .val (.int (5 : Int32)), .val (.ref (w9_NDM Z)), .val (.int (0 : Int32)), .val (.int (0 : Int32)), .val (.int (1 : Int32))] [(.int (1 : Int32))])
    exact own_retN X14 hx (t := .boolean) hret (by simp) hlk (hb hby at_73) (by decide) (by decide) ⟨rfl, N14⟩
  · skip
    rw [hm]
    show own_Wp p e below _ s₁ (mkF m 7 #[.val (.int p0), .unset, .unset, .unset, .unset, .unset] [(.int (6 : Int32))])
    refine own_step (fun _ k => XS.istoreN X0.here hx rfl (hb hby at_7) rfl (l' := #[.val (.int p0), .val (.int (6 : Int32)), .unset, .unset, .unset, .unset]) rfl k) ?_
    show own_Wp p e below _ s₁ (mkF m 8 #[.val (.int p0), .val (.int (6 : Int32)), .unset, .unset, .unset, .unset] [])
    refine own_step (fun _ k => XS.iloadN X0.here hx rfl (hb hby at_8) rfl k) ?_
    show own_Wp p e below _ s₁ (mkF m 9 #[.val (.int p0), .val (.int (6 : Int32)), .unset, .unset, .unset, .unset] [(.int (6 : Int32))])
    obtain ⟨_, T15, L15, X15, hQ15, st15⟩ := own_callS X0 hx hZ hown (hw _ (List.mem_of_getElem? (i := 1) rfl)) (hw _ (List.mem_of_getElem? (i := 2) rfl)) (hw _ (List.mem_of_getElem? (i := 3) rfl)) (hw _ (List.mem_of_getElem? (i := 4) rfl)) (by decide) (rm1_9 l Z a0 hw hA [] h0 n0 O0) (W := 0) (by decide) (by decide) [(.int (6 : Int32))] rfl (lenOf pd1 rfl) (Ls := #[.val (.int p0), .val (.int (6 : Int32)), .unset, .unset, .unset, .unset]) (by rw [hml]; rfl) (rest := []) (Nat.le_of_eq rfl) (hb hby at_9) e0 (by decide) (by decide)
    refine st15 _ ?_
    obtain ⟨rfl, N15q, e15⟩ := hQ15
    have N15 := Fr.app (Fr.nil n0) N15q
    show own_Wp p e below _ T15 (mkF m 12 #[.val (.int p0), .val (.int (6 : Int32)), .unset, .unset, .unset, .unset] [(.ref (w8_INCH_STORAGE_EXIT Z))])
    refine own_step (fun _ k => XS.astoreN X15.here hx rfl (hb hby at_12) rfl rfl (l' := #[.val (.int p0), .val (.int (6 : Int32)), .val (.ref (w8_INCH_STORAGE_EXIT Z)), .unset, .unset, .unset]) rfl k) ?_
    show own_Wp p e below _ T15 (mkF m 13 #[.val (.int p0), .val (.int (6 : Int32)), .val (.ref (w8_INCH_STORAGE_EXIT Z)), .unset, .unset, .unset] [])
    refine own_step (fun _ k => XS.aloadN X15.here hx rfl (hb hby at_13) rfl rfl k) ?_
    show own_Wp p e below _ T15 (mkF m 14 #[.val (.int p0), .val (.int (6 : Int32)), .val (.ref (w8_INCH_STORAGE_EXIT Z)), .unset, .unset, .unset] [(.ref (w8_INCH_STORAGE_EXIT Z))])
    obtain ⟨_, T16, L16, X16, hQ16, st16⟩ := own_callV X15 hx hZ hown (hw _ (List.mem_of_getElem? (i := 8) rfl)) (hw _ (List.mem_of_getElem? (i := 9) rfl)) (notFace_of_selects (args := #[]) (mvT hZ (hw _ (List.mem_of_getElem? (i := 11) rfl)))) (hw _ (List.mem_of_getElem? (i := 11) rfl)) (hw _ (List.mem_of_getElem? (i := 10) rfl)) (hw _ (List.mem_of_getElem? (i := 6) rfl)) (hw _ (List.mem_of_getElem? (i := 12) rfl)) (by decide) ((ex_w8_INCH_STORAGE_EXIT hw hA).ext O0.2) (rm2_1 l Z a0 hw hA [] (w8_INCH_STORAGE_EXIT Z) h0 n0 O0 (Fld.ne (fl9 hw hA) (fl1 hw hA) (by decide)) (Fld.ne (fl9 hw hA) (fl2 hw hA) (by decide))) (W := 0) (by decide) (by decide) [] rfl (lenOf pd3 rfl) (Ls := #[.val (.int p0), .val (.int (6 : Int32)), .val (.ref (w8_INCH_STORAGE_EXIT Z)), .unset, .unset, .unset]) (by rw [hml]; rfl) (rest := []) (Nat.le_of_eq rfl) (hb hby at_14) e15 (by decide) (by decide)
    refine st16 _ ?_
    obtain ⟨rfl, N16q, e16⟩ := hQ16
    have N16 := Fr.app N15 N16q
    show own_Wp p e below _ T16 (mkF m 17 #[.val (.int p0), .val (.int (6 : Int32)), .val (.ref (w8_INCH_STORAGE_EXIT Z)), .unset, .unset, .unset] [(.int (0 : Int32))])
    refine own_step (fun _ k => XS.istoreN X16.here hx rfl (hb hby at_17) rfl (l' := #[.val (.int p0), .val (.int (6 : Int32)), .val (.ref (w8_INCH_STORAGE_EXIT Z)), .val (.int (0 : Int32)), .unset, .unset]) rfl k) ?_
    show own_Wp p e below _ T16 (mkF m 18 #[.val (.int p0), .val (.int (6 : Int32)), .val (.ref (w8_INCH_STORAGE_EXIT Z)), .val (.int (0 : Int32)), .unset, .unset] [])
    refine own_step (fun _ k => XS.iloadN X16.here hx rfl (hb hby at_18) rfl k) ?_
    show own_Wp p e below _ T16 (mkF m 19 #[.val (.int p0), .val (.int (6 : Int32)), .val (.ref (w8_INCH_STORAGE_EXIT Z)), .val (.int (0 : Int32)), .unset, .unset] [(.int (6 : Int32))])
    refine own_step (fun _ k => XS.iconst X16.here hx rfl (hb hby at_19) k) ?_
    show own_Wp p e below _ T16 (mkF m 20 #[.val (.int p0), .val (.int (6 : Int32)), .val (.ref (w8_INCH_STORAGE_EXIT Z)), .val (.int (0 : Int32)), .unset, .unset] [(.int (3 : Int32)), (.int (6 : Int32))])
    refine own_step (fun _ k => XS.icmpNo X16.here hx rfl (hb hby at_20) rfl (by decide) k) ?_
    show own_Wp p e below _ T16 (mkF m 23 #[.val (.int p0), .val (.int (6 : Int32)), .val (.ref (w8_INCH_STORAGE_EXIT Z)), .val (.int (0 : Int32)), .unset, .unset] [])
    refine own_step (fun _ k => XS.iloadN X16.here hx rfl (hb hby at_23) rfl k) ?_
    show own_Wp p e below _ T16 (mkF m 24 #[.val (.int p0), .val (.int (6 : Int32)), .val (.ref (w8_INCH_STORAGE_EXIT Z)), .val (.int (0 : Int32)), .unset, .unset] [(.int (6 : Int32))])
    refine own_step (fun _ k => XS.bipush X16.here hx rfl (hb hby at_24) k) ?_
    show own_Wp p e below _ T16 (mkF m 26 #[.val (.int p0), .val (.int (6 : Int32)), .val (.ref (w8_INCH_STORAGE_EXIT Z)), .val (.int (0 : Int32)), .unset, .unset] [(.int (8 : Int32)), (.int (6 : Int32))])
    refine own_step (fun _ k => XS.icmpYes X16.here hx rfl (pc0 := 26) (pc' := 33) rfl (hb hby at_26) rfl (by decide) (by decide) (by decide) k) ?_
    show own_Wp p e below _ T16 (mkF m 33 #[.val (.int p0), .val (.int (6 : Int32)), .val (.ref (w8_INCH_STORAGE_EXIT Z)), .val (.int (0 : Int32)), .unset, .unset] [])
    refine own_step (fun _ k => XS.iconst X16.here hx rfl (hb hby at_33) k) ?_
    show own_Wp p e below _ T16 (mkF m 34 #[.val (.int p0), .val (.int (6 : Int32)), .val (.ref (w8_INCH_STORAGE_EXIT Z)), .val (.int (0 : Int32)), .unset, .unset] [(.int (0 : Int32))])
    refine own_step (fun _ k => XS.istore X16.here hx rfl (hb hby at_34) rfl (l' := #[.val (.int p0), .val (.int (6 : Int32)), .val (.ref (w8_INCH_STORAGE_EXIT Z)), .val (.int (0 : Int32)), .val (.int (0 : Int32)), .unset]) rfl k) ?_
    show own_Wp p e below _ T16 (mkF m 36 #[.val (.int p0), .val (.int (6 : Int32)), .val (.ref (w8_INCH_STORAGE_EXIT Z)), .val (.int (0 : Int32)), .val (.int (0 : Int32)), .unset] [])
    refine own_step (fun _ k => XS.iloadN X16.here hx rfl (hb hby at_36) rfl k) ?_
    show own_Wp p e below _ T16 (mkF m 37 #[.val (.int p0), .val (.int (6 : Int32)), .val (.ref (w8_INCH_STORAGE_EXIT Z)), .val (.int (0 : Int32)), .val (.int (0 : Int32)), .unset] [(.int (0 : Int32))])
    refine own_step (fun _ k => XS.ifYes X16.here hx rfl (pc0 := 37) (pc' := 50) rfl (hb hby at_37) rfl (by decide) (by decide) (by decide) k) ?_
    show own_Wp p e below _ T16 (mkF m 50 #[.val (.int p0), .val (.int (6 : Int32)), .val (.ref (w8_INCH_STORAGE_EXIT Z)), .val (.int (0 : Int32)), .val (.int (0 : Int32)), .unset] [])
    refine own_step (fun _ k => XS.iconst X16.here hx rfl (hb hby at_50) k) ?_
    show own_Wp p e below _ T16 (mkF m 51 #[.val (.int p0), .val (.int (6 : Int32)), .val (.ref (w8_INCH_STORAGE_EXIT Z)), .val (.int (0 : Int32)), .val (.int (0 : Int32)), .unset] [(.int (1 : Int32))])
    refine own_step (fun _ k => XS.goto X16.here hx rfl (pc0 := 51) (pc' := 55) rfl (hb hby at_51) (by decide) (by decide) k) ?_
    show own_Wp p e below _ T16 (mkF m 55 #[.val (.int p0), .val (.int (6 : Int32)), .val (.ref (w8_INCH_STORAGE_EXIT Z)), .val (.int (0 : Int32)), .val (.int (0 : Int32)), .unset] [(.int (1 : Int32))])
    refine own_step (fun _ k => XS.istore X16.here hx rfl (hb hby at_55) rfl (l' := #[.val (.int p0), .val (.int (6 : Int32)), .val (.ref (w8_INCH_STORAGE_EXIT Z)), .val (.int (0 : Int32)), .val (.int (0 : Int32)), .val (.int (1 : Int32))]) rfl k) ?_
    show own_Wp p e below _ T16 (mkF m 57 #[.val (.int p0), .val (.int (6 : Int32)), .val (.ref (w8_INCH_STORAGE_EXIT Z)), .val (.int (0 : Int32)), .val (.int (0 : Int32)), .val (.int (1 : Int32))] [])
    refine own_step (fun _ k => XS.iloadN X16.here hx rfl (hb hby at_57) rfl k) ?_
    show own_Wp p e below _ T16 (mkF m 58 #[.val (.int p0), .val (.int (6 : Int32)), .val (.ref (w8_INCH_STORAGE_EXIT Z)), .val (.int (0 : Int32)), .val (.int (0 : Int32)), .val (.int (1 : Int32))] [(.int (0 : Int32))])
    refine own_step (fun _ k => XS.iload X16.here hx rfl (hb hby at_58) rfl k) ?_
    show own_Wp p e below _ T16 (mkF m 60 #[.val (.int p0), .val (.int (6 : Int32)), .val (.ref (w8_INCH_STORAGE_EXIT Z)), .val (.int (0 : Int32)), .val (.int (0 : Int32)), .val (.int (1 : Int32))] [(.int (0 : Int32)), (.int (0 : Int32))])
    refine own_step (fun _ k => XS.icmpNo X16.here hx rfl (hb hby at_60) rfl (by decide) k) ?_
    show own_Wp p e below _ T16 (mkF m 63 #[.val (.int p0), .val (.int (6 : Int32)), .val (.ref (w8_INCH_STORAGE_EXIT Z)), .val (.int (0 : Int32)), .val (.int (0 : Int32)), .val (.int (1 : Int32))] [])
    refine own_step (fun _ k => XS.iload X16.here hx rfl (hb hby at_63) rfl k) ?_
    show own_Wp p e below _ T16 (mkF m 65 #[.val (.int p0), .val (.int (6 : Int32)), .val (.ref (w8_INCH_STORAGE_EXIT Z)), .val (.int (0 : Int32)), .val (.int (0 : Int32)), .val (.int (1 : Int32))] [(.int (1 : Int32))])
    refine own_step (fun _ k => XS.ifNo X16.here hx rfl (hb hby at_65) rfl (by decide) k) ?_
    show own_Wp p e below _ T16 (mkF m 68 #[.val (.int p0), .val (.int (6 : Int32)), .val (.ref (w8_INCH_STORAGE_EXIT Z)), .val (.int (0 : Int32)), .val (.int (0 : Int32)), .val (.int (1 : Int32))] [])
    refine own_step (fun _ k => XS.iconst X16.here hx rfl (hb hby at_68) k) ?_
    show own_Wp p e below _ T16 (mkF m 69 #[.val (.int p0), .val (.int (6 : Int32)), .val (.ref (w8_INCH_STORAGE_EXIT Z)), .val (.int (0 : Int32)), .val (.int (0 : Int32)), .val (.int (1 : Int32))] [(.int (1 : Int32))])
    refine own_step (fun _ k => XS.goto X16.here hx rfl (pc0 := 69) (pc' := 73) rfl (hb hby at_69) (by decide) (by decide) k) ?_
    show own_Wp p e below _ T16 (mkF m 73 #[.val (.int p0), .val (.int (6 : Int32)), .val (.ref (w8_INCH_STORAGE_EXIT Z)), .val (.int (0 : Int32)), .val (.int (0 : Int32)), .val (.int (1 : Int32))] [(.int (1 : Int32))])
    exact own_retN X16 hx (t := .boolean) hret (by simp) hlk (hb hby at_73) (by decide) (by decide) ⟨rfl, N16⟩
  · skip
    rw [hm]
    show own_Wp p e below _ s₁ (mkF m 7 #[.val (.int p0), .unset, .unset, .unset, .unset, .unset] [(.int (7 : Int32))])
    refine own_step (fun _ k => XS.istoreN X0.here hx rfl (hb hby at_7) rfl (l' := #[.val (.int p0), .val (.int (7 : Int32)), .unset, .unset, .unset, .unset]) rfl k) ?_
    show own_Wp p e below _ s₁ (mkF m 8 #[.val (.int p0), .val (.int (7 : Int32)), .unset, .unset, .unset, .unset] [])
    refine own_step (fun _ k => XS.iloadN X0.here hx rfl (hb hby at_8) rfl k) ?_
    show own_Wp p e below _ s₁ (mkF m 9 #[.val (.int p0), .val (.int (7 : Int32)), .unset, .unset, .unset, .unset] [(.int (7 : Int32))])
    obtain ⟨_, T17, L17, X17, hQ17, st17⟩ := own_callS X0 hx hZ hown (hw _ (List.mem_of_getElem? (i := 1) rfl)) (hw _ (List.mem_of_getElem? (i := 2) rfl)) (hw _ (List.mem_of_getElem? (i := 3) rfl)) (hw _ (List.mem_of_getElem? (i := 4) rfl)) (by decide) (rm1_10 l Z a0 hw hA [] h0 n0 O0) (W := 0) (by decide) (by decide) [(.int (7 : Int32))] rfl (lenOf pd1 rfl) (Ls := #[.val (.int p0), .val (.int (7 : Int32)), .unset, .unset, .unset, .unset]) (by rw [hml]; rfl) (rest := []) (Nat.le_of_eq rfl) (hb hby at_9) e0 (by decide) (by decide)
    refine st17 _ ?_
    obtain ⟨rfl, N17q, e17⟩ := hQ17
    have N17 := Fr.app (Fr.nil n0) N17q
    show own_Wp p e below _ T17 (mkF m 12 #[.val (.int p0), .val (.int (7 : Int32)), .unset, .unset, .unset, .unset] [(.ref (w6_SN_IP Z))])
    refine own_step (fun _ k => XS.astoreN X17.here hx rfl (hb hby at_12) rfl rfl (l' := #[.val (.int p0), .val (.int (7 : Int32)), .val (.ref (w6_SN_IP Z)), .unset, .unset, .unset]) rfl k) ?_
    show own_Wp p e below _ T17 (mkF m 13 #[.val (.int p0), .val (.int (7 : Int32)), .val (.ref (w6_SN_IP Z)), .unset, .unset, .unset] [])
    refine own_step (fun _ k => XS.aloadN X17.here hx rfl (hb hby at_13) rfl rfl k) ?_
    show own_Wp p e below _ T17 (mkF m 14 #[.val (.int p0), .val (.int (7 : Int32)), .val (.ref (w6_SN_IP Z)), .unset, .unset, .unset] [(.ref (w6_SN_IP Z))])
    obtain ⟨_, T18, L18, X18, hQ18, st18⟩ := own_callV X17 hx hZ hown (hw _ (List.mem_of_getElem? (i := 8) rfl)) (hw _ (List.mem_of_getElem? (i := 9) rfl)) (notFace_of_selects (args := #[]) (mvT hZ (hw _ (List.mem_of_getElem? (i := 11) rfl)))) (hw _ (List.mem_of_getElem? (i := 11) rfl)) (hw _ (List.mem_of_getElem? (i := 10) rfl)) (hw _ (List.mem_of_getElem? (i := 6) rfl)) (hw _ (List.mem_of_getElem? (i := 12) rfl)) (by decide) ((ex_w6_SN_IP hw hA).ext O0.2) (rm2_1 l Z a0 hw hA [] (w6_SN_IP Z) h0 n0 O0 (Fld.ne (fl6 hw hA) (fl1 hw hA) (by decide)) (Fld.ne (fl6 hw hA) (fl2 hw hA) (by decide))) (W := 0) (by decide) (by decide) [] rfl (lenOf pd3 rfl) (Ls := #[.val (.int p0), .val (.int (7 : Int32)), .val (.ref (w6_SN_IP Z)), .unset, .unset, .unset]) (by rw [hml]; rfl) (rest := []) (Nat.le_of_eq rfl) (hb hby at_14) e17 (by decide) (by decide)
    refine st18 _ ?_
    obtain ⟨rfl, N18q, e18⟩ := hQ18
    have N18 := Fr.app N17 N18q
    show own_Wp p e below _ T18 (mkF m 17 #[.val (.int p0), .val (.int (7 : Int32)), .val (.ref (w6_SN_IP Z)), .unset, .unset, .unset] [(.int (0 : Int32))])
    refine own_step (fun _ k => XS.istoreN X18.here hx rfl (hb hby at_17) rfl (l' := #[.val (.int p0), .val (.int (7 : Int32)), .val (.ref (w6_SN_IP Z)), .val (.int (0 : Int32)), .unset, .unset]) rfl k) ?_
    show own_Wp p e below _ T18 (mkF m 18 #[.val (.int p0), .val (.int (7 : Int32)), .val (.ref (w6_SN_IP Z)), .val (.int (0 : Int32)), .unset, .unset] [])
    refine own_step (fun _ k => XS.iloadN X18.here hx rfl (hb hby at_18) rfl k) ?_
    show own_Wp p e below _ T18 (mkF m 19 #[.val (.int p0), .val (.int (7 : Int32)), .val (.ref (w6_SN_IP Z)), .val (.int (0 : Int32)), .unset, .unset] [(.int (7 : Int32))])
    refine own_step (fun _ k => XS.iconst X18.here hx rfl (hb hby at_19) k) ?_
    show own_Wp p e below _ T18 (mkF m 20 #[.val (.int p0), .val (.int (7 : Int32)), .val (.ref (w6_SN_IP Z)), .val (.int (0 : Int32)), .unset, .unset] [(.int (3 : Int32)), (.int (7 : Int32))])
    refine own_step (fun _ k => XS.icmpNo X18.here hx rfl (hb hby at_20) rfl (by decide) k) ?_
    show own_Wp p e below _ T18 (mkF m 23 #[.val (.int p0), .val (.int (7 : Int32)), .val (.ref (w6_SN_IP Z)), .val (.int (0 : Int32)), .unset, .unset] [])
    refine own_step (fun _ k => XS.iloadN X18.here hx rfl (hb hby at_23) rfl k) ?_
    show own_Wp p e below _ T18 (mkF m 24 #[.val (.int p0), .val (.int (7 : Int32)), .val (.ref (w6_SN_IP Z)), .val (.int (0 : Int32)), .unset, .unset] [(.int (7 : Int32))])
    refine own_step (fun _ k => XS.bipush X18.here hx rfl (hb hby at_24) k) ?_
    show own_Wp p e below _ T18 (mkF m 26 #[.val (.int p0), .val (.int (7 : Int32)), .val (.ref (w6_SN_IP Z)), .val (.int (0 : Int32)), .unset, .unset] [(.int (8 : Int32)), (.int (7 : Int32))])
    refine own_step (fun _ k => XS.icmpYes X18.here hx rfl (pc0 := 26) (pc' := 33) rfl (hb hby at_26) rfl (by decide) (by decide) (by decide) k) ?_
    show own_Wp p e below _ T18 (mkF m 33 #[.val (.int p0), .val (.int (7 : Int32)), .val (.ref (w6_SN_IP Z)), .val (.int (0 : Int32)), .unset, .unset] [])
    refine own_step (fun _ k => XS.iconst X18.here hx rfl (hb hby at_33) k) ?_
    show own_Wp p e below _ T18 (mkF m 34 #[.val (.int p0), .val (.int (7 : Int32)), .val (.ref (w6_SN_IP Z)), .val (.int (0 : Int32)), .unset, .unset] [(.int (0 : Int32))])
    refine own_step (fun _ k => XS.istore X18.here hx rfl (hb hby at_34) rfl (l' := #[.val (.int p0), .val (.int (7 : Int32)), .val (.ref (w6_SN_IP Z)), .val (.int (0 : Int32)), .val (.int (0 : Int32)), .unset]) rfl k) ?_
    show own_Wp p e below _ T18 (mkF m 36 #[.val (.int p0), .val (.int (7 : Int32)), .val (.ref (w6_SN_IP Z)), .val (.int (0 : Int32)), .val (.int (0 : Int32)), .unset] [])
    refine own_step (fun _ k => XS.iloadN X18.here hx rfl (hb hby at_36) rfl k) ?_
    show own_Wp p e below _ T18 (mkF m 37 #[.val (.int p0), .val (.int (7 : Int32)), .val (.ref (w6_SN_IP Z)), .val (.int (0 : Int32)), .val (.int (0 : Int32)), .unset] [(.int (0 : Int32))])
    refine own_step (fun _ k => XS.ifYes X18.here hx rfl (pc0 := 37) (pc' := 50) rfl (hb hby at_37) rfl (by decide) (by decide) (by decide) k) ?_
    show own_Wp p e below _ T18 (mkF m 50 #[.val (.int p0), .val (.int (7 : Int32)), .val (.ref (w6_SN_IP Z)), .val (.int (0 : Int32)), .val (.int (0 : Int32)), .unset] [])
    refine own_step (fun _ k => XS.iconst X18.here hx rfl (hb hby at_50) k) ?_
    show own_Wp p e below _ T18 (mkF m 51 #[.val (.int p0), .val (.int (7 : Int32)), .val (.ref (w6_SN_IP Z)), .val (.int (0 : Int32)), .val (.int (0 : Int32)), .unset] [(.int (1 : Int32))])
    refine own_step (fun _ k => XS.goto X18.here hx rfl (pc0 := 51) (pc' := 55) rfl (hb hby at_51) (by decide) (by decide) k) ?_
    show own_Wp p e below _ T18 (mkF m 55 #[.val (.int p0), .val (.int (7 : Int32)), .val (.ref (w6_SN_IP Z)), .val (.int (0 : Int32)), .val (.int (0 : Int32)), .unset] [(.int (1 : Int32))])
    refine own_step (fun _ k => XS.istore X18.here hx rfl (hb hby at_55) rfl (l' := #[.val (.int p0), .val (.int (7 : Int32)), .val (.ref (w6_SN_IP Z)), .val (.int (0 : Int32)), .val (.int (0 : Int32)), .val (.int (1 : Int32))]) rfl k) ?_
    show own_Wp p e below _ T18 (mkF m 57 #[.val (.int p0), .val (.int (7 : Int32)), .val (.ref (w6_SN_IP Z)), .val (.int (0 : Int32)), .val (.int (0 : Int32)), .val (.int (1 : Int32))] [])
    refine own_step (fun _ k => XS.iloadN X18.here hx rfl (hb hby at_57) rfl k) ?_
    show own_Wp p e below _ T18 (mkF m 58 #[.val (.int p0), .val (.int (7 : Int32)), .val (.ref (w6_SN_IP Z)), .val (.int (0 : Int32)), .val (.int (0 : Int32)), .val (.int (1 : Int32))] [(.int (0 : Int32))])
    refine own_step (fun _ k => XS.iload X18.here hx rfl (hb hby at_58) rfl k) ?_
    show own_Wp p e below _ T18 (mkF m 60 #[.val (.int p0), .val (.int (7 : Int32)), .val (.ref (w6_SN_IP Z)), .val (.int (0 : Int32)), .val (.int (0 : Int32)), .val (.int (1 : Int32))] [(.int (0 : Int32)), (.int (0 : Int32))])
    refine own_step (fun _ k => XS.icmpNo X18.here hx rfl (hb hby at_60) rfl (by decide) k) ?_
    show own_Wp p e below _ T18 (mkF m 63 #[.val (.int p0), .val (.int (7 : Int32)), .val (.ref (w6_SN_IP Z)), .val (.int (0 : Int32)), .val (.int (0 : Int32)), .val (.int (1 : Int32))] [])
    refine own_step (fun _ k => XS.iload X18.here hx rfl (hb hby at_63) rfl k) ?_
    show own_Wp p e below _ T18 (mkF m 65 #[.val (.int p0), .val (.int (7 : Int32)), .val (.ref (w6_SN_IP Z)), .val (.int (0 : Int32)), .val (.int (0 : Int32)), .val (.int (1 : Int32))] [(.int (1 : Int32))])
    refine own_step (fun _ k => XS.ifNo X18.here hx rfl (hb hby at_65) rfl (by decide) k) ?_
    show own_Wp p e below _ T18 (mkF m 68 #[.val (.int p0), .val (.int (7 : Int32)), .val (.ref (w6_SN_IP Z)), .val (.int (0 : Int32)), .val (.int (0 : Int32)), .val (.int (1 : Int32))] [])
    refine own_step (fun _ k => XS.iconst X18.here hx rfl (hb hby at_68) k) ?_
    show own_Wp p e below _ T18 (mkF m 69 #[.val (.int p0), .val (.int (7 : Int32)), .val (.ref (w6_SN_IP Z)), .val (.int (0 : Int32)), .val (.int (0 : Int32)), .val (.int (1 : Int32))] [(.int (1 : Int32))])
    refine own_step (fun _ k => XS.goto X18.here hx rfl (pc0 := 69) (pc' := 73) rfl (hb hby at_69) (by decide) (by decide) k) ?_
    show own_Wp p e below _ T18 (mkF m 73 #[.val (.int p0), .val (.int (7 : Int32)), .val (.ref (w6_SN_IP Z)), .val (.int (0 : Int32)), .val (.int (0 : Int32)), .val (.int (1 : Int32))] [(.int (1 : Int32))])
    exact own_retN X18 hx (t := .boolean) hret (by simp) hlk (hb hby at_73) (by decide) (by decide) ⟨rfl, N18⟩
  · skip
    rw [hm]
    show own_Wp p e below _ s₁ (mkF m 7 #[.val (.int p0), .unset, .unset, .unset, .unset, .unset] [(.int (8 : Int32))])
    refine own_step (fun _ k => XS.istoreN X0.here hx rfl (hb hby at_7) rfl (l' := #[.val (.int p0), .val (.int (8 : Int32)), .unset, .unset, .unset, .unset]) rfl k) ?_
    show own_Wp p e below _ s₁ (mkF m 8 #[.val (.int p0), .val (.int (8 : Int32)), .unset, .unset, .unset, .unset] [])
    refine own_step (fun _ k => XS.iloadN X0.here hx rfl (hb hby at_8) rfl k) ?_
    show own_Wp p e below _ s₁ (mkF m 9 #[.val (.int p0), .val (.int (8 : Int32)), .unset, .unset, .unset, .unset] [(.int (8 : Int32))])
    obtain ⟨_, T19, L19, X19, hQ19, st19⟩ := own_callS X0 hx hZ hown (hw _ (List.mem_of_getElem? (i := 1) rfl)) (hw _ (List.mem_of_getElem? (i := 2) rfl)) (hw _ (List.mem_of_getElem? (i := 3) rfl)) (hw _ (List.mem_of_getElem? (i := 4) rfl)) (by decide) (rm1_11 l Z a0 hw hA [] h0 n0 O0) (W := 0) (by decide) (by decide) [(.int (8 : Int32))] rfl (lenOf pd1 rfl) (Ls := #[.val (.int p0), .val (.int (8 : Int32)), .unset, .unset, .unset, .unset]) (by rw [hml]; rfl) (rest := []) (Nat.le_of_eq rfl) (hb hby at_9) e0 (by decide) (by decide)
    refine st19 _ ?_
    obtain ⟨rfl, N19q, e19⟩ := hQ19
    have N19 := Fr.app (Fr.nil n0) N19q
    show own_Wp p e below _ T19 (mkF m 12 #[.val (.int p0), .val (.int (8 : Int32)), .unset, .unset, .unset, .unset] [(.ref (w2_SUBSEA_IC Z))])
    refine own_step (fun _ k => XS.astoreN X19.here hx rfl (hb hby at_12) rfl rfl (l' := #[.val (.int p0), .val (.int (8 : Int32)), .val (.ref (w2_SUBSEA_IC Z)), .unset, .unset, .unset]) rfl k) ?_
    show own_Wp p e below _ T19 (mkF m 13 #[.val (.int p0), .val (.int (8 : Int32)), .val (.ref (w2_SUBSEA_IC Z)), .unset, .unset, .unset] [])
    refine own_step (fun _ k => XS.aloadN X19.here hx rfl (hb hby at_13) rfl rfl k) ?_
    show own_Wp p e below _ T19 (mkF m 14 #[.val (.int p0), .val (.int (8 : Int32)), .val (.ref (w2_SUBSEA_IC Z)), .unset, .unset, .unset] [(.ref (w2_SUBSEA_IC Z))])
    obtain ⟨_, T20, L20, X20, hQ20, st20⟩ := own_callV X19 hx hZ hown (hw _ (List.mem_of_getElem? (i := 8) rfl)) (hw _ (List.mem_of_getElem? (i := 9) rfl)) (notFace_of_selects (args := #[]) (mvT hZ (hw _ (List.mem_of_getElem? (i := 11) rfl)))) (hw _ (List.mem_of_getElem? (i := 11) rfl)) (hw _ (List.mem_of_getElem? (i := 10) rfl)) (hw _ (List.mem_of_getElem? (i := 6) rfl)) (hw _ (List.mem_of_getElem? (i := 12) rfl)) (by decide) ((ex_w2_SUBSEA_IC hw hA).ext O0.2) (rm2_12 l Z a0 hw hA [] h0 n0 O0) (W := 0) (by decide) (by decide) [] rfl (lenOf pd3 rfl) (Ls := #[.val (.int p0), .val (.int (8 : Int32)), .val (.ref (w2_SUBSEA_IC Z)), .unset, .unset, .unset]) (by rw [hml]; rfl) (rest := []) (Nat.le_of_eq rfl) (hb hby at_14) e19 (by decide) (by decide)
    refine st20 _ ?_
    obtain ⟨rfl, N20q, e20⟩ := hQ20
    have N20 := Fr.app N19 N20q
    show own_Wp p e below _ T20 (mkF m 17 #[.val (.int p0), .val (.int (8 : Int32)), .val (.ref (w2_SUBSEA_IC Z)), .unset, .unset, .unset] [(.int (1 : Int32))])
    refine own_step (fun _ k => XS.istoreN X20.here hx rfl (hb hby at_17) rfl (l' := #[.val (.int p0), .val (.int (8 : Int32)), .val (.ref (w2_SUBSEA_IC Z)), .val (.int (1 : Int32)), .unset, .unset]) rfl k) ?_
    show own_Wp p e below _ T20 (mkF m 18 #[.val (.int p0), .val (.int (8 : Int32)), .val (.ref (w2_SUBSEA_IC Z)), .val (.int (1 : Int32)), .unset, .unset] [])
    refine own_step (fun _ k => XS.iloadN X20.here hx rfl (hb hby at_18) rfl k) ?_
    show own_Wp p e below _ T20 (mkF m 19 #[.val (.int p0), .val (.int (8 : Int32)), .val (.ref (w2_SUBSEA_IC Z)), .val (.int (1 : Int32)), .unset, .unset] [(.int (8 : Int32))])
    refine own_step (fun _ k => XS.iconst X20.here hx rfl (hb hby at_19) k) ?_
    show own_Wp p e below _ T20 (mkF m 20 #[.val (.int p0), .val (.int (8 : Int32)), .val (.ref (w2_SUBSEA_IC Z)), .val (.int (1 : Int32)), .unset, .unset] [(.int (3 : Int32)), (.int (8 : Int32))])
    refine own_step (fun _ k => XS.icmpNo X20.here hx rfl (hb hby at_20) rfl (by decide) k) ?_
    show own_Wp p e below _ T20 (mkF m 23 #[.val (.int p0), .val (.int (8 : Int32)), .val (.ref (w2_SUBSEA_IC Z)), .val (.int (1 : Int32)), .unset, .unset] [])
    refine own_step (fun _ k => XS.iloadN X20.here hx rfl (hb hby at_23) rfl k) ?_
    show own_Wp p e below _ T20 (mkF m 24 #[.val (.int p0), .val (.int (8 : Int32)), .val (.ref (w2_SUBSEA_IC Z)), .val (.int (1 : Int32)), .unset, .unset] [(.int (8 : Int32))])
    refine own_step (fun _ k => XS.bipush X20.here hx rfl (hb hby at_24) k) ?_
    show own_Wp p e below _ T20 (mkF m 26 #[.val (.int p0), .val (.int (8 : Int32)), .val (.ref (w2_SUBSEA_IC Z)), .val (.int (1 : Int32)), .unset, .unset] [(.int (8 : Int32)), (.int (8 : Int32))])
    refine own_step (fun _ k => XS.icmpNo X20.here hx rfl (hb hby at_26) rfl (by decide) k) ?_
    show own_Wp p e below _ T20 (mkF m 29 #[.val (.int p0), .val (.int (8 : Int32)), .val (.ref (w2_SUBSEA_IC Z)), .val (.int (1 : Int32)), .unset, .unset] [])
    refine own_step (fun _ k => XS.iconst X20.here hx rfl (hb hby at_29) k) ?_
    show own_Wp p e below _ T20 (mkF m 30 #[.val (.int p0), .val (.int (8 : Int32)), .val (.ref (w2_SUBSEA_IC Z)), .val (.int (1 : Int32)), .unset, .unset] [(.int (1 : Int32))])
    refine own_step (fun _ k => XS.goto X20.here hx rfl (pc0 := 30) (pc' := 34) rfl (hb hby at_30) (by decide) (by decide) k) ?_
    show own_Wp p e below _ T20 (mkF m 34 #[.val (.int p0), .val (.int (8 : Int32)), .val (.ref (w2_SUBSEA_IC Z)), .val (.int (1 : Int32)), .unset, .unset] [(.int (1 : Int32))])
    refine own_step (fun _ k => XS.istore X20.here hx rfl (hb hby at_34) rfl (l' := #[.val (.int p0), .val (.int (8 : Int32)), .val (.ref (w2_SUBSEA_IC Z)), .val (.int (1 : Int32)), .val (.int (1 : Int32)), .unset]) rfl k) ?_
    show own_Wp p e below _ T20 (mkF m 36 #[.val (.int p0), .val (.int (8 : Int32)), .val (.ref (w2_SUBSEA_IC Z)), .val (.int (1 : Int32)), .val (.int (1 : Int32)), .unset] [])
    refine own_step (fun _ k => XS.iloadN X20.here hx rfl (hb hby at_36) rfl k) ?_
    show own_Wp p e below _ T20 (mkF m 37 #[.val (.int p0), .val (.int (8 : Int32)), .val (.ref (w2_SUBSEA_IC Z)), .val (.int (1 : Int32)), .val (.int (1 : Int32)), .unset] [(.int (1 : Int32))])
    refine own_step (fun _ k => XS.ifNo X20.here hx rfl (hb hby at_37) rfl (by decide) k) ?_
    show own_Wp p e below _ T20 (mkF m 40 #[.val (.int p0), .val (.int (8 : Int32)), .val (.ref (w2_SUBSEA_IC Z)), .val (.int (1 : Int32)), .val (.int (1 : Int32)), .unset] [])
    refine own_step (fun _ k => XS.aloadN X20.here hx rfl (hb hby at_40) rfl rfl k) ?_
    show own_Wp p e below _ T20 (mkF m 41 #[.val (.int p0), .val (.int (8 : Int32)), .val (.ref (w2_SUBSEA_IC Z)), .val (.int (1 : Int32)), .val (.int (1 : Int32)), .unset] [(.ref (w2_SUBSEA_IC Z))])
    obtain ⟨_, T21, L21, X21, hQ21, st21⟩ := own_callV X20 hx hZ hown (hw _ (List.mem_of_getElem? (i := 18) rfl)) (hw _ (List.mem_of_getElem? (i := 19) rfl)) (notFace_of_selects (args := #[]) (mvT hZ (hw _ (List.mem_of_getElem? (i := 21) rfl)))) (hw _ (List.mem_of_getElem? (i := 21) rfl)) (hw _ (List.mem_of_getElem? (i := 20) rfl)) (hw _ (List.mem_of_getElem? (i := 6) rfl)) (hw _ (List.mem_of_getElem? (i := 22) rfl)) (by decide) ((ex_w2_SUBSEA_IC hw hA).ext O0.2) (rm3_6 l Z a0 hw hA [] (w2_SUBSEA_IC Z) h0 n0 O0 (fl8 hw hA)) (W := 0) (by decide) (by decide) [] rfl (lenOf pd4 rfl) (Ls := #[.val (.int p0), .val (.int (8 : Int32)), .val (.ref (w2_SUBSEA_IC Z)), .val (.int (1 : Int32)), .val (.int (1 : Int32)), .unset]) (by rw [hml]; rfl) (rest := []) (Nat.le_of_eq rfl) (hb hby at_41) e20 (by decide) (by decide)
    refine st21 _ ?_
    obtain ⟨rfl, N21q, e21⟩ := hQ21
    have N21 := Fr.app N20 N21q
    show own_Wp p e below _ T21 (mkF m 44 #[.val (.int p0), .val (.int (8 : Int32)), .val (.ref (w2_SUBSEA_IC Z)), .val (.int (1 : Int32)), .val (.int (1 : Int32)), .unset] [(.ref (w3_EXIT Z))])
    obtain ⟨T22, X22, e22, st22⟩ := getS2 X21 hx hZ hown (host := "") (Or.inl (hw _ (List.mem_of_getElem? (i := 27) rfl))) Via.refl e21 ((st_w3_EXIT hw hA).ext O0.2) (g := (mkF m 44 #[.val (.int p0), .val (.int (8 : Int32)), .val (.ref (w2_SUBSEA_IC Z)), .val (.int (1 : Int32)), .val (.int (1 : Int32)), .unset] [(.ref (w3_EXIT Z))])) rfl (hb hby at_44)
    refine own_step st22 ?_
    show own_Wp p e below _ T22 (mkF m 47 #[.val (.int p0), .val (.int (8 : Int32)), .val (.ref (w2_SUBSEA_IC Z)), .val (.int (1 : Int32)), .val (.int (1 : Int32)), .unset] [(.ref (w3_EXIT Z)), (.ref (w3_EXIT Z))])
    refine own_step (fun _ k => Jvm.RoadKit.acmp (g := (mkF m 47 #[.val (.int p0), .val (.int (8 : Int32)), .val (.ref (w2_SUBSEA_IC Z)), .val (.int (1 : Int32)), .val (.int (1 : Int32)), .unset] [(.ref (w3_EXIT Z)), (.ref (w3_EXIT Z))])) X22 hx rfl rfl rfl (pc0 := 47) (pc' := 50) (same := true) rfl (hb hby at_47) rfl (decide_eq_true rfl) (by decide) (by decide) k) ?_
    show own_Wp p e below _ T22 (mkF m 50 #[.val (.int p0), .val (.int (8 : Int32)), .val (.ref (w2_SUBSEA_IC Z)), .val (.int (1 : Int32)), .val (.int (1 : Int32)), .unset] [])
    refine own_step (fun _ k => XS.iconst X22.here hx rfl (hb hby at_50) k) ?_
    show own_Wp p e below _ T22 (mkF m 51 #[.val (.int p0), .val (.int (8 : Int32)), .val (.ref (w2_SUBSEA_IC Z)), .val (.int (1 : Int32)), .val (.int (1 : Int32)), .unset] [(.int (1 : Int32))])
    refine own_step (fun _ k => XS.goto X22.here hx rfl (pc0 := 51) (pc' := 55) rfl (hb hby at_51) (by decide) (by decide) k) ?_
    show own_Wp p e below _ T22 (mkF m 55 #[.val (.int p0), .val (.int (8 : Int32)), .val (.ref (w2_SUBSEA_IC Z)), .val (.int (1 : Int32)), .val (.int (1 : Int32)), .unset] [(.int (1 : Int32))])
    refine own_step (fun _ k => XS.istore X22.here hx rfl (hb hby at_55) rfl (l' := #[.val (.int p0), .val (.int (8 : Int32)), .val (.ref (w2_SUBSEA_IC Z)), .val (.int (1 : Int32)), .val (.int (1 : Int32)), .val (.int (1 : Int32))]) rfl k) ?_
    show own_Wp p e below _ T22 (mkF m 57 #[.val (.int p0), .val (.int (8 : Int32)), .val (.ref (w2_SUBSEA_IC Z)), .val (.int (1 : Int32)), .val (.int (1 : Int32)), .val (.int (1 : Int32))] [])
    refine own_step (fun _ k => XS.iloadN X22.here hx rfl (hb hby at_57) rfl k) ?_
    show own_Wp p e below _ T22 (mkF m 58 #[.val (.int p0), .val (.int (8 : Int32)), .val (.ref (w2_SUBSEA_IC Z)), .val (.int (1 : Int32)), .val (.int (1 : Int32)), .val (.int (1 : Int32))] [(.int (1 : Int32))])
    refine own_step (fun _ k => XS.iload X22.here hx rfl (hb hby at_58) rfl k) ?_
    show own_Wp p e below _ T22 (mkF m 60 #[.val (.int p0), .val (.int (8 : Int32)), .val (.ref (w2_SUBSEA_IC Z)), .val (.int (1 : Int32)), .val (.int (1 : Int32)), .val (.int (1 : Int32))] [(.int (1 : Int32)), (.int (1 : Int32))])
    refine own_step (fun _ k => XS.icmpNo X22.here hx rfl (hb hby at_60) rfl (by decide) k) ?_
    show own_Wp p e below _ T22 (mkF m 63 #[.val (.int p0), .val (.int (8 : Int32)), .val (.ref (w2_SUBSEA_IC Z)), .val (.int (1 : Int32)), .val (.int (1 : Int32)), .val (.int (1 : Int32))] [])
    refine own_step (fun _ k => XS.iload X22.here hx rfl (hb hby at_63) rfl k) ?_
    show own_Wp p e below _ T22 (mkF m 65 #[.val (.int p0), .val (.int (8 : Int32)), .val (.ref (w2_SUBSEA_IC Z)), .val (.int (1 : Int32)), .val (.int (1 : Int32)), .val (.int (1 : Int32))] [(.int (1 : Int32))])
    refine own_step (fun _ k => XS.ifNo X22.here hx rfl (hb hby at_65) rfl (by decide) k) ?_
    show own_Wp p e below _ T22 (mkF m 68 #[.val (.int p0), .val (.int (8 : Int32)), .val (.ref (w2_SUBSEA_IC Z)), .val (.int (1 : Int32)), .val (.int (1 : Int32)), .val (.int (1 : Int32))] [])
    refine own_step (fun _ k => XS.iconst X22.here hx rfl (hb hby at_68) k) ?_
    show own_Wp p e below _ T22 (mkF m 69 #[.val (.int p0), .val (.int (8 : Int32)), .val (.ref (w2_SUBSEA_IC Z)), .val (.int (1 : Int32)), .val (.int (1 : Int32)), .val (.int (1 : Int32))] [(.int (1 : Int32))])
    refine own_step (fun _ k => XS.goto X22.here hx rfl (pc0 := 69) (pc' := 73) rfl (hb hby at_69) (by decide) (by decide) k) ?_
    show own_Wp p e below _ T22 (mkF m 73 #[.val (.int p0), .val (.int (8 : Int32)), .val (.ref (w2_SUBSEA_IC Z)), .val (.int (1 : Int32)), .val (.int (1 : Int32)), .val (.int (1 : Int32))] [(.int (1 : Int32))])
    exact own_retN X22 hx (t := .boolean) hret (by simp) hlk (hb hby at_73) (by decide) (by decide) ⟨rfl, N21⟩
set_option maxRecDepth 65536 in
set_option maxHeartbeats 40000000 in
theorem comes_1 {Post : Tables → Env → Array Value → State → Outcome → State → Prop} (hpost : ∀ tb e args s v u, (limb_1_1.after args s (.returned v) u = true ∧ limb_1_2.after args s (.returned v) u = true ∧ True) → FrameEnd s (.returned v) u (Jvm.fieldLocs frame_1_writes args s ++ Jvm.arrayLocs frame_1_arrays args s ++ Jvm.staticLocs frame_1_statics s) 0 0 → Post tb e args s (.returned v) u) :
    ArmFor flags0 classFile x code maxLocals ret World_1 tables_1 room_1 Calls_1 rest_1 Pre_1 Post := by
  intro l hfl _ _ p e ha hc hk s m args below hf hA hF happ hP
  obtain ⟨hcalls, hrest, hpre⟩ := hP
  obtain ⟨-, -, -, hnamed, -, -, -, hat⟩ := (Spec.applies_iff hf).mp happ
  obtain ⟨hg, hn⟩ := and_e (Cond.before_iff.mp (show (Jvm.Cond.and given_1 narrow_1).before args s = true from hpre))
  obtain ⟨gg1, gg2⟩ := and_e hg
  obtain ⟨w0, rfl⟩ : ∃ w0 : Value, args = #[w0] := by
    have hs : args.size = 1 := by simpa [Cond.value, given_1] using gg1
    obtain ⟨L⟩ := args
    match L, hs with
    | [w0], _ => exact ⟨w0, rfl⟩
  have hw := fun d (hd : d ∈ tables_1) => atoms_spec (ws := Jvm.Cond.code x code maxLocals ret :: tables_1) hat d (List.mem_cons_of_mem _ hd)
  have hfit : Fit s := fun {y c} hc i hi => by
    obtain ⟨ha, rfl⟩ := Array.getElem?_eq_some_iff.mp hc
    have q := List.all_eq_true.mp ((Array.all_eq_true_iff_forall_mem.mp hF) _ (Array.getElem_mem ha)) i (List.mem_range.mpr hi)
    simpa [Array.getElem?_eq_getElem hi] using q
  obtain ⟨i0, ei0⟩ := is_v gg2
  obtain rfl : w0 = (.int i0) := Option.some.inj ei0
  obtain ⟨n, o, h1, h2, h3, _, L, rfl, ⟨rfl, N⟩, hq⟩ := rm0 l s _ hw (own_mem narrow_1 hn) tables_1 i0 s.heap s.heap.size (Old.start s) p e ha hc hk s m _ below hf ((Spec.applies_iff_loose hf).mp happ).1 ⟨rfl, State.Warmed39.refl s, rfl⟩ trivial
  refine ⟨n, _, h1, h2, h3, hpost _ _ _ _ _ _ ⟨Cond.after_iff.mpr rfl, Cond.after_iff.mpr (eq_i res_at (Term.int_eval (1)) rfl), trivial⟩ ⟨hq.1, hq.2.1, (hq.2.2.sift fun y hy => Or.inr (N y hy)).mono (by decide) (by decide)⟩⟩
theorem main_1_1 : Claimed_1_1 := comes_1 fun _ _ _ _ _ _ h hF => ⟨h.1, hF⟩
theorem main_1_2 : Claimed_1_2 := comes_1 fun _ _ _ _ _ _ h hF => ⟨h.2.1, hF⟩

end Jvm.Pilot.@@N@@
namespace Jvm.Pilot.@@N@@
open Jvm Jvm.ClassFile Sem Op Lib Jvm.Free Jvm.Stand Jvm.Pilot.@@N@@.Jvm.D
/-! MADE BY PROGRAM (witnessworld.py) out of the Statement's table words and the real class files: 13 classes; the members and pool entries that the words name. The judged class is class 1, her method 2. -/
namespace start1
open Jvm.ClassFile
def u (s : String) : CpInfo := .utf8 (stringToUtf16 s)
/-- a pool by its gaps: so many unusable entries, then the entry; so many at the end -/
def gap : Nat → List CpInfo → List CpInfo
  | 0, r => r
  | n + 1, r => .unusable :: gap n r
def poolList (es : List (Nat × CpInfo)) (last : Nat) : List CpInfo := es.foldr (fun e r => gap e.1 (e.2 :: r)) (gap last [])
def pool (es : List (Nat × CpInfo)) (last : Nat) : Array CpInfo := ⟨poolList es last⟩
def fileOf (pool : Array CpInfo) (this : Nat) (attrs : Array Attribute := #[]) (ms : Array MethodInfo := #[]) (fl : Nat := 33) (sup : Nat := 0) (ifs : Array Nat := #[]) (fds : Array FieldInfo := #[]) : ClassFile where
  minorVersion := 0
  majorVersion := 65
  constantPool := pool
  accessFlags := fl
  thisClass := this
  superClass := sup
  interfaces := ifs
  fields := fds
  methods := ms
  attributes := attrs
def plain (name : String) (sup : Option ClassId) : Class where
  name := name
  kind := .ordinary
  loader := none
  accessFlags := 33
  super := sup
  interfaces := #[]
  cf := none
  fields := #[]
  methods := #[]
  instanceTypes := #[]
  staticTypes := #[]
  resolved := #[]
  callSites := []
  init := .initialized
  statics := none
  mirror := none

def pool0 : Array CpInfo := pool [(5, u "<init>"), (0, u "()V"), (1, .class_ 10), (1, u "java/lang/Object")] 113

def k0m0 : Method := { name := "<init>", desc := "()V", sig := { parameters := [], returnType := none }, accessFlags := 1, code := none }
/-- java/lang/Object -/
def k0 : Class := { plain "java/lang/Object" none with
  accessFlags := 33
  interfaces := #[]
  cf := some (fileOf pool0 8 #[] #[{ accessFlags := 1, nameIndex := 5, descriptorIndex := 6, attributes := #[] }] 33 0 #[] #[])
  fields := #[]
  methods := #[k0m0]
  instanceTypes := #[]
  staticTypes := #[]
  resolved := Array.replicate 124 none
  statics := none }

def pool1 : Array CpInfo := pool [(2, .class_ 4), (1, u "java/lang/Object"), (0, u "<init>"), (0, u "()V"), (0, .fieldref 8 9), (0, .class_ 10), (0, .nameAndType 11 12), (0, u "com/example/linepack/linepack/PointClass"), (0, u "MOFFAT"), (0, u "Lcom/example/linepack/linepack/PointClass;"), (0, .fieldref 8 14), (0, .nameAndType 15 12), (0, u "INCH"), (0, .fieldref 8 17), (0, .nameAndType 18 12), (0, u "BELLANABOY"), (0, .fieldref 8 20), (0, .nameAndType 21 12), (0, u "LDM"), (0, .fieldref 8 23), (0, .nameAndType 24 12), (0, u "DM"), (0, .fieldref 8 26), (0, .nameAndType 27 12), (0, u "NDM"), (0, .fieldref 8 29), (0, .nameAndType 30 12), (0, u "INCH_STORAGE_EXIT"), (0, .fieldref 8 32), (0, .nameAndType 33 12), (0, u "SN_IP"), (0, .fieldref 8 35), (0, .nameAndType 36 12), (0, u "SUBSEA_IC"), (0, .integer 2147483647), (0, .methodref 39 40), (0, .class_ 41), (0, .nameAndType 42 43), (0, u "com/example/linepack/linepack/PointClassHasAnnualQuantityPinLaw"), (0, u "pick"), (0, u "(I)Lcom/example/linepack/linepack/PointClass;"), (0, .methodref 8 45), (0, .nameAndType 46 47), (0, u "hasAnnualQuantity"), (0, u "()Z"), (0, .methodref 8 49), (0, .nameAndType 50 51), (0, u "direction"), (0, u "()Lcom/example/linepack/linepack/PointClass$Direction;"), (0, .fieldref 53 54), (0, .class_ 55), (0, .nameAndType 56 57), (0, u "com/example/linepack/linepack/PointClass$Direction"), (0, u "EXIT"), (0, u "Lcom/example/linepack/linepack/PointClass$Direction;"), (3, u "law"), (0, u "(I)Z")] 4

def k1m0 : Method := { name := "<init>", desc := "()V", sig := { parameters := [], returnType := none }, accessFlags := 2, code := none }
def k1c1 : Code := { maxStack := 2, maxLocals := 1, code := method_2_code, exceptionTable := #[], attributes := #[] }
def k1m1 : Method := { name := "pick", desc := "(I)Lcom/example/linepack/linepack/PointClass;", sig := { parameters := [.int], returnType := some (.object "com/example/linepack/linepack/PointClass") }, accessFlags := 10, code := some k1c1 }
def k1c2 : Code := { maxStack := 2, maxLocals := 6, code := code, exceptionTable := #[], attributes := #[] }
def k1m2 : Method := { name := "law", desc := "(I)Z", sig := { parameters := [.int], returnType := some .boolean }, accessFlags := 9, code := some k1c2 }
/-- com/example/linepack/linepack/PointClassHasAnnualQuantityPinLaw -/
def k1 : Class := { plain "com/example/linepack/linepack/PointClassHasAnnualQuantityPinLaw" (some 0) with
  accessFlags := 49
  interfaces := #[]
  cf := some (fileOf pool1 39 #[] #[{ accessFlags := 2, nameIndex := 5, descriptorIndex := 6, attributes := #[] }, { accessFlags := 10, nameIndex := 42, descriptorIndex := 43, attributes := #[] }, { accessFlags := 9, nameIndex := 61, descriptorIndex := 62, attributes := #[] }] 49 2 #[] #[])
  fields := #[]
  methods := #[k1m0, k1m1, k1m2]
  instanceTypes := #[]
  staticTypes := #[]
  resolved := Array.replicate 67 none
  statics := none }

def pool2 : Array CpInfo := pool [(1, .class_ 2), (0, u "java/lang/constant/Constable"), (0, .class_ 4), (0, u "java/lang/Object")] 6

/-- java/lang/constant/Constable -/
def k2 : Class := { plain "java/lang/constant/Constable" (some 0) with
  accessFlags := 1537
  interfaces := #[]
  cf := some (fileOf pool2 1 #[] #[] 1537 3 #[] #[])
  fields := #[]
  methods := #[]
  instanceTypes := #[]
  staticTypes := #[]
  resolved := Array.replicate 11 none
  statics := none }

def pool3 : Array CpInfo := pool [(1, .class_ 2), (0, u "java/lang/Comparable"), (0, .class_ 4), (0, u "java/lang/Object")] 7

/-- java/lang/Comparable -/
def k3 : Class := { plain "java/lang/Comparable" (some 0) with
  accessFlags := 1537
  interfaces := #[]
  cf := some (fileOf pool3 1 #[] #[] 1537 3 #[] #[])
  fields := #[]
  methods := #[]
  instanceTypes := #[]
  staticTypes := #[]
  resolved := Array.replicate 12 none
  statics := none }

def pool4 : Array CpInfo := pool [(1, .class_ 2), (0, u "java/io/Serializable"), (0, .class_ 4), (0, u "java/lang/Object")] 2

/-- java/io/Serializable -/
def k4 : Class := { plain "java/io/Serializable" (some 0) with
  accessFlags := 1537
  interfaces := #[]
  cf := some (fileOf pool4 1 #[] #[] 1537 3 #[] #[])
  fields := #[]
  methods := #[]
  instanceTypes := #[]
  staticTypes := #[]
  resolved := Array.replicate 7 none
  statics := none }

def pool5 : Array CpInfo := pool [(2, .class_ 4), (1, u "java/lang/Enum"), (0, u "name"), (0, u "Ljava/lang/String;"), (2, u "ordinal"), (0, u "I"), (1, .class_ 14), (1, u "java/lang/Object"), (4, u "hash"), (86, .class_ 108), (1, u "java/lang/Enum$EnumDesc"), (2, .class_ 112), (0, u "java/lang/constant/Constable"), (0, .class_ 114), (0, u "java/lang/Comparable"), (0, .class_ 116), (0, u "java/io/Serializable")] 87

/-- java/lang/Enum -/
def k5 : Class := { plain "java/lang/Enum" (some 0) with
  accessFlags := 1057
  interfaces := #[2, 3, 4]
  cf := some (fileOf pool5 2 #[.nestMembers #[106]] #[] 1057 12 #[111, 113, 115] #[{ accessFlags := 18, nameIndex := 5, descriptorIndex := 6, attributes := #[] }, { accessFlags := 18, nameIndex := 9, descriptorIndex := 10, attributes := #[] }, { accessFlags := 2, nameIndex := 19, descriptorIndex := 10, attributes := #[] }])
  fields := #[{ name := "name", type := (.object "java/lang/String"), accessFlags := 18, slot := 0, constantValue := 0 }, { name := "ordinal", type := .int, accessFlags := 18, slot := 1, constantValue := 0 }, { name := "hash", type := .int, accessFlags := 2, slot := 2, constantValue := 0 }]
  methods := #[]
  instanceTypes := #[(.object "java/lang/String"), .int, .int]
  staticTypes := #[]
  resolved := Array.replicate 204 none
  statics := none }

def pool6 : Array CpInfo := pool [(1, .class_ 2), (0, u "com/example/linepack/linepack/PointClass"), (2, u "MOFFAT"), (0, u "Lcom/example/linepack/linepack/PointClass;"), (2, u "INCH"), (2, u "BELLANABOY"), (0, .fieldref 1 14), (0, .nameAndType 15 6), (0, u "LDM"), (2, u "DM"), (2, u "NDM"), (2, u "INCH_STORAGE_EXIT"), (2, u "SN_IP"), (0, .fieldref 1 29), (0, .nameAndType 30 6), (0, u "SUBSEA_IC"), (2, u "$VALUES"), (0, u "[Lcom/example/linepack/linepack/PointClass;"), (6, .class_ 43), (1, u "java/lang/Enum"), (8, u "text"), (0, u "Ljava/lang/String;"), (0, .fieldref 1 55), (0, .nameAndType 56 57), (0, u "direction"), (0, u "Lcom/example/linepack/linepack/PointClass$Direction;"), (18, .class_ 78), (1, u "com/example/linepack/linepack/PointClass$Direction"), (45, u "()Lcom/example/linepack/linepack/PointClass$Direction;"), (0, u "hasAnnualQuantity"), (0, u "()Z")] 32

def k6c0 : Code := { maxStack := 1, maxLocals := 1, code := prog_6_method_5_code, exceptionTable := #[], attributes := #[] }
def k6m0 : Method := { name := "direction", desc := "()Lcom/example/linepack/linepack/PointClass$Direction;", sig := { parameters := [], returnType := some (.object "com/example/linepack/linepack/PointClass$Direction") }, accessFlags := 0, code := some k6c0 }
def k6c1 : Code := { maxStack := 2, maxLocals := 1, code := prog_6_method_6_code, exceptionTable := #[], attributes := #[] }
def k6m1 : Method := { name := "hasAnnualQuantity", desc := "()Z", sig := { parameters := [], returnType := some .boolean }, accessFlags := 0, code := some k6c1 }
/-- com/example/linepack/linepack/PointClass -/
def k6 : Class := { plain "com/example/linepack/linepack/PointClass" (some 5) with
  accessFlags := 16432
  interfaces := #[]
  cf := some (fileOf pool6 1 #[.nestMembers #[76]] #[{ accessFlags := 0, nameIndex := 56, descriptorIndex := 124, attributes := #[] }, { accessFlags := 0, nameIndex := 125, descriptorIndex := 126, attributes := #[] }] 16432 41 #[] #[{ accessFlags := 16409, nameIndex := 5, descriptorIndex := 6, attributes := #[] }, { accessFlags := 16409, nameIndex := 9, descriptorIndex := 6, attributes := #[] }, { accessFlags := 16409, nameIndex := 12, descriptorIndex := 6, attributes := #[] }, { accessFlags := 16409, nameIndex := 15, descriptorIndex := 6, attributes := #[] }, { accessFlags := 16409, nameIndex := 18, descriptorIndex := 6, attributes := #[] }, { accessFlags := 16409, nameIndex := 21, descriptorIndex := 6, attributes := #[] }, { accessFlags := 16409, nameIndex := 24, descriptorIndex := 6, attributes := #[] }, { accessFlags := 16409, nameIndex := 27, descriptorIndex := 6, attributes := #[] }, { accessFlags := 16409, nameIndex := 30, descriptorIndex := 6, attributes := #[] }, { accessFlags := 18, nameIndex := 52, descriptorIndex := 53, attributes := #[] }, { accessFlags := 18, nameIndex := 56, descriptorIndex := 57, attributes := #[] }, { accessFlags := 4122, nameIndex := 33, descriptorIndex := 34, attributes := #[] }])
  fields := #[{ name := "MOFFAT", type := (.object "com/example/linepack/linepack/PointClass"), accessFlags := 16409, slot := 0, constantValue := 0 }, { name := "INCH", type := (.object "com/example/linepack/linepack/PointClass"), accessFlags := 16409, slot := 1, constantValue := 0 }, { name := "BELLANABOY", type := (.object "com/example/linepack/linepack/PointClass"), accessFlags := 16409, slot := 2, constantValue := 0 }, { name := "LDM", type := (.object "com/example/linepack/linepack/PointClass"), accessFlags := 16409, slot := 3, constantValue := 0 }, { name := "DM", type := (.object "com/example/linepack/linepack/PointClass"), accessFlags := 16409, slot := 4, constantValue := 0 }, { name := "NDM", type := (.object "com/example/linepack/linepack/PointClass"), accessFlags := 16409, slot := 5, constantValue := 0 }, { name := "INCH_STORAGE_EXIT", type := (.object "com/example/linepack/linepack/PointClass"), accessFlags := 16409, slot := 6, constantValue := 0 }, { name := "SN_IP", type := (.object "com/example/linepack/linepack/PointClass"), accessFlags := 16409, slot := 7, constantValue := 0 }, { name := "SUBSEA_IC", type := (.object "com/example/linepack/linepack/PointClass"), accessFlags := 16409, slot := 8, constantValue := 0 }, { name := "text", type := (.object "java/lang/String"), accessFlags := 18, slot := 3, constantValue := 0 }, { name := "direction", type := (.object "com/example/linepack/linepack/PointClass$Direction"), accessFlags := 18, slot := 4, constantValue := 0 }, { name := "$VALUES", type := (.array (.object "com/example/linepack/linepack/PointClass")), accessFlags := 4122, slot := 9, constantValue := 0 }]
  methods := #[k6m0, k6m1]
  instanceTypes := #[(.object "java/lang/String"), .int, .int, (.object "java/lang/String"), (.object "com/example/linepack/linepack/PointClass$Direction")]
  staticTypes := #[(.object "com/example/linepack/linepack/PointClass"), (.object "com/example/linepack/linepack/PointClass"), (.object "com/example/linepack/linepack/PointClass"), (.object "com/example/linepack/linepack/PointClass"), (.object "com/example/linepack/linepack/PointClass"), (.object "com/example/linepack/linepack/PointClass"), (.object "com/example/linepack/linepack/PointClass"), (.object "com/example/linepack/linepack/PointClass"), (.object "com/example/linepack/linepack/PointClass"), (.array (.object "com/example/linepack/linepack/PointClass"))]
  resolved := Array.replicate 159 none
  statics := some 0 }

def pool7 : Array CpInfo := pool [(1, .class_ 2), (0, u "com/example/linepack/linepack/PointClass$Direction"), (2, u "ENTRY"), (0, u "Lcom/example/linepack/linepack/PointClass$Direction;"), (2, u "EXIT"), (2, u "$VALUES"), (0, u "[Lcom/example/linepack/linepack/PointClass$Direction;"), (6, .class_ 22), (1, u "java/lang/Enum"), (42, .class_ 66), (0, u "com/example/linepack/linepack/PointClass")] 2

/-- com/example/linepack/linepack/PointClass$Direction -/
def k7 : Class := { plain "com/example/linepack/linepack/PointClass$Direction" (some 5) with
  accessFlags := 16432
  interfaces := #[]
  cf := some (fileOf pool7 1 #[.nestHost 65] #[] 16432 20 #[] #[{ accessFlags := 16409, nameIndex := 5, descriptorIndex := 6, attributes := #[] }, { accessFlags := 16409, nameIndex := 9, descriptorIndex := 6, attributes := #[] }, { accessFlags := 4122, nameIndex := 12, descriptorIndex := 13, attributes := #[] }])
  fields := #[{ name := "ENTRY", type := (.object "com/example/linepack/linepack/PointClass$Direction"), accessFlags := 16409, slot := 0, constantValue := 0 }, { name := "EXIT", type := (.object "com/example/linepack/linepack/PointClass$Direction"), accessFlags := 16409, slot := 1, constantValue := 0 }, { name := "$VALUES", type := (.array (.object "com/example/linepack/linepack/PointClass$Direction")), accessFlags := 4122, slot := 2, constantValue := 0 }]
  methods := #[]
  instanceTypes := #[(.object "java/lang/String"), .int, .int]
  staticTypes := #[(.object "com/example/linepack/linepack/PointClass$Direction"), (.object "com/example/linepack/linepack/PointClass$Direction"), (.array (.object "com/example/linepack/linepack/PointClass$Direction"))]
  resolved := Array.replicate 69 none
  statics := some 1 }

def pool8 : Array CpInfo := pool [(1, u "java/lang/Cloneable"), (0, .class_ 1), (0, u "java/lang/Object"), (0, .class_ 3)] 3

/-- java/lang/Cloneable -/
def k8 : Class := { plain "java/lang/Cloneable" (some 0) with
  accessFlags := 1537
  interfaces := #[]
  cf := some (fileOf pool8 2 #[] #[] 1537 4 #[] #[])
  fields := #[]
  methods := #[]
  instanceTypes := #[]
  staticTypes := #[]
  resolved := Array.replicate 8 none
  statics := none }

/-- the primitive byte -/
def k9 : Class := { plain "byte" none with kind := .primitive 'B', accessFlags := 0x411 }
/-- [B -/
def k10 : Class := { plain "[B" (some 0) with kind := .array 9 .byte, interfaces := #[8, 4], accessFlags := 1041 }

/-- the primitive int -/
def k11 : Class := { plain "int" none with kind := .primitive 'I', accessFlags := 0x411 }
/-- [I -/
def k12 : Class := { plain "[I" (some 0) with kind := .array 11 .int, interfaces := #[8, 4], accessFlags := 1041 }

def heap : Heap := #[{ cls := 6, slots := #[.ref 2, .ref 7, .ref 6, .ref 3, .ref 9, .ref 11, .ref 10, .ref 8, .ref 4, .null], vm := .statics 6 },
  { cls := 7, slots := #[.ref 12, .ref 5, .null], vm := .statics 7 },
  { cls := 6, slots := #[.null, .int 0, .int 0, .null, .ref 12], vm := .none },
  { cls := 6, slots := #[.null, .int 3, .int 0, .null, .ref 5], vm := .none },
  { cls := 6, slots := #[.null, .int 8, .int 0, .null, .ref 5], vm := .none },
  { cls := 7, slots := #[.null, .int 0, .int 0], vm := .none },
  { cls := 6, slots := #[.null, .int 2, .int 0, .null, .ref 12], vm := .none },
  { cls := 6, slots := #[.null, .int 1, .int 0, .null, .ref 12], vm := .none },
  { cls := 6, slots := #[.null, .int 7, .int 0, .null, .ref 5], vm := .none },
  { cls := 6, slots := #[.null, .int 4, .int 0, .null, .ref 5], vm := .none },
  { cls := 6, slots := #[.null, .int 6, .int 0, .null, .ref 5], vm := .none },
  { cls := 6, slots := #[.null, .int 5, .int 0, .null, .ref 5], vm := .none },
  { cls := 7, slots := #[.null, .int 0, .int 0], vm := .none }]
def classes : Array Class := #[k0, k1, k2, k3, k4, k5, k6, k7, k8, k9, k10, k11, k12]
def interned : List (Array UInt16 × Addr) := []
def slotsUsed : Nat := 64
def theMethod : MethodId := ⟨1, 2⟩
def args0 : Array Value := #[.int 5]
def aboutOver (below : List Frame) : State where
  vm := { classes := classes, interned := interned.toArray }
  heap := heap
  slotsUsed := slotsUsed
  threads := #[{ frames := .invoking theMethod args0 :: below }]
def below0 : List Frame := [.native { method := ⟨0, 0⟩, args := #[] }]
def about1 : State := aboutOver below0
def p0 : Program := .bare "" "" ""
def e0 : Env := launch0.env 0 0 0
theorem w_frames : about1.frames = Frame.invoking theMethod args0 :: below0 := rfl
set_option maxRecDepth 65536 in
theorem w_args : argsFit about1.vm theMethod args0 = true := by decide +kernel
set_option maxRecDepth 65536 in
theorem w_heap : heapFits about1 = true := by decide +kernel
set_option maxRecDepth 65536 in
theorem w_runnable : about1.curStatus? = some .runnable := by decide +kernel
set_option maxRecDepth 65536 in
theorem w_alone : about1.alone = true := by decide +kernel
set_option maxRecDepth 65536 in
theorem w_named : about1.methodNamed? x = some theMethod := by decide +kernel
set_option maxRecDepth 65536 in
theorem w_hears : about1.hears theMethod below0 = true := by decide +kernel
set_option maxRecDepth 65536 in
theorem w_ripe : about1.ripe theMethod args0 below0 = true := by decide +kernel
theorem w_running : about1.status = .running := rfl
set_option maxRecDepth 65536 in
theorem w_room : about1.hasRoom e0.platform room_1 = true :=
  launch0.hasRoom_least _ room_1 (by decide +kernel) (by decide +kernel) (by decide +kernel) (by decide +kernel) (by decide +kernel) (by decide +kernel)
theorem allAtoms_all (ts : List Jvm.Cond) (a : Array Jvm.Value) (st : Jvm.State) : (allAtoms ts).before a st = ts.all (fun c => c.before a st) := by
  induction ts with
  | nil => rfl
  | cons c t ih =>
    show (Jvm.Cond.and c (allAtoms t)).before a st = _
    rw [Jvm.Cond.before_and, ih, List.all_cons]
def words1 : List Jvm.Cond := Jvm.Cond.code x code maxLocals ret :: tables_1
/-- a 'code' word, met by the world's own term for the bytes: nothing is compared byte by byte -/
theorem code_word {y : MethodName} {bytes : ByteArray} {mx : Nat} {rt : Option FieldType} {a : Array Value} {s : State} {m : MethodId} {meth : Method} {c : Code} (h1 : s.methodNamed? y = some m) (h2 : s.vm.method? m = some meth) (h3 : meth.code = some c) (h4 : c.code = bytes)
    (h5 : (c.maxLocals == mx && c.exceptionTable.isEmpty && decide (c.maxStack ≤ mostOperands) && decide (meth.sig.returnType = rt) && !meth.locks && decide (parseMethodDescriptor y.desc = some meth.sig)) = true) : (Jvm.Cond.code y bytes mx rt).before a s = true := by
  simp only [Bool.and_eq_true, beq_iff_eq, Bool.not_eq_true', decide_eq_true_eq] at h5
  obtain ⟨⟨⟨⟨⟨g1, g2⟩, g3⟩, g4⟩, g5⟩, g6⟩ := h5
  simp [Cond.before, Cond.holds, Cond.value, h1, h2, h3, h4, g1, g2, g3, g4, g5, g6]
def isCode : Jvm.Cond → Bool
  | .code _ _ _ _ => true
  | _ => false
theorem all_split {L : List Jvm.Cond} {P : Jvm.Cond → Bool} (h1 : L.all (fun c => isCode c || P c) = true) (h2 : ∀ c ∈ L.filter isCode, P c = true) : L.all P = true := by
  refine List.all_eq_true.mpr fun c hc => ?_
  have h := List.all_eq_true.mp h1 c hc
  rcases Bool.eq_false_or_eq_true (isCode c) with hi | hi
  · exact h2 c (List.mem_filter.mpr ⟨hc, hi⟩)
  · simpa [hi] using h
set_option maxRecDepth 65536 in
theorem w_c0 : (Jvm.Cond.code x code maxLocals ret).before args0 about1 = true := code_word (m := ⟨1, 2⟩) (meth := k1m2) (c := k1c2) (by decide +kernel) rfl rfl rfl (by decide +kernel)
set_option maxRecDepth 65536 in
theorem w_c1 : (Jvm.Cond.code ({ cls := "com/example/linepack/linepack/PointClassHasAnnualQuantityPinLaw", name := "pick", desc := "(I)Lcom/example/linepack/linepack/PointClass;" } : Jvm.MethodName) method_2_code (1 : Nat) (Option.some (Jvm.ClassFile.FieldType.object "com/example/linepack/linepack/PointClass"))).before args0 about1 = true := code_word (m := ⟨1, 1⟩) (meth := k1m1) (c := k1c1) (by decide +kernel) rfl rfl rfl (by decide +kernel)
set_option maxRecDepth 65536 in
theorem w_c2 : (Jvm.Cond.code ({ cls := "com/example/linepack/linepack/PointClass", name := "hasAnnualQuantity", desc := "()Z" } : Jvm.MethodName) prog_6_method_6_code (1 : Nat) (Option.some Jvm.ClassFile.FieldType.boolean)).before args0 about1 = true := code_word (m := ⟨6, 1⟩) (meth := k6m1) (c := k6c1) (by decide +kernel) rfl rfl rfl (by decide +kernel)
set_option maxRecDepth 65536 in
theorem w_c3 : (Jvm.Cond.code ({ cls := "com/example/linepack/linepack/PointClass", name := "direction", desc := "()Lcom/example/linepack/linepack/PointClass$Direction;" } : Jvm.MethodName) prog_6_method_5_code (1 : Nat) (Option.some (Jvm.ClassFile.FieldType.object "com/example/linepack/linepack/PointClass$Direction"))).before args0 about1 = true := code_word (m := ⟨6, 0⟩) (meth := k6m0) (c := k6c0) (by decide +kernel) rfl rfl rfl (by decide +kernel)
def codes1 : List Jvm.Cond := [Jvm.Cond.code x code maxLocals ret, Jvm.Cond.code ({ cls := "com/example/linepack/linepack/PointClassHasAnnualQuantityPinLaw", name := "pick", desc := "(I)Lcom/example/linepack/linepack/PointClass;" } : Jvm.MethodName) method_2_code (1 : Nat) (Option.some (Jvm.ClassFile.FieldType.object "com/example/linepack/linepack/PointClass")), Jvm.Cond.code ({ cls := "com/example/linepack/linepack/PointClass", name := "hasAnnualQuantity", desc := "()Z" } : Jvm.MethodName) prog_6_method_6_code (1 : Nat) (Option.some Jvm.ClassFile.FieldType.boolean), Jvm.Cond.code ({ cls := "com/example/linepack/linepack/PointClass", name := "direction", desc := "()Lcom/example/linepack/linepack/PointClass$Direction;" } : Jvm.MethodName) prog_6_method_5_code (1 : Nat) (Option.some (Jvm.ClassFile.FieldType.object "com/example/linepack/linepack/PointClass$Direction"))]
set_option maxRecDepth 65536 in
theorem codes_eq : words1.filter isCode = codes1 := rfl
theorem w_codes : ∀ c ∈ words1.filter isCode, c.before args0 about1 = true := by
  rw [codes_eq]
  intro c hc
  simp only [codes1, List.mem_cons, List.not_mem_nil, or_false] at hc
  rcases hc with rfl | rfl | rfl | rfl
  · exact w_c0
  · exact w_c1
  · exact w_c2
  · exact w_c3
set_option maxRecDepth 65536 in
theorem w_t1 : (words1.take 24).all (fun c => isCode c || c.before args0 about1) = true := by decide +kernel
set_option maxRecDepth 65536 in
theorem w_t2 : (words1.drop 24).all (fun c => isCode c || c.before args0 about1) = true := by decide +kernel
theorem w_tables : (allAtoms (Jvm.Cond.code x code maxLocals ret :: tables_1)).before args0 about1 = true := by
  rw [allAtoms_all]
  show words1.all (fun c => c.before args0 about1) = true
  refine all_split ?_ w_codes
  rw [← List.take_append_drop 24 words1, List.all_append, w_t1, w_t2]
  rfl
set_option maxRecDepth 65536 in
theorem w_case : (Jvm.Cond.and given_1 narrow_1).before args0 about1 = true := by decide +kernel
theorem w_applies : (headSpec (Jvm.Cond.code x code maxLocals ret :: tables_1) room_1).applies x e0.platform about1 = true :=
  (Spec.applies_iff w_frames).mpr ⟨w_running, w_runnable, w_alone, w_named, w_hears, w_ripe, w_room, w_tables⟩
theorem atStart : AtStart classFile x code maxLocals ret World_1 tables_1 room_1 Calls_1 rest_1 Pre_1 launch0 p0 e0 about1 theMethod args0 below0 :=
  ⟨lists_1, trivial, launch0.admits_env _ _ _, launch0.least_env, fairChoices_fair.cas, fairChoices_fair.clock, w_frames, w_args, w_heap, w_applies, trivial, trivial, w_case⟩
end start1
theorem witness_1 : WitnessClaimed_1 := ⟨start1.p0, start1.e0, start1.about1, start1.theMethod, start1.args0, start1.below0, start1.atStart⟩
end Jvm.Pilot.@@N@@
