import JvmDerived
import JvmDerived.Pilot.@@N@@Statement
import JvmDerived.Pilot.@@N@@Code
set_option linter.unusedVariables false
set_option linter.unusedSimpArgs false
@@BLOCK:Masks.lean.txt@@
@@BLOCK:NumsL.lean.txt@@
namespace Jvm.Pilot.@@N@@
open Jvm Jvm.ClassFile Sem Op Lib Jvm.Free Jvm.Stand Jvm.LawKit Jvm.RoadKit Bundle Jvm.Pilot.@@N@@.Jvm.D
/-! own layer: a walk as "from here the body comes to a good end" (own_Wp), so that a walk may fork in its middle -/
section OwnLayer
variable {p : Program} {l : Launch} {e : Env} {R : Room} {s : State} {m : MethodId} {args : Array Value} {below : List Frame} {meth : Method} {c : Code} {T T' : State} {locs : List Loc} {cells slots cs sl pc : Nat} {g g' : JFrame} {F : State → Outcome → Prop} {Q : Option Value → Heap → List Loc → Prop} {Ls : Array Slot} {rest : List Value} {Z : State} {a0 : Array Value} {h : Heap}
def own_Wp (p : Program) (e : Env) (below : List Frame) (F : State → Outcome → Prop) (T : State) (g : JFrame) : Prop := ∃ s₂ o, Steps p.tables e below (T.setTop g) s₂ ∧ F s₂ o
def own_Fin (below : List Frame) (s : State) (Q : Option Value → Heap → List Loc → Prop) (cs sl : Nat) (s₂ : State) (o : Outcome) : Prop := s₂.status = .running ∧ Ended s₂ below o ∧ ∃ v L, o = .returned v ∧ Q v s₂.heap L ∧ FrameEnd s o s₂ L cs sl
theorem own_step (st : ∀ target, Steps p.tables e below (T'.setTop g') target → Steps p.tables e below (T.setTop g) target) (k : own_Wp p e below F T' g') : own_Wp p e below F T g := by
  obtain ⟨a, b, h1, h2⟩ := k
  exact ⟨a, b, st _ h1, h2⟩
theorem own_cast (q : g = g') (k : own_Wp p e below F T g') : own_Wp p e below F T g := q ▸ k
theorem own_leave {v : Option Value} {fs : List Frame} (st : Steps p.tables e below (T.setTop g) (T.setFrames fs)) (hrun : (T.setFrames fs).status = .running) (hended : Ended (T.setFrames fs) below (.returned v)) (hW : s.WarmedH (T.setFrames fs).vm) (hsame : s.sameButNew ({ T.setFrames fs with vm := s.vm } : State) locs cells slots) (hc : cells ≤ cs) (hs : slots ≤ sl) (hQ : Q v T.heap locs) : own_Wp p e below (own_Fin below s Q cs sl) T g :=
  ⟨_, _, st, hrun, hended, v, locs, rfl, hQ, ⟨_, rfl⟩, hW, hsame.mono hc hs⟩
theorem own_retN (X : Stand p l e R s m args below meth c T locs cells slots) (hx : p.tables.exec = Jvm.exec) {t : FieldType} {z : Int32} (hret : meth.sig.returnType = some t) (ht : t = .boolean ∨ t = .byte ∨ t = .char ∨ t = .short) (hlocks : meth.locks = false) (hd : decode c.code pc = .ok (.ireturn, 1)) (hc : cells ≤ cs) (hs : slots ≤ sl) (hQ : Q (some (.int (nar t z))) T.heap locs) : own_Wp p e below (own_Fin below s Q cs sl) T (mkF m pc Ls (.int z :: rest)) := by
  obtain ⟨fs, hr, hrun, hended, hW, hsame⟩ := X.leave (v := some (.int (nar t z))) (fun h => by rw [hret] at h; cases h) hlocks
  exact own_leave (retN X hx hret ht hd hr) hrun hended hW hsame hc hs hQ
theorem own_retI (X : Stand p l e R s m args below meth c T locs cells slots) (hx : p.tables.exec = Jvm.exec) {z : Int32} (hret : meth.sig.returnType = some .int) (hlocks : meth.locks = false) (hd : decode c.code pc = .ok (.ireturn, 1)) (hc : cells ≤ cs) (hs : slots ≤ sl) (hQ : Q (some (.int z)) T.heap locs) : own_Wp p e below (own_Fin below s Q cs sl) T (mkF m pc Ls (.int z :: rest)) := by
  obtain ⟨fs, hr, hrun, hended, hW, hsame⟩ := X.leave (v := some (.int z)) (fun h => by rw [hret] at h; cases h) hlocks
  refine own_leave ?_ hrun hended hW hsame hc hs hQ
  have hm' : T.vm.method? m = some meth := X.method'
  have hn : narrow .int (.int z) = .int z := rfl
  show Steps p.tables e below (T.setTop { method := m, pc := pc, locals := Ls, stack := _ :: rest, locked := none }) _
  jvm_step X.here [X.here.top, hx, hd, hm', hret, hn]
  first | (intro acts; rw [hr _ acts rfl rfl rfl]) | rw [hr _ _ rfl rfl rfl]
  exact Steps.refl _
theorem own_retJ (X : Stand p l e R s m args below meth c T locs cells slots) (hx : p.tables.exec = Jvm.exec) {z : Int64} (hret : meth.sig.returnType = some .long) (hlocks : meth.locks = false) (hd : decode c.code pc = .ok (.lreturn, 1)) (hc : cells ≤ cs) (hs : slots ≤ sl) (hQ : Q (some (.long z)) T.heap locs) : own_Wp p e below (own_Fin below s Q cs sl) T (mkF m pc Ls (.long z :: rest)) := by
  obtain ⟨fs, hr, hrun, hended, hW, hsame⟩ := X.leave (v := some (.long z)) (fun h => by rw [hret] at h; cases h) hlocks
  refine own_leave ?_ hrun hended hW hsame hc hs hQ
  have hm' : T.vm.method? m = some meth := X.method'
  have hn : narrow .long (.long z) = .long z := rfl
  show Steps p.tables e below (T.setTop { method := m, pc := pc, locals := Ls, stack := _ :: rest, locked := none }) _
  jvm_step X.here [X.here.top, hx, hd, hm', hret, hn]
  first | (intro acts; rw [hr _ acts rfl rfl rfl]) | rw [hr _ _ rfl rfl rfl]
  exact Steps.refl _
theorem own_retA (X : Stand p l e R s m args below meth c T locs cells slots) (hx : p.tables.exec = Jvm.exec) {t : FieldType} {v : Value} (hret : meth.sig.returnType = some t) (ht : t.isReference = true) (hv : v.isRef = true) (hlocks : meth.locks = false) (hd : decode c.code pc = .ok (.areturn, 1)) (hc : cells ≤ cs) (hs : slots ≤ sl) (hQ : Q (some v) T.heap locs) : own_Wp p e below (own_Fin below s Q cs sl) T (mkF m pc Ls (v :: rest)) := by
  obtain ⟨fs, hr, hrun, hended, hW, hsame⟩ := X.leave (v := some v) (fun h => by rw [hret] at h; cases h) hlocks
  refine own_leave ?_ hrun hended hW hsame hc hs hQ
  have hm' : T.vm.method? m = some meth := X.method'
  rcases ref_cases hv with rfl | ⟨a, rfl⟩
  · show Steps p.tables e below (T.setTop { method := m, pc := pc, locals := Ls, stack := _ :: rest, locked := none }) _
    jvm_step X.here [X.here.top, hx, hd, hm', hret, Value.isRef, ht]
    first | (intro acts; rw [hr _ acts rfl rfl rfl]) | rw [hr _ _ rfl rfl rfl]
    exact Steps.refl _
  · show Steps p.tables e below (T.setTop { method := m, pc := pc, locals := Ls, stack := _ :: rest, locked := none }) _
    jvm_step X.here [X.here.top, hx, hd, hm', hret, Value.isRef, ht]
    first | (intro acts; rw [hr _ acts rfl rfl rfl]) | rw [hr _ _ rfl rfl rfl]
    exact Steps.refl _
theorem own_retV (X : Stand p l e R s m args below meth c T locs cells slots) (hx : p.tables.exec = Jvm.exec) (hret : meth.sig.returnType = none) (hlocks : meth.locks = false) (hd : decode c.code pc = .ok (.return_, 1)) (hc : cells ≤ cs) (hs : slots ≤ sl) (hQ : Q none T.heap locs) : own_Wp p e below (own_Fin below s Q cs sl) T (mkF m pc Ls []) := by
  obtain ⟨fs, hr, hrun, hended, hW, hsame⟩ := X.leave (v := none) (fun _ => rfl) hlocks
  exact own_leave (X.returnOut hx hret hd hr) hrun hended hW hsame hc hs hQ
/-- a contract, as every body of this text has one -/
def own_Met (l : Launch) (Z : State) (y : MethodName) (cd : Cond) (ws : List Cond) (rm : Room) (as' : Array Value) (h : Heap) (Q : Option Value → Heap → List Loc → Prop) : Prop :=
  MetFree l y (head1 (cd :: ws) rm) (fun a U => a = as' ∧ Z.Warmed39 U.vm ∧ U.heap = h) (fun _ _ _ _ _ => True) (fun _ U o U' => ∃ v L, o = .returned v ∧ Q v U'.heap L ∧ FrameEnd U o U' L rm.cells rm.slots)
theorem own_met {y : MethodName} {bytes : ByteArray} {maxL : Nat} {ret : Option FieldType} {ws : List Cond} {rm : Room} {as' : Array Value} {own : String} (hpl : plainFor y = true) (ho : y.cls = own)
    (body : ∀ p e s m below meth c s₁, p.tables.exec = Jvm.exec → c.code = bytes → c.maxLocals = maxL → s.vm.findClass own = some m.cls → meth.name = y.name → meth.sig.returnType = ret → meth.locks = false → Z.Warmed39 s.vm → s₁.heap = h →
      Stand p l e rm s m as' below meth c s₁ [] 0 0 → own_Wp p e below (own_Fin below s Q rm.cells rm.slots) s₁ (entryFrame m as' maxL)) : own_Met l Z y (Cond.code y bytes maxL ret) ws rm as' h Q := by
  refine MetFree.of_bodySF hpl hisR ?_
  intro p e s m args below meth c s₁ Bd hml0 hP hK
  obtain ⟨rfl, hZ, hh⟩ := hP
  exact body p e s m below meth c s₁ Bd.exec Bd.bytes hml0 (ho ▸ findClass_of_methodNamed Bd.named) (name_of_methodNamed Bd.named Bd.method).1 Bd.returns Bd.notSynchronized hZ (by rw [← hh, Bd.state]; rfl) (Stand.of_body Bd)
theorem own_callS (X : Stand p l e R s m args below meth c T locs cells slots) (hx : p.tables.exec = Jvm.exec) (hZ : Z.Warmed39 s.vm) {own : String} {index : Nat} {y : MethodName} {bytes : ByteArray} {maxL W : Nat} {ret : Option FieldType} {rm : Room} {as' : Array Value}
    (hown : s.vm.findClass own = some m.cls) (w1 : (Cond.methodLink own index y).before a0 Z = true) (w2 : (Cond.static y).before a0 Z = true) (w3 : (Cond.initialized y.cls).before a0 Z = true) (w4 : (Cond.code y bytes maxL ret).before a0 Z = true) (hy : y.cls ≠ "java/lang/invoke/MethodHandle" ∧ y.cls ≠ "java/lang/invoke/VarHandle")
    (hM : own_Met l Z y (Cond.code y bytes maxL ret) [] rm as' h Q) (hf : rm.frames + 1 ≤ R.frames) (hl : W + (maxL + 11) + rm.locals ≤ R.locals) (argsL : List Value) (ha : argsL.toArray = as') (hlen : ∀ sig, parseMethodDescriptor y.desc = some sig → argsL.length = sig.parameters.length)
    (hsz : Ls.size = c.maxLocals) (hW : (rest.map fun v => v.category).sum ≤ W) (hd : decode c.code pc = .ok (.invokestatic index, 3)) (eT : T.heap = h) (hc : cells + rm.cells ≤ R.cells) (hs : slots + rm.slots ≤ R.slots) :
    ∃ (v : Option Value) (T' : State) (L : List Loc), Stand p l e R s m args below meth c T' (locs ++ L) (cells + rm.cells) (slots + rm.slots) ∧ Q v T'.heap L ∧ ∀ F, own_Wp p e below F T' (mkF m (pc + 3) Ls (v.toList ++ rest)) → own_Wp p e below F T (mkF m pc Ls (argsL.reverse ++ rest)) := by
  obtain ⟨v, _, ⟨T1, L1, k1, n1⟩, -, X1, ⟨Lc, hQ, l1, y1, z1⟩, st⟩ := Jvm.LawKit.callS X hx (y := y) hown (mvT hZ w1) (mvT hZ w2) (mvT hZ w3) (mvT hZ w4) hy (backOf (W := W) hM hZ w4 w3 hf hl) (g := mkF m pc Ls (argsL.reverse ++ rest)) rfl hsz (argsL := argsL) (rest := rest) hlen rfl (by show 2 * 0 + _ ≤ _; omega) hd (fun _ _ => ⟨ha, eT, hc, hs⟩)
  dsimp only [Pt.U, Pt.locs, Pt.cells, Pt.slots] at X1 l1 y1 z1 st hQ
  subst l1 y1 z1
  exact ⟨v, T1, Lc, X1, hQ, fun F k => own_step st k⟩
theorem own_callV (X : Stand p l e R s m args below meth c T locs cells slots) (hx : p.tables.exec = Jvm.exec) (hZ : Z.Warmed39 s.vm) {own C : String} {index : Nat} {y z : MethodName} {bytes : ByteArray} {maxL W : Nat} {ret : Option FieldType} {rm : Room} {as' : Array Value} {b : Addr}
    (hown : s.vm.findClass own = some m.cls) (w1 : (Cond.methodLink own index y).before a0 Z = true) (w2 : (Cond.declares y).before a0 Z = true) (hnf : NotFace s y) (w3 : (Cond.selects C y z).before a0 Z = true) (w5 : (Cond.instanceMethod z).before a0 Z = true) (w6 : (Cond.initialized z.cls).before a0 Z = true) (w4 : (Cond.code z bytes maxL ret).before a0 Z = true) (hy : y.cls ≠ "java/lang/invoke/MethodHandle" ∧ y.cls ≠ "java/lang/invoke/VarHandle") (E : Exa Z h b C)
    (hM : own_Met l Z z (Cond.code z bytes maxL ret) [] rm as' h Q) (hf : rm.frames + 1 ≤ R.frames) (hl : W + (maxL + 11) + rm.locals ≤ R.locals) (argsL : List Value) (ha : (.ref b :: argsL).toArray = as') (hlen : ∀ sig, parseMethodDescriptor y.desc = some sig → argsL.length = sig.parameters.length)
    (hsz : Ls.size = c.maxLocals) (hW : (rest.map fun v => v.category).sum ≤ W) (hd : decode c.code pc = .ok (.invokevirtual index, 3)) (eT : T.heap = h) (hc : cells + rm.cells ≤ R.cells) (hs : slots + rm.slots ≤ R.slots) :
    ∃ (v : Option Value) (T' : State) (L : List Loc), Stand p l e R s m args below meth c T' (locs ++ L) (cells + rm.cells) (slots + rm.slots) ∧ Q v T'.heap L ∧ ∀ F, own_Wp p e below F T' (mkF m (pc + 3) Ls (v.toList ++ rest)) → own_Wp p e below F T (mkF m pc Ls (argsL.reverse ++ .ref b :: rest)) := by
  obtain ⟨cq, kq, qa, qb, qc⟩ := isOf hZ eT E
  obtain ⟨v, _, ⟨T1, L1, k1, n1⟩, -, X1, ⟨Lc, hQ, l1, y1, z1⟩, st⟩ := X.virtualBack hx (y := y) (z := z) hown (mvT hZ w1) (mvT hZ w2) hnf (mvT hZ w3) (mvT hZ w5) hy (backOf (W := W) hM hZ w4 w6 hf hl) qa qc (g := mkF m pc Ls (argsL.reverse ++ .ref b :: rest)) rfl hsz (Steps.refl _) (argsL := argsL) (rest := rest) hlen rfl (by show 2 * 0 + _ ≤ _; omega) hd (fun _ _ => ⟨ha, eT, hc, hs⟩)
  dsimp only [Pt.U, Pt.locs, Pt.cells, Pt.slots] at X1 l1 y1 z1 st hQ
  subst l1 y1 z1
  exact ⟨v, T1, Lc, X1, hQ, fun F k => own_step (fun _ q => st.trans q) k⟩
theorem own_callN (X : Stand p l e R s m args below meth c T locs cells slots) (hx : p.tables.exec = Jvm.exec) (hZ : Z.Warmed39 s.vm) {own : String} {index : Nat} {y : MethodName} {bytes : ByteArray} {maxL W : Nat} {rm : Room} {as' : Array Value} {b : Addr}
    (hn : y.name = "<init>") (hown : s.vm.findClass own = some m.cls) (w1 : (Cond.methodLink own index y).before a0 Z = true) (w5 : (Cond.instanceMethod y).before a0 Z = true) (w6 : (Cond.initialized y.cls).before a0 Z = true) (w4 : (Cond.code y bytes maxL none).before a0 Z = true) (hy : y.cls ≠ "java/lang/invoke/MethodHandle" ∧ y.cls ≠ "java/lang/invoke/VarHandle")
    (hM : own_Met l Z y (Cond.code y bytes maxL none) [] rm as' h Q) (hf : rm.frames + 1 ≤ R.frames) (hl : W + (maxL + 11) + rm.locals ≤ R.locals) (argsL : List Value) (ha : (.ref b :: argsL).toArray = as') (hlen : ∀ sig, parseMethodDescriptor y.desc = some sig → argsL.length = sig.parameters.length)
    (hsz : Ls.size = c.maxLocals) (hW : (rest.map fun v => v.category).sum ≤ W) (hd : decode c.code pc = .ok (.invokespecial index, 3)) (eT : T.heap = h) (hc : cells + rm.cells ≤ R.cells) (hs : slots + rm.slots ≤ R.slots) :
    ∃ (v : Option Value) (T' : State) (L : List Loc), Stand p l e R s m args below meth c T' (locs ++ L) (cells + rm.cells) (slots + rm.slots) ∧ Q v T'.heap L ∧ ∀ F, own_Wp p e below F T' (mkF m (pc + 3) Ls (v.toList ++ rest)) → own_Wp p e below F T (mkF m pc Ls (argsL.reverse ++ .ref b :: rest)) := by
  obtain ⟨v, _, ⟨T1, L1, k1, n1⟩, -, X1, ⟨Lc, hQ, l1, y1, z1⟩, st⟩ := X.specialBack hx (y := y) hn hown (mvT hZ w1) (mvT hZ w5) (mvT hZ w4) hy (backOf (W := W) hM hZ w4 w6 hf hl) (g := mkF m pc Ls (argsL.reverse ++ .ref b :: rest)) rfl hsz (Steps.refl _) (a := b) (argsL := argsL) (rest := rest) hlen rfl (by show 2 * 0 + _ ≤ _; omega) hd (fun _ _ => ⟨ha, eT, hc, hs⟩)
  dsimp only [Pt.U, Pt.locs, Pt.cells, Pt.slots] at X1 l1 y1 z1 st hQ
  subst l1 y1 z1
  exact ⟨v, T1, Lc, X1, hQ, fun F k => own_step (fun _ q => st.trans q) k⟩
theorem own_callU (X : Stand p l e R s m args below meth c T locs cells slots) (hx : p.tables.exec = Jvm.exec) (hZ : Z.Warmed39 s.vm) {own C owner : String} {index : Nat} {y z : MethodName} {bytes : ByteArray} {maxL W : Nat} {ret : Option FieldType} {rm : Room} {as' : Array Value} {b : Addr}
    (hown : s.vm.findClass own = some m.cls) (w1 : (Cond.methodLink own index y).before a0 Z = true) (w2 : (Cond.sameMethod y.cls owner y.name y.desc).before a0 Z = true) (w7 : (Cond.declares ⟨owner, y.name, y.desc⟩).before a0 Z = true) (w3 : (Cond.selects C y z).before a0 Z = true) (w5 : (Cond.instanceMethod z).before a0 Z = true) (w6 : (Cond.initialized z.cls).before a0 Z = true) (w4 : (Cond.code z bytes maxL ret).before a0 Z = true) (hy : owner ≠ "java/lang/invoke/MethodHandle" ∧ owner ≠ "java/lang/invoke/VarHandle") (E : Exa Z h b C)
    (hM : own_Met l Z z (Cond.code z bytes maxL ret) [] rm as' h Q) (hf : rm.frames + 1 ≤ R.frames) (hl : W + (maxL + 11) + rm.locals ≤ R.locals) (argsL : List Value) (ha : (.ref b :: argsL).toArray = as') (hlen : ∀ sig, parseMethodDescriptor y.desc = some sig → argsL.length = sig.parameters.length)
    (hsz : Ls.size = c.maxLocals) (hW : (rest.map fun v => v.category).sum ≤ W) (hd : decode c.code pc = .ok (.invokevirtual index, 3)) (eT : T.heap = h) (hc : cells + rm.cells ≤ R.cells) (hs : slots + rm.slots ≤ R.slots) :
    ∃ (v : Option Value) (T' : State) (L : List Loc), Stand p l e R s m args below meth c T' (locs ++ L) (cells + rm.cells) (slots + rm.slots) ∧ Q v T'.heap L ∧ ∀ F, own_Wp p e below F T' (mkF m (pc + 3) Ls (v.toList ++ rest)) → own_Wp p e below F T (mkF m pc Ls (argsL.reverse ++ .ref b :: rest)) := by
  obtain ⟨cq, kq, qa, qb, qc⟩ := isOf hZ eT E
  obtain ⟨v, _, ⟨T1, L1, k1, n1⟩, -, X1, ⟨Lc, hQ, l1, y1, z1⟩, st⟩ := X.virtualBackUp hx (x := y) (y := z) hown (mvT hZ w1) (mvT hZ w2) (mvT hZ w7) hy (mvT hZ w3) (mvT hZ w5) (backOf (W := W) hM hZ w4 w6 hf hl) qa qc (g := mkF m pc Ls (argsL.reverse ++ .ref b :: rest)) rfl hsz (Steps.refl _) (argsL := argsL) (rest := rest) hlen rfl (by show 2 * 0 + _ ≤ _; omega) hd (fun _ _ => ⟨ha, eT, hc, hs⟩)
  dsimp only [Pt.U, Pt.locs, Pt.cells, Pt.slots] at X1 l1 y1 z1 st hQ
  subst l1 y1 z1
  exact ⟨v, T1, Lc, X1, hQ, fun F k => own_step (fun _ q => st.trans q) k⟩
theorem own_callF (X : Stand p l e R s m args below meth c T locs cells slots) (hx : p.tables.exec = Jvm.exec) (hZ : Z.Warmed39 s.vm) {own C : String} {index count : Nat} {y z : MethodName} {bytes : ByteArray} {maxL W : Nat} {ret : Option FieldType} {rm : Room} {as' : Array Value} {b : Addr}
    (hown : s.vm.findClass own = some m.cls) (w1 : (Cond.methodLink own index y).before a0 Z = true) (w2 : (Cond.declares y).before a0 Z = true) (w7 : (Cond.interfaceMethod y.cls y.cls y.name y.desc).before a0 Z = true) (hfa : ((Cond.interfaceMethod y.cls y.cls y.name y.desc).onTables && (Cond.interfaceMethod y.cls y.cls y.name y.desc).keepsFace) = true) (w3 : (Cond.selects C y z).before a0 Z = true) (w5 : (Cond.instanceMethod z).before a0 Z = true) (w8 : (Cond.publicMethod z).before a0 Z = true) (w9 : (Cond.unhidden C y.name y.desc).before a0 Z = true) (w10 : (Cond.castable C y.cls).before a0 Z = true) (w6 : (Cond.initialized z.cls).before a0 Z = true) (w4 : (Cond.code z bytes maxL ret).before a0 Z = true) (hy : y.cls ≠ "java/lang/invoke/MethodHandle" ∧ y.cls ≠ "java/lang/invoke/VarHandle") (E : Exa Z h b C)
    (hM : own_Met l Z z (Cond.code z bytes maxL ret) [] rm as' h Q) (hf : rm.frames + 1 ≤ R.frames) (hl : W + (maxL + 11) + rm.locals ≤ R.locals) (argsL : List Value) (ha : (.ref b :: argsL).toArray = as') (hlen : ∀ sig, parseMethodDescriptor y.desc = some sig → argsL.length = sig.parameters.length)
    (hsz : Ls.size = c.maxLocals) (hW : (rest.map fun v => v.category).sum ≤ W) (hd : decode c.code pc = .ok (.invokeinterface index count, 5)) (eT : T.heap = h) (hc : cells + rm.cells ≤ R.cells) (hs : slots + rm.slots ≤ R.slots) :
    ∃ (v : Option Value) (T' : State) (L : List Loc), Stand p l e R s m args below meth c T' (locs ++ L) (cells + rm.cells) (slots + rm.slots) ∧ Q v T'.heap L ∧ ∀ F, own_Wp p e below F T' (mkF m (pc + 5) Ls (v.toList ++ rest)) → own_Wp p e below F T (mkF m pc Ls (argsL.reverse ++ .ref b :: rest)) := by
  obtain ⟨cq, kq, qa, qb, qc⟩ := isOf hZ eT E
  obtain ⟨v, _, ⟨T1, L1, k1, n1⟩, -, X1, ⟨Lc, hQ, l1, y1, z1⟩, st⟩ := X.interfaceBack hx (xi := y) (y := z) hown (mvT hZ w1) (mvT hZ w2) (mvT hZ w7 hfa) (mvT hZ w3) (mvT hZ w5) (mvT hZ w8) (mvT hZ w9) (mvT hZ w10) hy (backOf (W := W) hM hZ w4 w6 hf hl) qa qb qc (g := mkF m pc Ls (argsL.reverse ++ .ref b :: rest)) rfl hsz (Steps.refl _) (argsL := argsL) (rest := rest) hlen rfl (by show 2 * 0 + _ ≤ _; omega) hd (fun _ _ => ⟨ha, eT, hc, hs⟩)
  dsimp only [Pt.U, Pt.locs, Pt.cells, Pt.slots] at X1 l1 y1 z1 st hQ
  subst l1 y1 z1
  exact ⟨v, T1, Lc, X1, hQ, fun F k => own_step (fun _ q => st.trans q) k⟩
theorem own_callP (X : Stand p l e R s m args below meth c T locs cells slots) (hx : p.tables.exec = Jvm.exec) (hZ : Z.Warmed39 s.vm) {own : String} {index : Nat} {y : MethodName} {bytes : ByteArray} {maxL W : Nat} {ret : Option FieldType} {rm : Room} {as' : Array Value} {b : Addr}
    (hown : s.vm.findClass own = some m.cls) (w1 : (Cond.methodLink own index y).before a0 Z = true) (w5 : (Cond.instanceMethod y).before a0 Z = true) (w7 : (Cond.selects y.cls y y).before a0 Z = true) (w8 : (Cond.privateMethod y).before a0 Z = true) (w6 : (Cond.initialized y.cls).before a0 Z = true) (w4 : (Cond.code y bytes maxL ret).before a0 Z = true) (hy : y.cls ≠ "java/lang/invoke/MethodHandle" ∧ y.cls ≠ "java/lang/invoke/VarHandle") {C : String} (E : Exa Z h b C)
    (hM : own_Met l Z y (Cond.code y bytes maxL ret) [] rm as' h Q) (hf : rm.frames + 1 ≤ R.frames) (hl : W + (maxL + 11) + rm.locals ≤ R.locals) (argsL : List Value) (ha : (.ref b :: argsL).toArray = as') (hlen : ∀ sig, parseMethodDescriptor y.desc = some sig → argsL.length = sig.parameters.length)
    (hsz : Ls.size = c.maxLocals) (hW : (rest.map fun v => v.category).sum ≤ W) (hd : decode c.code pc = .ok (.invokevirtual index, 3)) (eT : T.heap = h) (hc : cells + rm.cells ≤ R.cells) (hs : slots + rm.slots ≤ R.slots) :
    ∃ (v : Option Value) (T' : State) (L : List Loc), Stand p l e R s m args below meth c T' (locs ++ L) (cells + rm.cells) (slots + rm.slots) ∧ Q v T'.heap L ∧ ∀ F, own_Wp p e below F T' (mkF m (pc + 3) Ls (v.toList ++ rest)) → own_Wp p e below F T (mkF m pc Ls (argsL.reverse ++ .ref b :: rest)) := by
  obtain ⟨cq, q1, q2⟩ := E.cell
  obtain ⟨v, _, ⟨T1, L1, k1, n1⟩, -, X1, ⟨Lc, hQ, l1, y1, z1⟩, st⟩ := X.privateBack hx (y := y) hown (mvT hZ w1) (mvT hZ w5) (mvT hZ w7) (Cond.privateMethod_at (mvP hZ w8 (args := #[]))) (mvT hZ w4) hy (backOf (W := W) hM hZ w4 w6 hf hl) (g := mkF m pc Ls (argsL.reverse ++ .ref b :: rest)) rfl hsz (Steps.refl _) (a := b) (by rw [eT]; exact q1) q2 (argsL := argsL) (rest := rest) hlen rfl (by show 2 * 0 + _ ≤ _; omega) hd (fun _ _ => ⟨ha, eT, hc, hs⟩)
  dsimp only [Pt.U, Pt.locs, Pt.cells, Pt.slots] at X1 l1 y1 z1 st hQ
  subst l1 y1 z1
  exact ⟨v, T1, Lc, X1, hQ, fun F k => own_step (fun _ q => st.trans q) k⟩
/-- the words of a long conjunction, as a list -/
def own_flat : Cond → List Cond
  | .and a b => a :: own_flat b
  | c => [c]
theorem own_mem {args : Array Value} {Z : State} : ∀ c : Cond, c.value args Z none Z [] = some true → ∀ d ∈ own_flat c, d.value args Z none Z [] = some true
  | .and a b, h, d, hd => by
    obtain ⟨h1, h2⟩ := and_e h
    rcases List.mem_cons.mp hd with rfl | q
    · exact h1
    · exact own_mem b h2 d q
  | .tt, h, d, hd => by cases List.mem_singleton.mp hd; exact h
  | c, h, d, hd => by
    unfold own_flat at hd
    split at hd
    · rename_i a b
      obtain ⟨h1, h2⟩ := and_e h
      rcases List.mem_cons.mp hd with rfl | q
      · exact h1
      · exact own_mem b h2 d q
    · cases List.mem_singleton.mp hd; exact h
/-- the object that a term of the start names -/
def own_t (Z : State) (t : Term) : Addr := match t.eval #[] Z none [] Z with
  | some (.ref a) => a
  | _ => 0
theorem own_t_eq {t : Term} {a : Addr} (h : t.eval a0 Z none [] Z = some (.ref a)) (hr : t.eval a0 Z none [] Z = t.eval #[] Z none [] Z) : own_t Z t = a := by
  rw [hr] at h
  simp only [own_t, h]
theorem own_ev {t : Term} {K : String} (h : (Cond.exactly t K).value a0 Z none Z [] = some true) (hr : t.eval a0 Z none [] Z = t.eval #[] Z none [] Z) : t.eval a0 Z none [] Z = some (.ref (own_t Z t)) := by
  obtain ⟨a, ev⟩ := exa_v h
  rw [own_t_eq ev hr]
  exact ev
theorem own_evA {t : Term} {ty : FieldType} (h : (Cond.arrayOf t ty).value a0 Z none Z [] = some true) (hr : t.eval a0 Z none [] Z = t.eval #[] Z none [] Z) : t.eval a0 Z none [] Z = some (.ref (own_t Z t)) := by
  obtain ⟨a, ev⟩ := arr_v h
  rw [own_t_eq ev hr]
  exact ev
theorem own_eqI {t : Term} {z : Int32} (q : (Cond.eq t (.int z)).value a0 Z none Z [] = some true) : t.eval a0 Z none [] Z = some (.int z) := by
  cases hf : t.eval a0 Z none [] Z with
  | none => simp [Cond.value, hf] at q
  | some v => cases v <;> simp [Cond.value, Term.eval, hf] at q <;> first | (rw [q]; done) | exact congrArg (fun z => some (Value.int z)) q | skip
theorem own_eqR {t u : Term} {b : Addr} (q : (Cond.eq t u).value a0 Z none Z [] = some true) (ev : u.eval a0 Z none [] Z = some (.ref b)) : t.eval a0 Z none [] Z = some (.ref b) := by
  cases hf : t.eval a0 Z none [] Z with
  | none => simp [Cond.value, hf] at q
  | some v => cases v <;> simp [Cond.value, hf, ev] at q <;> first | (rw [q]; done) | exact congrArg (fun z => some (Value.ref z)) q | skip
theorem own_fld {t : Term} {O f d : String} {a : Addr} {v : Value} (ev : t.eval a0 Z none [] Z = some (.ref a)) (q : (Term.field t O f d).eval a0 Z none [] Z = some v) : Fld Z Z.heap a O f d v := by
  refine Fld.start ?_
  simp only [Term.eval, ev, Option.bind_eq_bind, Option.bind_some] at q
  exact q
theorem own_len {t : Term} {ty : FieldType} {a : Addr} {cl : Cell} {z : Int32} (A : Arr Z Z.heap a cl ty) (ev : t.eval a0 Z none [] Z = some (.ref a)) (q : (Cond.eq (.length t) (.int z)).value a0 Z none Z [] = some true) : cl.slots.size < 2 ^ 31 ∧ cl.slots.size.toInt32 = z := by
  have e0 : Z.arrayAt? a = some cl := Arr.fin (Vm.Alike.refl _) A
  have q2 := own_eqI q
  simp only [Term.eval, ev, e0, Option.bind_eq_bind, Option.bind_some] at q2
  split at q2
  · rename_i g
    exact ⟨g, by simpa using q2⟩
  · cases q2
theorem own_el {t : Term} {ty : FieldType} {a : Addr} {cl : Cell} {i : Int32} {v : Value} (A : Arr Z Z.heap a cl ty) (ev : t.eval a0 Z none [] Z = some (.ref a)) (q : (Term.elem t (.int i)).eval a0 Z none [] Z = some v) : cl.slots[i.toNatClampNeg]? = some v := by
  have e0 : Z.arrayAt? a = some cl := Arr.fin (Vm.Alike.refl _) A
  simp only [Term.eval, ev, e0, Option.bind_eq_bind, Option.bind_some] at q
  split at q
  · cases q
  · exact q
def own_i (Z : State) (t : Term) : Int32 := match t.eval #[] Z none [] Z with
  | some (.int a) => a
  | _ => 0
theorem own_evI {t : Term} (h : (Cond.isInt t).value a0 Z none Z [] = some true) (hr : t.eval a0 Z none [] Z = t.eval #[] Z none [] Z) : t.eval a0 Z none [] Z = some (.int (own_i Z t)) := by
  obtain ⟨a, ev⟩ := is_v h
  have q := ev
  rw [hr] at q
  have e : own_i Z t = a := by simp only [own_i, q]
  rw [e]
  exact ev
theorem own_neI {t : Term} {z a : Int32} (h : (Cond.not (.eq t (.int z))).value a0 Z none Z [] = some true) (ev : t.eval a0 Z none [] Z = some (.int a)) : ¬ (a = z) := by
  have q := not_v h
  simp only [Cond.value, ev, Term.eval] at q
  intro e
  subst e
  simp at q
theorem own_fitc {c : Int32} (h : nar .char c = c) : fits .char (.int c) = true := by
  have q := fits_nar_char c
  rw [h] at q
  exact q
theorem own_narb {c : Int32} (h : c = (0 : Int32) ∨ c = (1 : Int32)) : nar .boolean c = c := by rcases h with rfl | rfl <;> rfl
theorem own_nb {c : Int32} (h : c = (0 : Int32) ∨ c = (1 : Int32)) : narrow .boolean (.int c) = .int c := by rcases h with rfl | rfl <;> rfl
theorem own_fb {c : Int32} (h : c = (0 : Int32) ∨ c = (1 : Int32)) : fits .boolean (.int c) = true := by rcases h with rfl | rfl <;> rfl
theorem own_lc3 (a b : Int64) : (a < b ∧ lcmpW a b = -1) ∨ (a = b ∧ lcmpW a b = 0) ∨ (b < a ∧ lcmpW a b = 1) := by
  by_cases h : b < a
  · exact Or.inr (Or.inr ⟨h, if_pos h⟩)
  · by_cases h2 : a = b
    · exact Or.inr (Or.inl ⟨h2, (if_neg h).trans (if_pos h2)⟩)
    · refine Or.inl ⟨?_, (if_neg h).trans (if_neg h2)⟩
      simp only [Int64.lt_iff_toInt_lt, ← Int64.toInt_inj] at h h2 ⊢
      omega
theorem own_lcltY {a b : Int64} (h : a < b) : ifCond.holds .lt (lcmpW a b) = true := by
  rcases own_lc3 a b with ⟨h1, e⟩ | ⟨h1, e⟩ | ⟨h1, e⟩ <;> first | (rw [e]; decide) | (exfalso; simp only [Int64.lt_iff_toInt_lt, ← Int64.toInt_inj] at h h1; omega)
theorem own_lcltN {a b : Int64} (h : ¬ (a < b)) : ifCond.holds .lt (lcmpW a b) = false := by
  rcases own_lc3 a b with ⟨h1, e⟩ | ⟨h1, e⟩ | ⟨h1, e⟩ <;> first | (rw [e]; decide) | (exfalso; simp only [Int64.lt_iff_toInt_lt, ← Int64.toInt_inj] at h h1; omega)
theorem own_lcgeY {a b : Int64} (h : ¬ (a < b)) : ifCond.holds .ge (lcmpW a b) = true := by
  rcases own_lc3 a b with ⟨h1, e⟩ | ⟨h1, e⟩ | ⟨h1, e⟩ <;> first | (rw [e]; decide) | (exfalso; simp only [Int64.lt_iff_toInt_lt, ← Int64.toInt_inj] at h h1; omega)
theorem own_lcgeN {a b : Int64} (h : a < b) : ifCond.holds .ge (lcmpW a b) = false := by
  rcases own_lc3 a b with ⟨h1, e⟩ | ⟨h1, e⟩ | ⟨h1, e⟩ <;> first | (rw [e]; decide) | (exfalso; simp only [Int64.lt_iff_toInt_lt, ← Int64.toInt_inj] at h h1; omega)
theorem own_lcgtY {a b : Int64} (h : b < a) : ifCond.holds .gt (lcmpW a b) = true := by
  rcases own_lc3 a b with ⟨h1, e⟩ | ⟨h1, e⟩ | ⟨h1, e⟩ <;> first | (rw [e]; decide) | (exfalso; simp only [Int64.lt_iff_toInt_lt, ← Int64.toInt_inj] at h h1; omega)
theorem own_lcgtN {a b : Int64} (h : ¬ (b < a)) : ifCond.holds .gt (lcmpW a b) = false := by
  rcases own_lc3 a b with ⟨h1, e⟩ | ⟨h1, e⟩ | ⟨h1, e⟩ <;> first | (rw [e]; decide) | (exfalso; simp only [Int64.lt_iff_toInt_lt, ← Int64.toInt_inj] at h h1; omega)
theorem own_lcleY {a b : Int64} (h : ¬ (b < a)) : ifCond.holds .le (lcmpW a b) = true := by
  rcases own_lc3 a b with ⟨h1, e⟩ | ⟨h1, e⟩ | ⟨h1, e⟩ <;> first | (rw [e]; decide) | (exfalso; simp only [Int64.lt_iff_toInt_lt, ← Int64.toInt_inj] at h h1; omega)
theorem own_lcleN {a b : Int64} (h : b < a) : ifCond.holds .le (lcmpW a b) = false := by
  rcases own_lc3 a b with ⟨h1, e⟩ | ⟨h1, e⟩ | ⟨h1, e⟩ <;> first | (rw [e]; decide) | (exfalso; simp only [Int64.lt_iff_toInt_lt, ← Int64.toInt_inj] at h h1; omega)
theorem own_lceqY {a b : Int64} (h : a = b) : ifCond.holds .eq (lcmpW a b) = true := by
  rcases own_lc3 a b with ⟨h1, e⟩ | ⟨h1, e⟩ | ⟨h1, e⟩ <;> first | (rw [e]; decide) | (exfalso; simp only [Int64.lt_iff_toInt_lt, ← Int64.toInt_inj] at h h1; omega)
theorem own_lceqN {a b : Int64} (h : ¬ (a = b)) : ifCond.holds .eq (lcmpW a b) = false := by
  rcases own_lc3 a b with ⟨h1, e⟩ | ⟨h1, e⟩ | ⟨h1, e⟩ <;> first | (rw [e]; decide) | (exfalso; simp only [Int64.lt_iff_toInt_lt, ← Int64.toInt_inj] at h h1; omega)
theorem own_lcneY {a b : Int64} (h : ¬ (a = b)) : ifCond.holds .ne (lcmpW a b) = true := by
  rcases own_lc3 a b with ⟨h1, e⟩ | ⟨h1, e⟩ | ⟨h1, e⟩ <;> first | (rw [e]; decide) | (exfalso; simp only [Int64.lt_iff_toInt_lt, ← Int64.toInt_inj] at h h1; omega)
theorem own_lcneN {a b : Int64} (h : a = b) : ifCond.holds .ne (lcmpW a b) = false := by
  rcases own_lc3 a b with ⟨h1, e⟩ | ⟨h1, e⟩ | ⟨h1, e⟩ <;> first | (rw [e]; decide) | (exfalso; simp only [Int64.lt_iff_toInt_lt, ← Int64.toInt_inj] at h h1; omega)
end OwnLayer
theorem own_get {c : Cell} {vs : List Value} {d : Value} {z j : Int32} (S : c.slots.size = z.toNatClampNeg) (H : Has c vs d) (q : ¬ (j < 0 ∨ c.slots.size ≤ j.toNatClampNeg)) (i : Nat) (hj : j.toNatClampNeg = i) : c.slots[j.toNatClampNeg]? = some (vs.getD i d) := by
  subst hj
  exact H _ (Nat.lt_of_not_le fun r => q (Or.inr r))
theorem own_mod (x : Int32) {n : Int32} (hn : 0 < n.toInt) : 0 ≤ ((x &&& (2147483647 : Int32)) % n).toInt ∧ ((x &&& (2147483647 : Int32)) % n).toInt < n.toInt := by
  have h := (Jvm.Kit.i32_and_bounds x (m := (2147483647 : Int32)) (by decide)).1
  have h0 : 0 ≤ (x &&& (2147483647 : Int32)).toInt := Jvm.Kit.i32_nonneg.mp h
  rw [Int32.toInt_mod]
  exact ⟨Int.tmod_nonneg _ h0, Int.tmod_lt_of_pos _ hn⟩
theorem own_mod9 (x : Int32) : (x &&& (2147483647 : Int32)) % (9 : Int32) = (0 : Int32) ∨ (x &&& (2147483647 : Int32)) % (9 : Int32) = (1 : Int32) ∨ (x &&& (2147483647 : Int32)) % (9 : Int32) = (2 : Int32) ∨ (x &&& (2147483647 : Int32)) % (9 : Int32) = (3 : Int32) ∨ (x &&& (2147483647 : Int32)) % (9 : Int32) = (4 : Int32) ∨ (x &&& (2147483647 : Int32)) % (9 : Int32) = (5 : Int32) ∨ (x &&& (2147483647 : Int32)) % (9 : Int32) = (6 : Int32) ∨ (x &&& (2147483647 : Int32)) % (9 : Int32) = (7 : Int32) ∨ (x &&& (2147483647 : Int32)) % (9 : Int32) = (8 : Int32) := by
  have h := own_mod x (n := (9 : Int32)) (by decide)
  generalize (x &&& (2147483647 : Int32)) % (9 : Int32) = y at h ⊢
  have e : (9 : Int32).toInt = 9 := rfl
  rw [e] at h
  simp only [← Int32.toInt_inj]
  show y.toInt = 0 ∨ y.toInt = 1 ∨ y.toInt = 2 ∨ y.toInt = 3 ∨ y.toInt = 4 ∨ y.toInt = 5 ∨ y.toInt = 6 ∨ y.toInt = 7 ∨ y.toInt = 8
  omega
def w0_MOFFAT (Z : State) : Addr := own_t Z (Jvm.Term.static "com/example/linepack/linepack/PointClass" "MOFFAT" "Lcom/example/linepack/linepack/PointClass;")
theorem ev_w0_MOFFAT {Z : State} {a0 : Array Value} (hw : ∀ d ∈ tables_1, d.before a0 Z = true) (hA : ∀ d ∈ own_flat narrow_1, d.value a0 Z none Z [] = some true) : (Jvm.Term.static "com/example/linepack/linepack/PointClass" "MOFFAT" "Lcom/example/linepack/linepack/PointClass;").eval a0 Z none [] Z = some (.ref (w0_MOFFAT Z)) := own_ev (hA _ (List.mem_of_getElem? (i := 0) rfl)) rfl
def w1_INCH (Z : State) : Addr := own_t Z (Jvm.Term.static "com/example/linepack/linepack/PointClass" "INCH" "Lcom/example/linepack/linepack/PointClass;")
theorem ev_w1_INCH {Z : State} {a0 : Array Value} (hw : ∀ d ∈ tables_1, d.before a0 Z = true) (hA : ∀ d ∈ own_flat narrow_1, d.value a0 Z none Z [] = some true) : (Jvm.Term.static "com/example/linepack/linepack/PointClass" "INCH" "Lcom/example/linepack/linepack/PointClass;").eval a0 Z none [] Z = some (.ref (w1_INCH Z)) := own_ev (hA _ (List.mem_of_getElem? (i := 1) rfl)) rfl
def w2_BELLANABOY (Z : State) : Addr := own_t Z (Jvm.Term.static "com/example/linepack/linepack/PointClass" "BELLANABOY" "Lcom/example/linepack/linepack/PointClass;")
theorem ev_w2_BELLANABOY {Z : State} {a0 : Array Value} (hw : ∀ d ∈ tables_1, d.before a0 Z = true) (hA : ∀ d ∈ own_flat narrow_1, d.value a0 Z none Z [] = some true) : (Jvm.Term.static "com/example/linepack/linepack/PointClass" "BELLANABOY" "Lcom/example/linepack/linepack/PointClass;").eval a0 Z none [] Z = some (.ref (w2_BELLANABOY Z)) := own_ev (hA _ (List.mem_of_getElem? (i := 2) rfl)) rfl
def w3_LDM (Z : State) : Addr := own_t Z (Jvm.Term.static "com/example/linepack/linepack/PointClass" "LDM" "Lcom/example/linepack/linepack/PointClass;")
theorem ev_w3_LDM {Z : State} {a0 : Array Value} (hw : ∀ d ∈ tables_1, d.before a0 Z = true) (hA : ∀ d ∈ own_flat narrow_1, d.value a0 Z none Z [] = some true) : (Jvm.Term.static "com/example/linepack/linepack/PointClass" "LDM" "Lcom/example/linepack/linepack/PointClass;").eval a0 Z none [] Z = some (.ref (w3_LDM Z)) := own_ev (hA _ (List.mem_of_getElem? (i := 3) rfl)) rfl
def w4_DM (Z : State) : Addr := own_t Z (Jvm.Term.static "com/example/linepack/linepack/PointClass" "DM" "Lcom/example/linepack/linepack/PointClass;")
theorem ev_w4_DM {Z : State} {a0 : Array Value} (hw : ∀ d ∈ tables_1, d.before a0 Z = true) (hA : ∀ d ∈ own_flat narrow_1, d.value a0 Z none Z [] = some true) : (Jvm.Term.static "com/example/linepack/linepack/PointClass" "DM" "Lcom/example/linepack/linepack/PointClass;").eval a0 Z none [] Z = some (.ref (w4_DM Z)) := own_ev (hA _ (List.mem_of_getElem? (i := 4) rfl)) rfl
def w5_NDM (Z : State) : Addr := own_t Z (Jvm.Term.static "com/example/linepack/linepack/PointClass" "NDM" "Lcom/example/linepack/linepack/PointClass;")
theorem ev_w5_NDM {Z : State} {a0 : Array Value} (hw : ∀ d ∈ tables_1, d.before a0 Z = true) (hA : ∀ d ∈ own_flat narrow_1, d.value a0 Z none Z [] = some true) : (Jvm.Term.static "com/example/linepack/linepack/PointClass" "NDM" "Lcom/example/linepack/linepack/PointClass;").eval a0 Z none [] Z = some (.ref (w5_NDM Z)) := own_ev (hA _ (List.mem_of_getElem? (i := 5) rfl)) rfl
def w6_INCH_STORAGE_EXIT (Z : State) : Addr := own_t Z (Jvm.Term.static "com/example/linepack/linepack/PointClass" "INCH_STORAGE_EXIT" "Lcom/example/linepack/linepack/PointClass;")
theorem ev_w6_INCH_STORAGE_EXIT {Z : State} {a0 : Array Value} (hw : ∀ d ∈ tables_1, d.before a0 Z = true) (hA : ∀ d ∈ own_flat narrow_1, d.value a0 Z none Z [] = some true) : (Jvm.Term.static "com/example/linepack/linepack/PointClass" "INCH_STORAGE_EXIT" "Lcom/example/linepack/linepack/PointClass;").eval a0 Z none [] Z = some (.ref (w6_INCH_STORAGE_EXIT Z)) := own_ev (hA _ (List.mem_of_getElem? (i := 6) rfl)) rfl
def w7_SN_IP (Z : State) : Addr := own_t Z (Jvm.Term.static "com/example/linepack/linepack/PointClass" "SN_IP" "Lcom/example/linepack/linepack/PointClass;")
theorem ev_w7_SN_IP {Z : State} {a0 : Array Value} (hw : ∀ d ∈ tables_1, d.before a0 Z = true) (hA : ∀ d ∈ own_flat narrow_1, d.value a0 Z none Z [] = some true) : (Jvm.Term.static "com/example/linepack/linepack/PointClass" "SN_IP" "Lcom/example/linepack/linepack/PointClass;").eval a0 Z none [] Z = some (.ref (w7_SN_IP Z)) := own_ev (hA _ (List.mem_of_getElem? (i := 7) rfl)) rfl
def w8_SUBSEA_IC (Z : State) : Addr := own_t Z (Jvm.Term.static "com/example/linepack/linepack/PointClass" "SUBSEA_IC" "Lcom/example/linepack/linepack/PointClass;")
theorem ev_w8_SUBSEA_IC {Z : State} {a0 : Array Value} (hw : ∀ d ∈ tables_1, d.before a0 Z = true) (hA : ∀ d ∈ own_flat narrow_1, d.value a0 Z none Z [] = some true) : (Jvm.Term.static "com/example/linepack/linepack/PointClass" "SUBSEA_IC" "Lcom/example/linepack/linepack/PointClass;").eval a0 Z none [] Z = some (.ref (w8_SUBSEA_IC Z)) := own_ev (hA _ (List.mem_of_getElem? (i := 8) rfl)) rfl
theorem ex_w0_MOFFAT {Z : State} {a0 : Array Value} (hw : ∀ d ∈ tables_1, d.before a0 Z = true) (hA : ∀ d ∈ own_flat narrow_1, d.value a0 Z none Z [] = some true) : Exa Z Z.heap (w0_MOFFAT Z) "com/example/linepack/linepack/PointClass" := Exa.start (ev_w0_MOFFAT hw hA) (hA _ (List.mem_of_getElem? (i := 0) rfl))
theorem ex_w1_INCH {Z : State} {a0 : Array Value} (hw : ∀ d ∈ tables_1, d.before a0 Z = true) (hA : ∀ d ∈ own_flat narrow_1, d.value a0 Z none Z [] = some true) : Exa Z Z.heap (w1_INCH Z) "com/example/linepack/linepack/PointClass" := Exa.start (ev_w1_INCH hw hA) (hA _ (List.mem_of_getElem? (i := 1) rfl))
theorem ex_w2_BELLANABOY {Z : State} {a0 : Array Value} (hw : ∀ d ∈ tables_1, d.before a0 Z = true) (hA : ∀ d ∈ own_flat narrow_1, d.value a0 Z none Z [] = some true) : Exa Z Z.heap (w2_BELLANABOY Z) "com/example/linepack/linepack/PointClass" := Exa.start (ev_w2_BELLANABOY hw hA) (hA _ (List.mem_of_getElem? (i := 2) rfl))
theorem ex_w3_LDM {Z : State} {a0 : Array Value} (hw : ∀ d ∈ tables_1, d.before a0 Z = true) (hA : ∀ d ∈ own_flat narrow_1, d.value a0 Z none Z [] = some true) : Exa Z Z.heap (w3_LDM Z) "com/example/linepack/linepack/PointClass" := Exa.start (ev_w3_LDM hw hA) (hA _ (List.mem_of_getElem? (i := 3) rfl))
theorem ex_w4_DM {Z : State} {a0 : Array Value} (hw : ∀ d ∈ tables_1, d.before a0 Z = true) (hA : ∀ d ∈ own_flat narrow_1, d.value a0 Z none Z [] = some true) : Exa Z Z.heap (w4_DM Z) "com/example/linepack/linepack/PointClass" := Exa.start (ev_w4_DM hw hA) (hA _ (List.mem_of_getElem? (i := 4) rfl))
theorem ex_w5_NDM {Z : State} {a0 : Array Value} (hw : ∀ d ∈ tables_1, d.before a0 Z = true) (hA : ∀ d ∈ own_flat narrow_1, d.value a0 Z none Z [] = some true) : Exa Z Z.heap (w5_NDM Z) "com/example/linepack/linepack/PointClass" := Exa.start (ev_w5_NDM hw hA) (hA _ (List.mem_of_getElem? (i := 5) rfl))
theorem ex_w6_INCH_STORAGE_EXIT {Z : State} {a0 : Array Value} (hw : ∀ d ∈ tables_1, d.before a0 Z = true) (hA : ∀ d ∈ own_flat narrow_1, d.value a0 Z none Z [] = some true) : Exa Z Z.heap (w6_INCH_STORAGE_EXIT Z) "com/example/linepack/linepack/PointClass" := Exa.start (ev_w6_INCH_STORAGE_EXIT hw hA) (hA _ (List.mem_of_getElem? (i := 6) rfl))
theorem ex_w7_SN_IP {Z : State} {a0 : Array Value} (hw : ∀ d ∈ tables_1, d.before a0 Z = true) (hA : ∀ d ∈ own_flat narrow_1, d.value a0 Z none Z [] = some true) : Exa Z Z.heap (w7_SN_IP Z) "com/example/linepack/linepack/PointClass" := Exa.start (ev_w7_SN_IP hw hA) (hA _ (List.mem_of_getElem? (i := 7) rfl))
theorem ex_w8_SUBSEA_IC {Z : State} {a0 : Array Value} (hw : ∀ d ∈ tables_1, d.before a0 Z = true) (hA : ∀ d ∈ own_flat narrow_1, d.value a0 Z none Z [] = some true) : Exa Z Z.heap (w8_SUBSEA_IC Z) "com/example/linepack/linepack/PointClass" := Exa.start (ev_w8_SUBSEA_IC hw hA) (hA _ (List.mem_of_getElem? (i := 8) rfl))
theorem st_w0_MOFFAT {Z : State} {a0 : Array Value} (hw : ∀ d ∈ tables_1, d.before a0 Z = true) (hA : ∀ d ∈ own_flat narrow_1, d.value a0 Z none Z [] = some true) : Sta Z Z.heap "com/example/linepack/linepack/PointClass" "MOFFAT" "Lcom/example/linepack/linepack/PointClass;" (.ref (w0_MOFFAT Z)) := Sta.start (ev_w0_MOFFAT hw hA) (Or.inr ⟨(hw _ (List.mem_of_getElem? (i := 3) rfl)), (hw _ (List.mem_of_getElem? (i := 4) rfl))⟩)
theorem st_w1_INCH {Z : State} {a0 : Array Value} (hw : ∀ d ∈ tables_1, d.before a0 Z = true) (hA : ∀ d ∈ own_flat narrow_1, d.value a0 Z none Z [] = some true) : Sta Z Z.heap "com/example/linepack/linepack/PointClass" "INCH" "Lcom/example/linepack/linepack/PointClass;" (.ref (w1_INCH Z)) := Sta.start (ev_w1_INCH hw hA) (Or.inr ⟨(hw _ (List.mem_of_getElem? (i := 3) rfl)), (hw _ (List.mem_of_getElem? (i := 7) rfl))⟩)
theorem st_w2_BELLANABOY {Z : State} {a0 : Array Value} (hw : ∀ d ∈ tables_1, d.before a0 Z = true) (hA : ∀ d ∈ own_flat narrow_1, d.value a0 Z none Z [] = some true) : Sta Z Z.heap "com/example/linepack/linepack/PointClass" "BELLANABOY" "Lcom/example/linepack/linepack/PointClass;" (.ref (w2_BELLANABOY Z)) := Sta.start (ev_w2_BELLANABOY hw hA) (Or.inr ⟨(hw _ (List.mem_of_getElem? (i := 3) rfl)), (hw _ (List.mem_of_getElem? (i := 9) rfl))⟩)
theorem st_w3_LDM {Z : State} {a0 : Array Value} (hw : ∀ d ∈ tables_1, d.before a0 Z = true) (hA : ∀ d ∈ own_flat narrow_1, d.value a0 Z none Z [] = some true) : Sta Z Z.heap "com/example/linepack/linepack/PointClass" "LDM" "Lcom/example/linepack/linepack/PointClass;" (.ref (w3_LDM Z)) := Sta.start (ev_w3_LDM hw hA) (Or.inr ⟨(hw _ (List.mem_of_getElem? (i := 3) rfl)), (hw _ (List.mem_of_getElem? (i := 11) rfl))⟩)
theorem st_w4_DM {Z : State} {a0 : Array Value} (hw : ∀ d ∈ tables_1, d.before a0 Z = true) (hA : ∀ d ∈ own_flat narrow_1, d.value a0 Z none Z [] = some true) : Sta Z Z.heap "com/example/linepack/linepack/PointClass" "DM" "Lcom/example/linepack/linepack/PointClass;" (.ref (w4_DM Z)) := Sta.start (ev_w4_DM hw hA) (Or.inr ⟨(hw _ (List.mem_of_getElem? (i := 3) rfl)), (hw _ (List.mem_of_getElem? (i := 13) rfl))⟩)
theorem st_w5_NDM {Z : State} {a0 : Array Value} (hw : ∀ d ∈ tables_1, d.before a0 Z = true) (hA : ∀ d ∈ own_flat narrow_1, d.value a0 Z none Z [] = some true) : Sta Z Z.heap "com/example/linepack/linepack/PointClass" "NDM" "Lcom/example/linepack/linepack/PointClass;" (.ref (w5_NDM Z)) := Sta.start (ev_w5_NDM hw hA) (Or.inr ⟨(hw _ (List.mem_of_getElem? (i := 3) rfl)), (hw _ (List.mem_of_getElem? (i := 15) rfl))⟩)
theorem st_w6_INCH_STORAGE_EXIT {Z : State} {a0 : Array Value} (hw : ∀ d ∈ tables_1, d.before a0 Z = true) (hA : ∀ d ∈ own_flat narrow_1, d.value a0 Z none Z [] = some true) : Sta Z Z.heap "com/example/linepack/linepack/PointClass" "INCH_STORAGE_EXIT" "Lcom/example/linepack/linepack/PointClass;" (.ref (w6_INCH_STORAGE_EXIT Z)) := Sta.start (ev_w6_INCH_STORAGE_EXIT hw hA) (Or.inr ⟨(hw _ (List.mem_of_getElem? (i := 3) rfl)), (hw _ (List.mem_of_getElem? (i := 17) rfl))⟩)
theorem st_w7_SN_IP {Z : State} {a0 : Array Value} (hw : ∀ d ∈ tables_1, d.before a0 Z = true) (hA : ∀ d ∈ own_flat narrow_1, d.value a0 Z none Z [] = some true) : Sta Z Z.heap "com/example/linepack/linepack/PointClass" "SN_IP" "Lcom/example/linepack/linepack/PointClass;" (.ref (w7_SN_IP Z)) := Sta.start (ev_w7_SN_IP hw hA) (Or.inr ⟨(hw _ (List.mem_of_getElem? (i := 3) rfl)), (hw _ (List.mem_of_getElem? (i := 19) rfl))⟩)
theorem st_w8_SUBSEA_IC {Z : State} {a0 : Array Value} (hw : ∀ d ∈ tables_1, d.before a0 Z = true) (hA : ∀ d ∈ own_flat narrow_1, d.value a0 Z none Z [] = some true) : Sta Z Z.heap "com/example/linepack/linepack/PointClass" "SUBSEA_IC" "Lcom/example/linepack/linepack/PointClass;" (.ref (w8_SUBSEA_IC Z)) := Sta.start (ev_w8_SUBSEA_IC hw hA) (Or.inr ⟨(hw _ (List.mem_of_getElem? (i := 3) rfl)), (hw _ (List.mem_of_getElem? (i := 21) rfl))⟩)
theorem fl0 {Z : State} {a0 : Array Value} (hw : ∀ d ∈ tables_1, d.before a0 Z = true) (hA : ∀ d ∈ own_flat narrow_1, d.value a0 Z none Z [] = some true) : Fld Z Z.heap (w3_LDM Z) "java/lang/Enum" "ordinal" "I" (.int (3 : Int32)) := own_fld (ev_w3_LDM hw hA) (own_eqI (hA _ (List.mem_of_getElem? (i := 9) rfl)))
theorem fl1 {Z : State} {a0 : Array Value} (hw : ∀ d ∈ tables_1, d.before a0 Z = true) (hA : ∀ d ∈ own_flat narrow_1, d.value a0 Z none Z [] = some true) : Fld Z Z.heap (w0_MOFFAT Z) "java/lang/Enum" "ordinal" "I" (.int (0 : Int32)) := own_fld (ev_w0_MOFFAT hw hA) (own_eqI (hA _ (List.mem_of_getElem? (i := 10) rfl)))
theorem fl2 {Z : State} {a0 : Array Value} (hw : ∀ d ∈ tables_1, d.before a0 Z = true) (hA : ∀ d ∈ own_flat narrow_1, d.value a0 Z none Z [] = some true) : Fld Z Z.heap (w7_SN_IP Z) "java/lang/Enum" "ordinal" "I" (.int (7 : Int32)) := own_fld (ev_w7_SN_IP hw hA) (own_eqI (hA _ (List.mem_of_getElem? (i := 11) rfl)))
theorem fl3 {Z : State} {a0 : Array Value} (hw : ∀ d ∈ tables_1, d.before a0 Z = true) (hA : ∀ d ∈ own_flat narrow_1, d.value a0 Z none Z [] = some true) : Fld Z Z.heap (w2_BELLANABOY Z) "java/lang/Enum" "ordinal" "I" (.int (2 : Int32)) := own_fld (ev_w2_BELLANABOY hw hA) (own_eqI (hA _ (List.mem_of_getElem? (i := 12) rfl)))
theorem fl4 {Z : State} {a0 : Array Value} (hw : ∀ d ∈ tables_1, d.before a0 Z = true) (hA : ∀ d ∈ own_flat narrow_1, d.value a0 Z none Z [] = some true) : Fld Z Z.heap (w1_INCH Z) "java/lang/Enum" "ordinal" "I" (.int (1 : Int32)) := own_fld (ev_w1_INCH hw hA) (own_eqI (hA _ (List.mem_of_getElem? (i := 13) rfl)))
theorem fl5 {Z : State} {a0 : Array Value} (hw : ∀ d ∈ tables_1, d.before a0 Z = true) (hA : ∀ d ∈ own_flat narrow_1, d.value a0 Z none Z [] = some true) : Fld Z Z.heap (w4_DM Z) "java/lang/Enum" "ordinal" "I" (.int (4 : Int32)) := own_fld (ev_w4_DM hw hA) (own_eqI (hA _ (List.mem_of_getElem? (i := 14) rfl)))
theorem fl6 {Z : State} {a0 : Array Value} (hw : ∀ d ∈ tables_1, d.before a0 Z = true) (hA : ∀ d ∈ own_flat narrow_1, d.value a0 Z none Z [] = some true) : Fld Z Z.heap (w8_SUBSEA_IC Z) "java/lang/Enum" "ordinal" "I" (.int (8 : Int32)) := own_fld (ev_w8_SUBSEA_IC hw hA) (own_eqI (hA _ (List.mem_of_getElem? (i := 15) rfl)))
theorem fl7 {Z : State} {a0 : Array Value} (hw : ∀ d ∈ tables_1, d.before a0 Z = true) (hA : ∀ d ∈ own_flat narrow_1, d.value a0 Z none Z [] = some true) : Fld Z Z.heap (w6_INCH_STORAGE_EXIT Z) "java/lang/Enum" "ordinal" "I" (.int (6 : Int32)) := own_fld (ev_w6_INCH_STORAGE_EXIT hw hA) (own_eqI (hA _ (List.mem_of_getElem? (i := 16) rfl)))
theorem fl8 {Z : State} {a0 : Array Value} (hw : ∀ d ∈ tables_1, d.before a0 Z = true) (hA : ∀ d ∈ own_flat narrow_1, d.value a0 Z none Z [] = some true) : Fld Z Z.heap (w5_NDM Z) "java/lang/Enum" "ordinal" "I" (.int (5 : Int32)) := own_fld (ev_w5_NDM hw hA) (own_eqI (hA _ (List.mem_of_getElem? (i := 17) rfl)))
theorem d1_0 : decode prog_6_method_7_code 0 = .ok (.aload_n 0, 1) := by decide +kernel
theorem d1_1 : decode prog_6_method_7_code 1 = .ok (.getstatic 3, 3) := by decide +kernel
theorem d1_4 : decode prog_6_method_7_code 4 = .ok (.if_acmp .eq 10, 3) := by decide +kernel
theorem d1_14 : decode prog_6_method_7_code 14 = .ok (.iconst 1, 1) := by decide +kernel
theorem d1_15 : decode prog_6_method_7_code 15 = .ok (.goto 4, 3) := by decide +kernel
theorem d1_19 : decode prog_6_method_7_code 19 = .ok (.ireturn, 1) := by decide +kernel
theorem pn0 : plainName "com/example/linepack/linepack/PointClass" = true := by first | (simp [plainName, overriddenIn]; done) | decide +kernel
theorem pd1 : parseMethodDescriptor "()Z" = some ⟨[], some .boolean⟩ := by decide +kernel
theorem d1_7 : decode prog_6_method_7_code 7 = .ok (.aload_n 0, 1) := by decide +kernel
theorem d1_8 : decode prog_6_method_7_code 8 = .ok (.getstatic 25, 3) := by decide +kernel
theorem d1_11 : decode prog_6_method_7_code 11 = .ok (.if_acmp .ne 7, 3) := by decide +kernel
theorem d1_18 : decode prog_6_method_7_code 18 = .ok (.iconst 0, 1) := by decide +kernel
theorem pn2 : plainName "com/example/linepack/linepack/PointClassInterconnectionPointPinLaw" = true := by first | (simp [plainName, overriddenIn]; done) | decide +kernel
set_option maxRecDepth 65536 in
set_option maxHeartbeats 40000000 in
theorem rm1_0 (l : Launch) (Z : State) (a0 : Array Value) (hw : ∀ d ∈ tables_1, d.before a0 Z = true) (hA : ∀ d ∈ own_flat narrow_1, d.value a0 Z none Z [] = some true) (ws : List Jvm.Cond) (h0 : Heap) (n0 : Nat) (O0 : Old Z n0 h0) :
    own_Met l Z (⟨"com/example/linepack/linepack/PointClass", "interconnectionPoint", "()Z"⟩ : MethodName) (Jvm.Cond.code (⟨"com/example/linepack/linepack/PointClass", "interconnectionPoint", "()Z"⟩ : MethodName) prog_6_method_7_code 1 (some .boolean)) ws ({ frames := 0, cells := 0, slots := 0, locals := 0 } : Room) #[(.ref (w0_MOFFAT Z))] h0 (fun v h L => (v = some (.int (1 : Int32)) ∧ Fr n0 L ∧ h = h0)) := by
  refine own_met (own := "com/example/linepack/linepack/PointClass") (plainFor_of_name pn0) rfl ?_
  intro p e s m below meth c s₁ hx hby hml hown hnm hret hlk hZ e0 X0
  refine own_cast (g' := (mkF m 0 #[.val (.ref (w0_MOFFAT Z))] [])) (by first | (simp [entryFrame, mkF, argsToLocals, Value.category]; done) | rfl) ?_
  refine own_step (fun _ k => XS.aloadN X0.here hx rfl (hb hby d1_0) rfl rfl k) ?_
  show own_Wp p e below _ s₁ (mkF m 1 #[.val (.ref (w0_MOFFAT Z))] [(.ref (w0_MOFFAT Z))])
  obtain ⟨T1, X1, e1, st1⟩ := getS2 X0 hx hZ hown (host := "") (Or.inl (hw _ (List.mem_of_getElem? (i := 28) rfl))) Via.refl e0 ((st_w0_MOFFAT hw hA).ext O0.2) (g := (mkF m 1 #[.val (.ref (w0_MOFFAT Z))] [(.ref (w0_MOFFAT Z))])) rfl (hb hby d1_1)
  refine own_step st1 ?_
  show own_Wp p e below _ T1 (mkF m 4 #[.val (.ref (w0_MOFFAT Z))] [(.ref (w0_MOFFAT Z)), (.ref (w0_MOFFAT Z))])
  refine own_step (fun _ k => Jvm.RoadKit.acmp (g := (mkF m 4 #[.val (.ref (w0_MOFFAT Z))] [(.ref (w0_MOFFAT Z)), (.ref (w0_MOFFAT Z))])) X1 hx rfl rfl rfl (pc0 := 4) (pc' := 14) (same := true) rfl (hb hby d1_4) rfl (decide_eq_true rfl) (by decide) (by decide) k) ?_
  show own_Wp p e below _ T1 (mkF m 14 #[.val (.ref (w0_MOFFAT Z))] [])
  refine own_step (fun _ k => XS.iconst X1.here hx rfl (hb hby d1_14) k) ?_
  show own_Wp p e below _ T1 (mkF m 15 #[.val (.ref (w0_MOFFAT Z))] [(.int (1 : Int32))])
  refine own_step (fun _ k => XS.goto X1.here hx rfl (pc0 := 15) (pc' := 19) rfl (hb hby d1_15) (by decide) (by decide) k) ?_
  show own_Wp p e below _ T1 (mkF m 19 #[.val (.ref (w0_MOFFAT Z))] [(.int (1 : Int32))])
  exact own_retN X1 hx (t := .boolean) hret (by simp) hlk (hb hby d1_19) (by decide) (by decide) (by rw [e1]; exact ⟨rfl, (Fr.nil n0), rfl⟩)

set_option maxRecDepth 65536 in
set_option maxHeartbeats 40000000 in
theorem rm1_1 (l : Launch) (Z : State) (a0 : Array Value) (hw : ∀ d ∈ tables_1, d.before a0 Z = true) (hA : ∀ d ∈ own_flat narrow_1, d.value a0 Z none Z [] = some true) (ws : List Jvm.Cond) (x1 : Addr) (h0 : Heap) (n0 : Nat) (O0 : Old Z n0 h0) (D0 : x1 ≠ (w0_MOFFAT Z)) (D1 : x1 ≠ (w7_SN_IP Z)) :
    own_Met l Z (⟨"com/example/linepack/linepack/PointClass", "interconnectionPoint", "()Z"⟩ : MethodName) (Jvm.Cond.code (⟨"com/example/linepack/linepack/PointClass", "interconnectionPoint", "()Z"⟩ : MethodName) prog_6_method_7_code 1 (some .boolean)) ws ({ frames := 0, cells := 0, slots := 0, locals := 0 } : Room) #[(.ref x1)] h0 (fun v h L => (v = some (.int (0 : Int32)) ∧ Fr n0 L ∧ h = h0)) := by
  refine own_met (own := "com/example/linepack/linepack/PointClass") (plainFor_of_name pn0) rfl ?_
  intro p e s m below meth c s₁ hx hby hml hown hnm hret hlk hZ e0 X0
  refine own_cast (g' := (mkF m 0 #[.val (.ref x1)] [])) (by first | (simp [entryFrame, mkF, argsToLocals, Value.category]; done) | rfl) ?_
  refine own_step (fun _ k => XS.aloadN X0.here hx rfl (hb hby d1_0) rfl rfl k) ?_
  show own_Wp p e below _ s₁ (mkF m 1 #[.val (.ref x1)] [(.ref x1)])
  obtain ⟨T1, X1, e1, st1⟩ := getS2 X0 hx hZ hown (host := "") (Or.inl (hw _ (List.mem_of_getElem? (i := 28) rfl))) Via.refl e0 ((st_w0_MOFFAT hw hA).ext O0.2) (g := (mkF m 1 #[.val (.ref x1)] [(.ref x1)])) rfl (hb hby d1_1)
  refine own_step st1 ?_
  show own_Wp p e below _ T1 (mkF m 4 #[.val (.ref x1)] [(.ref (w0_MOFFAT Z)), (.ref x1)])
  refine own_step (fun _ k => Jvm.RoadKit.acmp (g := (mkF m 4 #[.val (.ref x1)] [(.ref (w0_MOFFAT Z)), (.ref x1)])) X1 hx rfl rfl rfl (pc0 := 4) (pc' := 7) (same := false) rfl (hb hby d1_4) rfl (decide_eq_false fun q => D0 (Value.ref.inj q)) (by decide) (by decide) k) ?_
  show own_Wp p e below _ T1 (mkF m 7 #[.val (.ref x1)] [])
  refine own_step (fun _ k => XS.aloadN X1.here hx rfl (hb hby d1_7) rfl rfl k) ?_
  show own_Wp p e below _ T1 (mkF m 8 #[.val (.ref x1)] [(.ref x1)])
  obtain ⟨T2, X2, e2, st2⟩ := getS2 X1 hx hZ hown (host := "") (Or.inl (hw _ (List.mem_of_getElem? (i := 29) rfl))) Via.refl e1 ((st_w7_SN_IP hw hA).ext O0.2) (g := (mkF m 8 #[.val (.ref x1)] [(.ref x1)])) rfl (hb hby d1_8)
  refine own_step st2 ?_
  show own_Wp p e below _ T2 (mkF m 11 #[.val (.ref x1)] [(.ref (w7_SN_IP Z)), (.ref x1)])
  refine own_step (fun _ k => Jvm.RoadKit.acmp (g := (mkF m 11 #[.val (.ref x1)] [(.ref (w7_SN_IP Z)), (.ref x1)])) X2 hx rfl rfl rfl (pc0 := 11) (pc' := 18) (same := false) rfl (hb hby d1_11) rfl (decide_eq_false fun q => D1 (Value.ref.inj q)) (by decide) (by decide) k) ?_
  show own_Wp p e below _ T2 (mkF m 18 #[.val (.ref x1)] [])
  refine own_step (fun _ k => XS.iconst X2.here hx rfl (hb hby d1_18) k) ?_
  show own_Wp p e below _ T2 (mkF m 19 #[.val (.ref x1)] [(.int (0 : Int32))])
  exact own_retN X2 hx (t := .boolean) hret (by simp) hlk (hb hby d1_19) (by decide) (by decide) (by rw [e2]; exact ⟨rfl, (Fr.nil n0), rfl⟩)

set_option maxRecDepth 65536 in
set_option maxHeartbeats 40000000 in
theorem rm1_2 (l : Launch) (Z : State) (a0 : Array Value) (hw : ∀ d ∈ tables_1, d.before a0 Z = true) (hA : ∀ d ∈ own_flat narrow_1, d.value a0 Z none Z [] = some true) (ws : List Jvm.Cond) (h0 : Heap) (n0 : Nat) (O0 : Old Z n0 h0) :
    own_Met l Z (⟨"com/example/linepack/linepack/PointClass", "interconnectionPoint", "()Z"⟩ : MethodName) (Jvm.Cond.code (⟨"com/example/linepack/linepack/PointClass", "interconnectionPoint", "()Z"⟩ : MethodName) prog_6_method_7_code 1 (some .boolean)) ws ({ frames := 0, cells := 0, slots := 0, locals := 0 } : Room) #[(.ref (w7_SN_IP Z))] h0 (fun v h L => (v = some (.int (1 : Int32)) ∧ Fr n0 L ∧ h = h0)) := by
  refine own_met (own := "com/example/linepack/linepack/PointClass") (plainFor_of_name pn0) rfl ?_
  intro p e s m below meth c s₁ hx hby hml hown hnm hret hlk hZ e0 X0
  refine own_cast (g' := (mkF m 0 #[.val (.ref (w7_SN_IP Z))] [])) (by first | (simp [entryFrame, mkF, argsToLocals, Value.category]; done) | rfl) ?_
  refine own_step (fun _ k => XS.aloadN X0.here hx rfl (hb hby d1_0) rfl rfl k) ?_
  show own_Wp p e below _ s₁ (mkF m 1 #[.val (.ref (w7_SN_IP Z))] [(.ref (w7_SN_IP Z))])
  obtain ⟨T1, X1, e1, st1⟩ := getS2 X0 hx hZ hown (host := "") (Or.inl (hw _ (List.mem_of_getElem? (i := 28) rfl))) Via.refl e0 ((st_w0_MOFFAT hw hA).ext O0.2) (g := (mkF m 1 #[.val (.ref (w7_SN_IP Z))] [(.ref (w7_SN_IP Z))])) rfl (hb hby d1_1)
  refine own_step st1 ?_
  show own_Wp p e below _ T1 (mkF m 4 #[.val (.ref (w7_SN_IP Z))] [(.ref (w0_MOFFAT Z)), (.ref (w7_SN_IP Z))])
  refine own_step (fun _ k => Jvm.RoadKit.acmp (g := (mkF m 4 #[.val (.ref (w7_SN_IP Z))] [(.ref (w0_MOFFAT Z)), (.ref (w7_SN_IP Z))])) X1 hx rfl rfl rfl (pc0 := 4) (pc' := 7) (same := false) rfl (hb hby d1_4) rfl (decide_eq_false fun q => (Fld.ne (fl2 hw hA) (fl1 hw hA) (by decide)) (Value.ref.inj q)) (by decide) (by decide) k) ?_
  show own_Wp p e below _ T1 (mkF m 7 #[.val (.ref (w7_SN_IP Z))] [])
  refine own_step (fun _ k => XS.aloadN X1.here hx rfl (hb hby d1_7) rfl rfl k) ?_
  show own_Wp p e below _ T1 (mkF m 8 #[.val (.ref (w7_SN_IP Z))] [(.ref (w7_SN_IP Z))])
  obtain ⟨T2, X2, e2, st2⟩ := getS2 X1 hx hZ hown (host := "") (Or.inl (hw _ (List.mem_of_getElem? (i := 29) rfl))) Via.refl e1 ((st_w7_SN_IP hw hA).ext O0.2) (g := (mkF m 8 #[.val (.ref (w7_SN_IP Z))] [(.ref (w7_SN_IP Z))])) rfl (hb hby d1_8)
  refine own_step st2 ?_
  show own_Wp p e below _ T2 (mkF m 11 #[.val (.ref (w7_SN_IP Z))] [(.ref (w7_SN_IP Z)), (.ref (w7_SN_IP Z))])
  refine own_step (fun _ k => Jvm.RoadKit.acmp (g := (mkF m 11 #[.val (.ref (w7_SN_IP Z))] [(.ref (w7_SN_IP Z)), (.ref (w7_SN_IP Z))])) X2 hx rfl rfl rfl (pc0 := 11) (pc' := 14) (same := true) rfl (hb hby d1_11) rfl (decide_eq_true rfl) (by decide) (by decide) k) ?_
  show own_Wp p e below _ T2 (mkF m 14 #[.val (.ref (w7_SN_IP Z))] [])
  refine own_step (fun _ k => XS.iconst X2.here hx rfl (hb hby d1_14) k) ?_
  show own_Wp p e below _ T2 (mkF m 15 #[.val (.ref (w7_SN_IP Z))] [(.int (1 : Int32))])
  refine own_step (fun _ k => XS.goto X2.here hx rfl (pc0 := 15) (pc' := 19) rfl (hb hby d1_15) (by decide) (by decide) k) ?_
  show own_Wp p e below _ T2 (mkF m 19 #[.val (.ref (w7_SN_IP Z))] [(.int (1 : Int32))])
  exact own_retN X2 hx (t := .boolean) hret (by simp) hlk (hb hby d1_19) (by decide) (by decide) (by rw [e2]; exact ⟨rfl, (Fr.nil n0), rfl⟩)

set_option maxRecDepth 65536 in
set_option maxHeartbeats 40000000 in
theorem rm0 (l : Launch) (Z : State) (a0 : Array Value) (hw : ∀ d ∈ tables_1, d.before a0 Z = true) (hA : ∀ d ∈ own_flat narrow_1, d.value a0 Z none Z [] = some true) (ws : List Jvm.Cond) (p0 : Int32) (h0 : Heap) (n0 : Nat) (O0 : Old Z n0 h0) :
    own_Met l Z x (Jvm.Cond.code x code maxLocals ret) ws room_1 #[(.int p0)] h0 (fun v h L => v = some (.int (1 : Int32)) ∧ Fr n0 L) := by
  refine own_met (own := "com/example/linepack/linepack/PointClassInterconnectionPointPinLaw") (plainFor_of_name pn2) rfl ?_
  intro p e s m below meth c s₁ hx hby hml hown hnm hret hlk hZ e0 X0
  refine own_cast (g' := (mkF m 0 #[.val (.int p0), .unset, .unset, .unset] [])) (by first | (simp [entryFrame, mkF, argsToLocals, Value.category, maxLocals]; done) | rfl) ?_
  show own_Wp p e below _ s₁ (mkF m 0 #[.val (.int p0), .unset, .unset, .unset] [])
  refine own_step (fun _ k => XS.bipush X0.here hx rfl (hb hby at_0) k) ?_
  show own_Wp p e below _ s₁ (mkF m 2 #[.val (.int p0), .unset, .unset, .unset] [(.int (9 : Int32))])
  obtain ⟨T1, h1, k1, X1, e1, E1, A1, O1v, st1⟩ := newR X0 hx hZ hown (hw _ (List.mem_of_getElem? (i := 0) rfl)) (hw _ (List.mem_of_getElem? (i := 1) rfl)) e0 (g := (mkF m 2 #[.val (.int p0), .unset, .unset, .unset] [(.int (9 : Int32))])) rfl (hb hby at_2) rfl (by decide) (cap := 9) (by decide) (by decide) (by decide) (by decide)
  obtain ⟨b1, z1⟩ : ∃ z, z = h0.size := ⟨_, rfl⟩
  rw [← z1] at A1 st1
  refine own_step st1 ?_
  have g1 : n0 ≤ b1 := Nat.le_trans (O0.1 ▸ O0.2.1) (Nat.le_of_eq z1.symm)
  have y1 : h0.size ≤ b1 := Nat.le_trans (Nat.le_refl _) (Nat.le_of_eq z1.symm)
  have O1 := O0.ext E1
  have K1 : Keep h0 h1 [] := (Keep.refl h0 []).ext E1
  have V1 : Arv Z h1 b1 k1 (.object "com/example/linepack/linepack/PointClass") (9 : Int32) [.null, .null, .null, .null, .null, .null, .null, .null, .null] .null := (Arv.new A1 (by decide)).pad (pad_rep [] .null 9)
  show own_Wp p e below _ T1 (mkF m 5 #[.val (.int p0), .unset, .unset, .unset] [(.ref b1)])
  refine own_step (fun _ k => XS.dup X1.here hx rfl (hb hby at_5) rfl rfl k) ?_
  show own_Wp p e below _ T1 (mkF m 6 #[.val (.int p0), .unset, .unset, .unset] [(.ref b1), (.ref b1)])
  refine own_step (fun _ k => XS.iconst X1.here hx rfl (hb hby at_6) k) ?_
  show own_Wp p e below _ T1 (mkF m 7 #[.val (.int p0), .unset, .unset, .unset] [(.int (0 : Int32)), (.ref b1), (.ref b1)])
  obtain ⟨T2, X2, e2, st2⟩ := getS2 X1 hx hZ hown (host := "") (Or.inl (hw _ (List.mem_of_getElem? (i := 2) rfl))) Via.refl e1 ((st_w0_MOFFAT hw hA).ext O1.2) (g := (mkF m 7 #[.val (.int p0), .unset, .unset, .unset] [(.int (0 : Int32)), (.ref b1), (.ref b1)])) rfl (hb hby at_7)
  refine own_step st2 ?_
  show own_Wp p e below _ T2 (mkF m 10 #[.val (.int p0), .unset, .unset, .unset] [(.ref (w0_MOFFAT Z)), (.int (0 : Int32)), (.ref b1), (.ref b1)])
  obtain ⟨c3, r3, q3, t3, u3, y3h, y3g⟩ := V1
  have i3 : ¬ ((0 : Int32) < 0 ∨ c3.slots.size ≤ ((0 : Int32)).toNatClampNeg) := inb_of t3 ⟨by decide, by decide⟩
  obtain ⟨T3, h3, X3, e3, W3, st3⟩ := stR X2 hx hZ e2 r3 (j := (0 : Int32)) i3 rfl (Sto.ofV r3 q3 O1v (Ins.self ((ex_w0_MOFFAT hw hA).ext O1.2))) (g := (mkF m 10 #[.val (.int p0), .unset, .unset, .unset] [(.ref (w0_MOFFAT Z)), (.int (0 : Int32)), (.ref b1), (.ref b1)])) rfl rfl (hb hby at_10)
  refine own_step st3 ?_
  have N3 := Fr.snoc X3 (Fr.nil n0) g1
  have O3 := O1.wr W3 g1
  have K3 : Keep h0 h3 [] := K1.wr W3 (Or.inr y1)
  have V3 : Arv Z h3 b1 k1 (.object "com/example/linepack/linepack/PointClass") (9 : Int32) [(.ref (w0_MOFFAT Z)), .null, .null, .null, .null, .null, .null, .null, .null] .null := Arv.set r3 q3 t3 u3 y3h y3g rfl W3 0 rfl (Nat.le_of_ble_eq_true rfl)
  show own_Wp p e below _ T3 (mkF m 11 #[.val (.int p0), .unset, .unset, .unset] [(.ref b1)])
  refine own_step (fun _ k => XS.dup X3.here hx rfl (hb hby at_11) rfl rfl k) ?_
  show own_Wp p e below _ T3 (mkF m 12 #[.val (.int p0), .unset, .unset, .unset] [(.ref b1), (.ref b1)])
  refine own_step (fun _ k => XS.iconst X3.here hx rfl (hb hby at_12) k) ?_
  show own_Wp p e below _ T3 (mkF m 13 #[.val (.int p0), .unset, .unset, .unset] [(.int (1 : Int32)), (.ref b1), (.ref b1)])
  obtain ⟨T4, X4, e4, st4⟩ := getS2 X3 hx hZ hown (host := "") (Or.inl (hw _ (List.mem_of_getElem? (i := 6) rfl))) Via.refl e3 ((st_w1_INCH hw hA).ext O3.2) (g := (mkF m 13 #[.val (.int p0), .unset, .unset, .unset] [(.int (1 : Int32)), (.ref b1), (.ref b1)])) rfl (hb hby at_13)
  refine own_step st4 ?_
  show own_Wp p e below _ T4 (mkF m 16 #[.val (.int p0), .unset, .unset, .unset] [(.ref (w1_INCH Z)), (.int (1 : Int32)), (.ref b1), (.ref b1)])
  obtain ⟨c5, r5, q5, t5, u5, y5h, y5g⟩ := V3
  have i5 : ¬ ((1 : Int32) < 0 ∨ c5.slots.size ≤ ((1 : Int32)).toNatClampNeg) := inb_of t5 ⟨by decide, by decide⟩
  obtain ⟨T5, h5, X5, e5, W5, st5⟩ := stR X4 hx hZ e4 r5 (j := (1 : Int32)) i5 rfl (Sto.ofV r5 q5 O1v (Ins.self ((ex_w1_INCH hw hA).ext O3.2))) (g := (mkF m 16 #[.val (.int p0), .unset, .unset, .unset] [(.ref (w1_INCH Z)), (.int (1 : Int32)), (.ref b1), (.ref b1)])) rfl rfl (hb hby at_16)
  refine own_step st5 ?_
  have N5 := Fr.snoc X5 N3 g1
  have O5 := O3.wr W5 g1
  have K5 : Keep h0 h5 [] := K3.wr W5 (Or.inr y1)
  have V5 : Arv Z h5 b1 k1 (.object "com/example/linepack/linepack/PointClass") (9 : Int32) [(.ref (w0_MOFFAT Z)), (.ref (w1_INCH Z)), .null, .null, .null, .null, .null, .null, .null] .null := Arv.set r5 q5 t5 u5 y5h y5g rfl W5 1 rfl (Nat.le_of_ble_eq_true rfl)
  show own_Wp p e below _ T5 (mkF m 17 #[.val (.int p0), .unset, .unset, .unset] [(.ref b1)])
  refine own_step (fun _ k => XS.dup X5.here hx rfl (hb hby at_17) rfl rfl k) ?_
  show own_Wp p e below _ T5 (mkF m 18 #[.val (.int p0), .unset, .unset, .unset] [(.ref b1), (.ref b1)])
  refine own_step (fun _ k => XS.iconst X5.here hx rfl (hb hby at_18) k) ?_
  show own_Wp p e below _ T5 (mkF m 19 #[.val (.int p0), .unset, .unset, .unset] [(.int (2 : Int32)), (.ref b1), (.ref b1)])
  obtain ⟨T6, X6, e6, st6⟩ := getS2 X5 hx hZ hown (host := "") (Or.inl (hw _ (List.mem_of_getElem? (i := 8) rfl))) Via.refl e5 ((st_w2_BELLANABOY hw hA).ext O5.2) (g := (mkF m 19 #[.val (.int p0), .unset, .unset, .unset] [(.int (2 : Int32)), (.ref b1), (.ref b1)])) rfl (hb hby at_19)
  refine own_step st6 ?_
  show own_Wp p e below _ T6 (mkF m 22 #[.val (.int p0), .unset, .unset, .unset] [(.ref (w2_BELLANABOY Z)), (.int (2 : Int32)), (.ref b1), (.ref b1)])
  obtain ⟨c7, r7, q7, t7, u7, y7h, y7g⟩ := V5
  have i7 : ¬ ((2 : Int32) < 0 ∨ c7.slots.size ≤ ((2 : Int32)).toNatClampNeg) := inb_of t7 ⟨by decide, by decide⟩
  obtain ⟨T7, h7, X7, e7, W7, st7⟩ := stR X6 hx hZ e6 r7 (j := (2 : Int32)) i7 rfl (Sto.ofV r7 q7 O1v (Ins.self ((ex_w2_BELLANABOY hw hA).ext O5.2))) (g := (mkF m 22 #[.val (.int p0), .unset, .unset, .unset] [(.ref (w2_BELLANABOY Z)), (.int (2 : Int32)), (.ref b1), (.ref b1)])) rfl rfl (hb hby at_22)
  refine own_step st7 ?_
  have N7 := Fr.snoc X7 N5 g1
  have O7 := O5.wr W7 g1
  have K7 : Keep h0 h7 [] := K5.wr W7 (Or.inr y1)
  have V7 : Arv Z h7 b1 k1 (.object "com/example/linepack/linepack/PointClass") (9 : Int32) [(.ref (w0_MOFFAT Z)), (.ref (w1_INCH Z)), (.ref (w2_BELLANABOY Z)), .null, .null, .null, .null, .null, .null] .null := Arv.set r7 q7 t7 u7 y7h y7g rfl W7 2 rfl (Nat.le_of_ble_eq_true rfl)
  show own_Wp p e below _ T7 (mkF m 23 #[.val (.int p0), .unset, .unset, .unset] [(.ref b1)])
  refine own_step (fun _ k => XS.dup X7.here hx rfl (hb hby at_23) rfl rfl k) ?_
  show own_Wp p e below _ T7 (mkF m 24 #[.val (.int p0), .unset, .unset, .unset] [(.ref b1), (.ref b1)])
  refine own_step (fun _ k => XS.iconst X7.here hx rfl (hb hby at_24) k) ?_
  show own_Wp p e below _ T7 (mkF m 25 #[.val (.int p0), .unset, .unset, .unset] [(.int (3 : Int32)), (.ref b1), (.ref b1)])
  obtain ⟨T8, X8, e8, st8⟩ := getS2 X7 hx hZ hown (host := "") (Or.inl (hw _ (List.mem_of_getElem? (i := 10) rfl))) Via.refl e7 ((st_w3_LDM hw hA).ext O7.2) (g := (mkF m 25 #[.val (.int p0), .unset, .unset, .unset] [(.int (3 : Int32)), (.ref b1), (.ref b1)])) rfl (hb hby at_25)
  refine own_step st8 ?_
  show own_Wp p e below _ T8 (mkF m 28 #[.val (.int p0), .unset, .unset, .unset] [(.ref (w3_LDM Z)), (.int (3 : Int32)), (.ref b1), (.ref b1)])
  obtain ⟨c9, r9, q9, t9, u9, y9h, y9g⟩ := V7
  have i9 : ¬ ((3 : Int32) < 0 ∨ c9.slots.size ≤ ((3 : Int32)).toNatClampNeg) := inb_of t9 ⟨by decide, by decide⟩
  obtain ⟨T9, h9, X9, e9, W9, st9⟩ := stR X8 hx hZ e8 r9 (j := (3 : Int32)) i9 rfl (Sto.ofV r9 q9 O1v (Ins.self ((ex_w3_LDM hw hA).ext O7.2))) (g := (mkF m 28 #[.val (.int p0), .unset, .unset, .unset] [(.ref (w3_LDM Z)), (.int (3 : Int32)), (.ref b1), (.ref b1)])) rfl rfl (hb hby at_28)
  refine own_step st9 ?_
  have N9 := Fr.snoc X9 N7 g1
  have O9 := O7.wr W9 g1
  have K9 : Keep h0 h9 [] := K7.wr W9 (Or.inr y1)
  have V9 : Arv Z h9 b1 k1 (.object "com/example/linepack/linepack/PointClass") (9 : Int32) [(.ref (w0_MOFFAT Z)), (.ref (w1_INCH Z)), (.ref (w2_BELLANABOY Z)), (.ref (w3_LDM Z)), .null, .null, .null, .null, .null] .null := Arv.set r9 q9 t9 u9 y9h y9g rfl W9 3 rfl (Nat.le_of_ble_eq_true rfl)
  show own_Wp p e below _ T9 (mkF m 29 #[.val (.int p0), .unset, .unset, .unset] [(.ref b1)])
  refine own_step (fun _ k => XS.dup X9.here hx rfl (hb hby at_29) rfl rfl k) ?_
  show own_Wp p e below _ T9 (mkF m 30 #[.val (.int p0), .unset, .unset, .unset] [(.ref b1), (.ref b1)])
  refine own_step (fun _ k => XS.iconst X9.here hx rfl (hb hby at_30) k) ?_
  show own_Wp p e below _ T9 (mkF m 31 #[.val (.int p0), .unset, .unset, .unset] [(.int (4 : Int32)), (.ref b1), (.ref b1)])
  obtain ⟨T10, X10, e10, st10⟩ := getS2 X9 hx hZ hown (host := "") (Or.inl (hw _ (List.mem_of_getElem? (i := 12) rfl))) Via.refl e9 ((st_w4_DM hw hA).ext O9.2) (g := (mkF m 31 #[.val (.int p0), .unset, .unset, .unset] [(.int (4 : Int32)), (.ref b1), (.ref b1)])) rfl (hb hby at_31)
  refine own_step st10 ?_
  show own_Wp p e below _ T10 (mkF m 34 #[.val (.int p0), .unset, .unset, .unset] [(.ref (w4_DM Z)), (.int (4 : Int32)), (.ref b1), (.ref b1)])
  obtain ⟨c11, r11, q11, t11, u11, y11h, y11g⟩ := V9
  have i11 : ¬ ((4 : Int32) < 0 ∨ c11.slots.size ≤ ((4 : Int32)).toNatClampNeg) := inb_of t11 ⟨by decide, by decide⟩
  obtain ⟨T11, h11, X11, e11, W11, st11⟩ := stR X10 hx hZ e10 r11 (j := (4 : Int32)) i11 rfl (Sto.ofV r11 q11 O1v (Ins.self ((ex_w4_DM hw hA).ext O9.2))) (g := (mkF m 34 #[.val (.int p0), .unset, .unset, .unset] [(.ref (w4_DM Z)), (.int (4 : Int32)), (.ref b1), (.ref b1)])) rfl rfl (hb hby at_34)
  refine own_step st11 ?_
  have N11 := Fr.snoc X11 N9 g1
  have O11 := O9.wr W11 g1
  have K11 : Keep h0 h11 [] := K9.wr W11 (Or.inr y1)
  have V11 : Arv Z h11 b1 k1 (.object "com/example/linepack/linepack/PointClass") (9 : Int32) [(.ref (w0_MOFFAT Z)), (.ref (w1_INCH Z)), (.ref (w2_BELLANABOY Z)), (.ref (w3_LDM Z)), (.ref (w4_DM Z)), .null, .null, .null, .null] .null := Arv.set r11 q11 t11 u11 y11h y11g rfl W11 4 rfl (Nat.le_of_ble_eq_true rfl)
  show own_Wp p e below _ T11 (mkF m 35 #[.val (.int p0), .unset, .unset, .unset] [(.ref b1)])
  refine own_step (fun _ k => XS.dup X11.here hx rfl (hb hby at_35) rfl rfl k) ?_
  show own_Wp p e below _ T11 (mkF m 36 #[.val (.int p0), .unset, .unset, .unset] [(.ref b1), (.ref b1)])
  refine own_step (fun _ k => XS.iconst X11.here hx rfl (hb hby at_36) k) ?_
  show own_Wp p e below _ T11 (mkF m 37 #[.val (.int p0), .unset, .unset, .unset] [(.int (5 : Int32)), (.ref b1), (.ref b1)])
  obtain ⟨T12, X12, e12, st12⟩ := getS2 X11 hx hZ hown (host := "") (Or.inl (hw _ (List.mem_of_getElem? (i := 14) rfl))) Via.refl e11 ((st_w5_NDM hw hA).ext O11.2) (g := (mkF m 37 #[.val (.int p0), .unset, .unset, .unset] [(.int (5 : Int32)), (.ref b1), (.ref b1)])) rfl (hb hby at_37)
  refine own_step st12 ?_
  show own_Wp p e below _ T12 (mkF m 40 #[.val (.int p0), .unset, .unset, .unset] [(.ref (w5_NDM Z)), (.int (5 : Int32)), (.ref b1), (.ref b1)])
  obtain ⟨c13, r13, q13, t13, u13, y13h, y13g⟩ := V11
  have i13 : ¬ ((5 : Int32) < 0 ∨ c13.slots.size ≤ ((5 : Int32)).toNatClampNeg) := inb_of t13 ⟨by decide, by decide⟩
  obtain ⟨T13, h13, X13, e13, W13, st13⟩ := stR X12 hx hZ e12 r13 (j := (5 : Int32)) i13 rfl (Sto.ofV r13 q13 O1v (Ins.self ((ex_w5_NDM hw hA).ext O11.2))) (g := (mkF m 40 #[.val (.int p0), .unset, .unset, .unset] [(.ref (w5_NDM Z)), (.int (5 : Int32)), (.ref b1), (.ref b1)])) rfl rfl (hb hby at_40)
  refine own_step st13 ?_
  have N13 := Fr.snoc X13 N11 g1
  have O13 := O11.wr W13 g1
  have K13 : Keep h0 h13 [] := K11.wr W13 (Or.inr y1)
  have V13 : Arv Z h13 b1 k1 (.object "com/example/linepack/linepack/PointClass") (9 : Int32) [(.ref (w0_MOFFAT Z)), (.ref (w1_INCH Z)), (.ref (w2_BELLANABOY Z)), (.ref (w3_LDM Z)), (.ref (w4_DM Z)), (.ref (w5_NDM Z)), .null, .null, .null] .null := Arv.set r13 q13 t13 u13 y13h y13g rfl W13 5 rfl (Nat.le_of_ble_eq_true rfl)
  show own_Wp p e below _ T13 (mkF m 41 #[.val (.int p0), .unset, .unset, .unset] [(.ref b1)])
  refine own_step (fun _ k => XS.dup X13.here hx rfl (hb hby at_41) rfl rfl k) ?_
  show own_Wp p e below _ T13 (mkF m 42 #[.val (.int p0), .unset, .unset, .unset] [(.ref b1), (.ref b1)])
  refine own_step (fun _ k => XS.bipush X13.here hx rfl (hb hby at_42) k) ?_
  show own_Wp p e below _ T13 (mkF m 44 #[.val (.int p0), .unset, .unset, .unset] [(.int (6 : Int32)), (.ref b1), (.ref b1)])
  obtain ⟨T14, X14, e14, st14⟩ := getS2 X13 hx hZ hown (host := "") (Or.inl (hw _ (List.mem_of_getElem? (i := 16) rfl))) Via.refl e13 ((st_w6_INCH_STORAGE_EXIT hw hA).ext O13.2) (g := (mkF m 44 #[.val (.int p0), .unset, .unset, .unset] [(.int (6 : Int32)), (.ref b1), (.ref b1)])) rfl (hb hby at_44)
  refine own_step st14 ?_
  show own_Wp p e below _ T14 (mkF m 47 #[.val (.int p0), .unset, .unset, .unset] [(.ref (w6_INCH_STORAGE_EXIT Z)), (.int (6 : Int32)), (.ref b1), (.ref b1)])
  obtain ⟨c15, r15, q15, t15, u15, y15h, y15g⟩ := V13
  have i15 : ¬ ((6 : Int32) < 0 ∨ c15.slots.size ≤ ((6 : Int32)).toNatClampNeg) := inb_of t15 ⟨by decide, by decide⟩
  obtain ⟨T15, h15, X15, e15, W15, st15⟩ := stR X14 hx hZ e14 r15 (j := (6 : Int32)) i15 rfl (Sto.ofV r15 q15 O1v (Ins.self ((ex_w6_INCH_STORAGE_EXIT hw hA).ext O13.2))) (g := (mkF m 47 #[.val (.int p0), .unset, .unset, .unset] [(.ref (w6_INCH_STORAGE_EXIT Z)), (.int (6 : Int32)), (.ref b1), (.ref b1)])) rfl rfl (hb hby at_47)
  refine own_step st15 ?_
  have N15 := Fr.snoc X15 N13 g1
  have O15 := O13.wr W15 g1
  have K15 : Keep h0 h15 [] := K13.wr W15 (Or.inr y1)
  have V15 : Arv Z h15 b1 k1 (.object "com/example/linepack/linepack/PointClass") (9 : Int32) [(.ref (w0_MOFFAT Z)), (.ref (w1_INCH Z)), (.ref (w2_BELLANABOY Z)), (.ref (w3_LDM Z)), (.ref (w4_DM Z)), (.ref (w5_NDM Z)), (.ref (w6_INCH_STORAGE_EXIT Z)), .null, .null] .null := Arv.set r15 q15 t15 u15 y15h y15g rfl W15 6 rfl (Nat.le_of_ble_eq_true rfl)
  show own_Wp p e below _ T15 (mkF m 48 #[.val (.int p0), .unset, .unset, .unset] [(.ref b1)])
  refine own_step (fun _ k => XS.dup X15.here hx rfl (hb hby at_48) rfl rfl k) ?_
  show own_Wp p e below _ T15 (mkF m 49 #[.val (.int p0), .unset, .unset, .unset] [(.ref b1), (.ref b1)])
  refine own_step (fun _ k => XS.bipush X15.here hx rfl (hb hby at_49) k) ?_
  show own_Wp p e below _ T15 (mkF m 51 #[.val (.int p0), .unset, .unset, .unset] [(.int (7 : Int32)), (.ref b1), (.ref b1)])
  obtain ⟨T16, X16, e16, st16⟩ := getS2 X15 hx hZ hown (host := "") (Or.inl (hw _ (List.mem_of_getElem? (i := 18) rfl))) Via.refl e15 ((st_w7_SN_IP hw hA).ext O15.2) (g := (mkF m 51 #[.val (.int p0), .unset, .unset, .unset] [(.int (7 : Int32)), (.ref b1), (.ref b1)])) rfl (hb hby at_51)
  refine own_step st16 ?_
  show own_Wp p e below _ T16 (mkF m 54 #[.val (.int p0), .unset, .unset, .unset] [(.ref (w7_SN_IP Z)), (.int (7 : Int32)), (.ref b1), (.ref b1)])
  obtain ⟨c17, r17, q17, t17, u17, y17h, y17g⟩ := V15
  have i17 : ¬ ((7 : Int32) < 0 ∨ c17.slots.size ≤ ((7 : Int32)).toNatClampNeg) := inb_of t17 ⟨by decide, by decide⟩
  obtain ⟨T17, h17, X17, e17, W17, st17⟩ := stR X16 hx hZ e16 r17 (j := (7 : Int32)) i17 rfl (Sto.ofV r17 q17 O1v (Ins.self ((ex_w7_SN_IP hw hA).ext O15.2))) (g := (mkF m 54 #[.val (.int p0), .unset, .unset, .unset] [(.ref (w7_SN_IP Z)), (.int (7 : Int32)), (.ref b1), (.ref b1)])) rfl rfl (hb hby at_54)
  refine own_step st17 ?_
  have N17 := Fr.snoc X17 N15 g1
  have O17 := O15.wr W17 g1
  have K17 : Keep h0 h17 [] := K15.wr W17 (Or.inr y1)
  have V17 : Arv Z h17 b1 k1 (.object "com/example/linepack/linepack/PointClass") (9 : Int32) [(.ref (w0_MOFFAT Z)), (.ref (w1_INCH Z)), (.ref (w2_BELLANABOY Z)), (.ref (w3_LDM Z)), (.ref (w4_DM Z)), (.ref (w5_NDM Z)), (.ref (w6_INCH_STORAGE_EXIT Z)), (.ref (w7_SN_IP Z)), .null] .null := Arv.set r17 q17 t17 u17 y17h y17g rfl W17 7 rfl (Nat.le_of_ble_eq_true rfl)
  show own_Wp p e below _ T17 (mkF m 55 #[.val (.int p0), .unset, .unset, .unset] [(.ref b1)])
  refine own_step (fun _ k => XS.dup X17.here hx rfl (hb hby at_55) rfl rfl k) ?_
  show own_Wp p e below _ T17 (mkF m 56 #[.val (.int p0), .unset, .unset, .unset] [(.ref b1), (.ref b1)])
  refine own_step (fun _ k => XS.bipush X17.here hx rfl (hb hby at_56) k) ?_
  show own_Wp p e below _ T17 (mkF m 58 #[.val (.int p0), .unset, .unset, .unset] [(.int (8 : Int32)), (.ref b1), (.ref b1)])
  obtain ⟨T18, X18, e18, st18⟩ := getS2 X17 hx hZ hown (host := "") (Or.inl (hw _ (List.mem_of_getElem? (i := 20) rfl))) Via.refl e17 ((st_w8_SUBSEA_IC hw hA).ext O17.2) (g := (mkF m 58 #[.val (.int p0), .unset, .unset, .unset] [(.int (8 : Int32)), (.ref b1), (.ref b1)])) rfl (hb hby at_58)
  refine own_step st18 ?_
  show own_Wp p e below _ T18 (mkF m 61 #[.val (.int p0), .unset, .unset, .unset] [(.ref (w8_SUBSEA_IC Z)), (.int (8 : Int32)), (.ref b1), (.ref b1)])
  obtain ⟨c19, r19, q19, t19, u19, y19h, y19g⟩ := V17
  have i19 : ¬ ((8 : Int32) < 0 ∨ c19.slots.size ≤ ((8 : Int32)).toNatClampNeg) := inb_of t19 ⟨by decide, by decide⟩
  obtain ⟨T19, h19, X19, e19, W19, st19⟩ := stR X18 hx hZ e18 r19 (j := (8 : Int32)) i19 rfl (Sto.ofV r19 q19 O1v (Ins.self ((ex_w8_SUBSEA_IC hw hA).ext O17.2))) (g := (mkF m 61 #[.val (.int p0), .unset, .unset, .unset] [(.ref (w8_SUBSEA_IC Z)), (.int (8 : Int32)), (.ref b1), (.ref b1)])) rfl rfl (hb hby at_61)
  refine own_step st19 ?_
  have N19 := Fr.snoc X19 N17 g1
  have O19 := O17.wr W19 g1
  have K19 : Keep h0 h19 [] := K17.wr W19 (Or.inr y1)
  have V19 : Arv Z h19 b1 k1 (.object "com/example/linepack/linepack/PointClass") (9 : Int32) [(.ref (w0_MOFFAT Z)), (.ref (w1_INCH Z)), (.ref (w2_BELLANABOY Z)), (.ref (w3_LDM Z)), (.ref (w4_DM Z)), (.ref (w5_NDM Z)), (.ref (w6_INCH_STORAGE_EXIT Z)), (.ref (w7_SN_IP Z)), (.ref (w8_SUBSEA_IC Z))] .null := Arv.set r19 q19 t19 u19 y19h y19g rfl W19 8 rfl (Nat.le_of_ble_eq_true rfl)
  show own_Wp p e below _ T19 (mkF m 62 #[.val (.int p0), .unset, .unset, .unset] [(.ref b1)])
  refine own_step (fun _ k => XS.astoreN X19.here hx rfl (hb hby at_62) rfl rfl (l' := #[.val (.int p0), .val (.ref b1), .unset, .unset]) rfl k) ?_
  show own_Wp p e below _ T19 (mkF m 63 #[.val (.int p0), .val (.ref b1), .unset, .unset] [])
  refine own_step (fun _ k => XS.iloadN X19.here hx rfl (hb hby at_63) rfl k) ?_
  show own_Wp p e below _ T19 (mkF m 64 #[.val (.int p0), .val (.ref b1), .unset, .unset] [(.int p0)])
  refine own_step (X19.ldcInt hx hown (mvT hZ (hw _ (List.mem_of_getElem? (i := 22) rfl))) (g := (mkF m 64 #[.val (.int p0), .val (.ref b1), .unset, .unset] [(.int p0)])) rfl (hb hby at_64)) ?_
  show own_Wp p e below _ T19 (mkF m 66 #[.val (.int p0), .val (.ref b1), .unset, .unset] [(.int (2147483647 : Int32)), (.int p0)])
  refine own_step (fun _ k => XS.iand X19.here hx rfl (hb hby at_66) rfl k) ?_
  show own_Wp p e below _ T19 (mkF m 67 #[.val (.int p0), .val (.ref b1), .unset, .unset] [(.int (p0 &&& (2147483647 : Int32)))])
  refine own_step (fun _ k => XS.bipush X19.here hx rfl (hb hby at_67) k) ?_
  show own_Wp p e below _ T19 (mkF m 69 #[.val (.int p0), .val (.ref b1), .unset, .unset] [(.int (9 : Int32)), (.int (p0 &&& (2147483647 : Int32)))])
  refine own_step (fun _ k => iremM (g := (mkF m 69 #[.val (.int p0), .val (.ref b1), .unset, .unset] [(.int (9 : Int32)), (.int (p0 &&& (2147483647 : Int32)))])) X19 hx rfl (hb hby at_69) rfl (by decide) k) ?_
  show own_Wp p e below _ T19 (mkF m 70 #[.val (.int p0), .val (.ref b1), .unset, .unset] [(.int ((p0 &&& (2147483647 : Int32)) % (9 : Int32)))])
  rcases own_mod9 p0 with hm | hm | hm | hm | hm | hm | hm | hm | hm
  · skip
    rw [hm]
    show own_Wp p e below _ T19 (mkF m 70 #[.val (.int p0), .val (.ref b1), .unset, .unset] [(.int (0 : Int32))])
    refine own_step (fun _ k => XS.istoreN X19.here hx rfl (hb hby at_70) rfl (l' := #[.val (.int p0), .val (.ref b1), .val (.int (0 : Int32)), .unset]) rfl k) ?_
    show own_Wp p e below _ T19 (mkF m 71 #[.val (.int p0), .val (.ref b1), .val (.int (0 : Int32)), .unset] [])
    refine own_step (fun _ k => XS.iloadN X19.here hx rfl (hb hby at_71) rfl k) ?_
    show own_Wp p e below _ T19 (mkF m 72 #[.val (.int p0), .val (.ref b1), .val (.int (0 : Int32)), .unset] [(.int (0 : Int32))])
    refine own_step (fun _ k => XS.ifYes X19.here hx rfl (pc0 := 72) (pc' := 81) rfl (hb hby at_72) rfl (by decide) (by decide) (by decide) k) ?_
    show own_Wp p e below _ T19 (mkF m 81 #[.val (.int p0), .val (.ref b1), .val (.int (0 : Int32)), .unset] [])
    refine own_step (fun _ k => XS.iconst X19.here hx rfl (hb hby at_81) k) ?_
    show own_Wp p e below _ T19 (mkF m 82 #[.val (.int p0), .val (.ref b1), .val (.int (0 : Int32)), .unset] [(.int (1 : Int32))])
    refine own_step (fun _ k => XS.goto X19.here hx rfl (pc0 := 82) (pc' := 86) rfl (hb hby at_82) (by decide) (by decide) k) ?_
    show own_Wp p e below _ T19 (mkF m 86 #[.val (.int p0), .val (.ref b1), .val (.int (0 : Int32)), .unset] [(.int (1 : Int32))])
    refine own_step (fun _ k => XS.istoreN X19.here hx rfl (hb hby at_86) rfl (l' := #[.val (.int p0), .val (.ref b1), .val (.int (0 : Int32)), .val (.int (1 : Int32))]) rfl k) ?_
    show own_Wp p e below _ T19 (mkF m 87 #[.val (.int p0), .val (.ref b1), .val (.int (0 : Int32)), .val (.int (1 : Int32))] [])
    refine own_step (fun _ k => XS.aloadN X19.here hx rfl (hb hby at_87) rfl rfl k) ?_
    show own_Wp p e below _ T19 (mkF m 88 #[.val (.int p0), .val (.ref b1), .val (.int (0 : Int32)), .val (.int (1 : Int32))] [(.ref b1)])
    refine own_step (fun _ k => XS.iloadN X19.here hx rfl (hb hby at_88) rfl k) ?_
    show own_Wp p e below _ T19 (mkF m 89 #[.val (.int p0), .val (.ref b1), .val (.int (0 : Int32)), .val (.int (1 : Int32))] [(.int (0 : Int32)), (.ref b1)])
    obtain ⟨c20, r20, q20, t20, u20, y20h, y20g⟩ := V19
    have i20 : ¬ ((0 : Int32) < 0 ∨ c20.slots.size ≤ ((0 : Int32)).toNatClampNeg) := inb_of t20 ⟨by decide, by decide⟩
    refine own_step (fun _ k => X19.aaload hx (j := (0 : Int32)) (v := (.ref (w0_MOFFAT Z))) (by rw [e19]; exact r20.1) (State.isArrayOf_alike hZ.alike r20.2.1) rfl r20.2.2 i20 (own_get t20 y20h i20 0 rfl) (g := (mkF m 89 #[.val (.int p0), .val (.ref b1), .val (.int (0 : Int32)), .val (.int (1 : Int32))] [(.int (0 : Int32)), (.ref b1)])) rfl rfl (hb hby at_89) _ k) ?_
    show own_Wp p e below _ T19 (mkF m 90 #[.val (.int p0), .val (.ref b1), .val (.int (0 : Int32)), .val (.int (1 : Int32))] [(.ref (w0_MOFFAT Z))])
    obtain ⟨_, T21, L21, X21, hQ21, st21⟩ := own_callV X19 hx hZ hown (hw _ (List.mem_of_getElem? (i := 23) rfl)) (hw _ (List.mem_of_getElem? (i := 24) rfl)) (notFace_of_selects (args := #[]) (mvT hZ (hw _ (List.mem_of_getElem? (i := 26) rfl)))) (hw _ (List.mem_of_getElem? (i := 26) rfl)) (hw _ (List.mem_of_getElem? (i := 25) rfl)) (hw _ (List.mem_of_getElem? (i := 3) rfl)) (hw _ (List.mem_of_getElem? (i := 27) rfl)) (by decide) ((ex_w0_MOFFAT hw hA).ext O19.2) (rm1_0 l Z a0 hw hA [] h19 n0 O19) (W := 0) (by decide) (by decide) [] rfl (lenOf pd1 rfl) (Ls := #[.val (.int p0), .val (.ref b1), .val (.int (0 : Int32)), .val (.int (1 : Int32))]) (by rw [hml]; rfl) (rest := []) (Nat.le_of_eq rfl) (hb hby at_90) e19 (by decide) (by decide)
    refine st21 _ ?_
    obtain ⟨rfl, N21q, e21⟩ := hQ21
    have N21 := Fr.app N19 N21q
    show own_Wp p e below _ T21 (mkF m 93 #[.val (.int p0), .val (.ref b1), .val (.int (0 : Int32)), .val (.int (1 : Int32))] [(.int (1 : Int32))])
    refine own_step (fun _ k => XS.iloadN X21.here hx rfl (hb hby at_93) rfl k) ?_
    show own_Wp p e below _ T21 (mkF m 94 #[.val (.int p0), .val (.ref b1), .val (.int (0 : Int32)), .val (.int (1 : Int32))] [(.int (1 : Int32)), (.int (1 : Int32))])
    refine own_step (fun _ k => XS.icmpNo X21.here hx rfl (hb hby at_94) rfl (by decide) k) ?_
    show own_Wp p e below _ T21 (mkF m 97 #[.val (.int p0), .val (.ref b1), .val (.int (0 : Int32)), .val (.int (1 : Int32))] [])
    refine own_step (fun _ k => XS.iconst X21.here hx rfl (hb hby at_97) k) ?_
    show own_Wp p e below _ T21 (mkF m 98 #[.val (.int p0), .val (.ref b1), .val (.int (0 : Int32)), .val (.int (1 : Int32))] [(.int (1 : Int32))])
    refine own_step (fun _ k => XS.goto X21.here hx rfl (pc0 := 98) (pc' := 102) rfl (hb hby at_98) (by decide) (by decide) k) ?_
    show own_Wp p e below _ T21 (mkF m 102 #[.val (.int p0), .val (.ref b1), .val (.int (0 : Int32)), .val (.int (1 : Int32))] [(.int (1 : Int32))])
    exact own_retN X21 hx (t := .boolean) hret (by simp) hlk (hb hby at_102) (by decide) (by decide) ⟨rfl, N21⟩
  · skip
    rw [hm]
    show own_Wp p e below _ T19 (mkF m 70 #[.val (.int p0), .val (.ref b1), .unset, .unset] [(.int (1 : Int32))])
    refine own_step (fun _ k => XS.istoreN X19.here hx rfl (hb hby at_70) rfl (l' := #[.val (.int p0), .val (.ref b1), .val (.int (1 : Int32)), .unset]) rfl k) ?_
    show own_Wp p e below _ T19 (mkF m 71 #[.val (.int p0), .val (.ref b1), .val (.int (1 : Int32)), .unset] [])
    refine own_step (fun _ k => XS.iloadN X19.here hx rfl (hb hby at_71) rfl k) ?_
    show own_Wp p e below _ T19 (mkF m 72 #[.val (.int p0), .val (.ref b1), .val (.int (1 : Int32)), .unset] [(.int (1 : Int32))])
    refine own_step (fun _ k => XS.ifNo X19.here hx rfl (hb hby at_72) rfl (by decide) k) ?_
    show own_Wp p e below _ T19 (mkF m 75 #[.val (.int p0), .val (.ref b1), .val (.int (1 : Int32)), .unset] [])
    refine own_step (fun _ k => XS.iloadN X19.here hx rfl (hb hby at_75) rfl k) ?_
    show own_Wp p e below _ T19 (mkF m 76 #[.val (.int p0), .val (.ref b1), .val (.int (1 : Int32)), .unset] [(.int (1 : Int32))])
    refine own_step (fun _ k => XS.bipush X19.here hx rfl (hb hby at_76) k) ?_
    show own_Wp p e below _ T19 (mkF m 78 #[.val (.int p0), .val (.ref b1), .val (.int (1 : Int32)), .unset] [(.int (7 : Int32)), (.int (1 : Int32))])
    refine own_step (fun _ k => XS.icmpYes X19.here hx rfl (pc0 := 78) (pc' := 85) rfl (hb hby at_78) rfl (by decide) (by decide) (by decide) k) ?_
    show own_Wp p e below _ T19 (mkF m 85 #[.val (.int p0), .val (.ref b1), .val (.int (1 : Int32)), .unset] [])
    refine own_step (fun _ k => XS.iconst X19.here hx rfl (hb hby at_85) k) ?_
    show own_Wp p e below _ T19 (mkF m 86 #[.val (.int p0), .val (.ref b1), .val (.int (1 : Int32)), .unset] [(.int (0 : Int32))])
    refine own_step (fun _ k => XS.istoreN X19.here hx rfl (hb hby at_86) rfl (l' := #[.val (.int p0), .val (.ref b1), .val (.int (1 : Int32)), .val (.int (0 : Int32))]) rfl k) ?_
    show own_Wp p e below _ T19 (mkF m 87 #[.val (.int p0), .val (.ref b1), .val (.int (1 : Int32)), .val (.int (0 : Int32))] [])
    refine own_step (fun _ k => XS.aloadN X19.here hx rfl (hb hby at_87) rfl rfl k) ?_
    show own_Wp p e below _ T19 (mkF m 88 #[.val (.int p0), .val (.ref b1), .val (.int (1 : Int32)), .val (.int (0 : Int32))] [(.ref b1)])
    refine own_step (fun _ k => XS.iloadN X19.here hx rfl (hb hby at_88) rfl k) ?_
    show own_Wp p e below _ T19 (mkF m 89 #[.val (.int p0), .val (.ref b1), .val (.int (1 : Int32)), .val (.int (0 : Int32))] [(.int (1 : Int32)), (.ref b1)])
    obtain ⟨c22, r22, q22, t22, u22, y22h, y22g⟩ := V19
    have i22 : ¬ ((1 : Int32) < 0 ∨ c22.slots.size ≤ ((1 : Int32)).toNatClampNeg) := inb_of t22 ⟨by decide, by decide⟩
    refine own_step (fun _ k => X19.aaload hx (j := (1 : Int32)) (v := (.ref (w1_INCH Z))) (by rw [e19]; exact r22.1) (State.isArrayOf_alike hZ.alike r22.2.1) rfl r22.2.2 i22 (own_get t22 y22h i22 1 rfl) (g := (mkF m 89 #[.val (.int p0), .val (.ref b1), .val (.int (1 : Int32)), .val (.int (0 : Int32))] [(.int (1 : Int32)), (.ref b1)])) rfl rfl (hb hby at_89) _ k) ?_
    show own_Wp p e below _ T19 (mkF m 90 #[.val (.int p0), .val (.ref b1), .val (.int (1 : Int32)), .val (.int (0 : Int32))] [(.ref (w1_INCH Z))])
    obtain ⟨_, T23, L23, X23, hQ23, st23⟩ := own_callV X19 hx hZ hown (hw _ (List.mem_of_getElem? (i := 23) rfl)) (hw _ (List.mem_of_getElem? (i := 24) rfl)) (notFace_of_selects (args := #[]) (mvT hZ (hw _ (List.mem_of_getElem? (i := 26) rfl)))) (hw _ (List.mem_of_getElem? (i := 26) rfl)) (hw _ (List.mem_of_getElem? (i := 25) rfl)) (hw _ (List.mem_of_getElem? (i := 3) rfl)) (hw _ (List.mem_of_getElem? (i := 27) rfl)) (by decide) ((ex_w1_INCH hw hA).ext O19.2) (rm1_1 l Z a0 hw hA [] (w1_INCH Z) h19 n0 O19 (Fld.ne (fl4 hw hA) (fl1 hw hA) (by decide)) (Fld.ne (fl4 hw hA) (fl2 hw hA) (by decide))) (W := 0) (by decide) (by decide) [] rfl (lenOf pd1 rfl) (Ls := #[.val (.int p0), .val (.ref b1), .val (.int (1 : Int32)), .val (.int (0 : Int32))]) (by rw [hml]; rfl) (rest := []) (Nat.le_of_eq rfl) (hb hby at_90) e19 (by decide) (by decide)
    refine st23 _ ?_
    obtain ⟨rfl, N23q, e23⟩ := hQ23
    have N23 := Fr.app N19 N23q
    show own_Wp p e below _ T23 (mkF m 93 #[.val (.int p0), .val (.ref b1), .val (.int (1 : Int32)), .val (.int (0 : Int32))] [(.int (0 : Int32))])
    refine own_step (fun _ k => XS.iloadN X23.here hx rfl (hb hby at_93) rfl k) ?_
    show own_Wp p e below _ T23 (mkF m 94 #[.val (.int p0), .val (.ref b1), .val (.int (1 : Int32)), .val (.int (0 : Int32))] [(.int (0 : Int32)), (.int (0 : Int32))])
    refine own_step (fun _ k => XS.icmpNo X23.here hx rfl (hb hby at_94) rfl (by decide) k) ?_
    show own_Wp p e below _ T23 (mkF m 97 #[.val (.int p0), .val (.ref b1), .val (.int (1 : Int32)), .val (.int (0 : Int32))] [])
    refine own_step (fun _ k => XS.iconst X23.here hx rfl (hb hby at_97) k) ?_
    show own_Wp p e below _ T23 (mkF m 98 #[.val (.int p0), .val (.ref b1), .val (.int (1 : Int32)), .val (.int (0 : Int32))] [(.int (1 : Int32))])
    refine own_step (fun _ k => XS.goto X23.here hx rfl (pc0 := 98) (pc' := 102) rfl (hb hby at_98) (by decide) (by decide) k) ?_
    show own_Wp p e below _ T23 (mkF m 102 #[.val (.int p0), .val (.ref b1), .val (.int (1 : Int32)), .val (.int (0 : Int32))] [(.int (1 : Int32))])
    exact own_retN X23 hx (t := .boolean) hret (by simp) hlk (hb hby at_102) (by decide) (by decide) ⟨rfl, N23⟩
  · skip
    rw [hm]
    show own_Wp p e below _ T19 (mkF m 70 #[.val (.int p0), .val (.ref b1), .unset, .unset] [(.int (2 : Int32))])
    refine own_step (fun _ k => XS.istoreN X19.here hx rfl (hb hby at_70) rfl (l' := #[.val (.int p0), .val (.ref b1), .val (.int (2 : Int32)), .unset]) rfl k) ?_
    show own_Wp p e below _ T19 (mkF m 71 #[.val (.int p0), .val (.ref b1), .val (.int (2 : Int32)), .unset] [])
    refine own_step (fun _ k => XS.iloadN X19.here hx rfl (hb hby at_71) rfl k) ?_
    show own_Wp p e below _ T19 (mkF m 72 #[.val (.int p0), .val (.ref b1), .val (.int (2 : Int32)), .unset] [(.int (2 : Int32))])
    refine own_step (fun _ k => XS.ifNo X19.here hx rfl (hb hby at_72) rfl (by decide) k) ?_
    show own_Wp p e below _ T19 (mkF m 75 #[.val (.int p0), .val (.ref b1), .val (.int (2 : Int32)), .unset] [])
    refine own_step (fun _ k => XS.iloadN X19.here hx rfl (hb hby at_75) rfl k) ?_
    show own_Wp p e below _ T19 (mkF m 76 #[.val (.int p0), .val (.ref b1), .val (.int (2 : Int32)), .unset] [(.int (2 : Int32))])
    refine own_step (fun _ k => XS.bipush X19.here hx rfl (hb hby at_76) k) ?_
    show own_Wp p e below _ T19 (mkF m 78 #[.val (.int p0), .val (.ref b1), .val (.int (2 : Int32)), .unset] [(.int (7 : Int32)), (.int (2 : Int32))])
    refine own_step (fun _ k => XS.icmpYes X19.here hx rfl (pc0 := 78) (pc' := 85) rfl (hb hby at_78) rfl (by decide) (by decide) (by decide) k) ?_
    show own_Wp p e below _ T19 (mkF m 85 #[.val (.int p0), .val (.ref b1), .val (.int (2 : Int32)), .unset] [])
    refine own_step (fun _ k => XS.iconst X19.here hx rfl (hb hby at_85) k) ?_
    show own_Wp p e below _ T19 (mkF m 86 #[.val (.int p0), .val (.ref b1), .val (.int (2 : Int32)), .unset] [(.int (0 : Int32))])
    refine own_step (fun _ k => XS.istoreN X19.here hx rfl (hb hby at_86) rfl (l' := #[.val (.int p0), .val (.ref b1), .val (.int (2 : Int32)), .val (.int (0 : Int32))]) rfl k) ?_
    show own_Wp p e below _ T19 (mkF m 87 #[.val (.int p0), .val (.ref b1), .val (.int (2 : Int32)), .val (.int (0 : Int32))] [])
    refine own_step (fun _ k => XS.aloadN X19.here hx rfl (hb hby at_87) rfl rfl k) ?_
    show own_Wp p e below _ T19 (mkF m 88 #[.val (.int p0), .val (.ref b1), .val (.int (2 : Int32)), .val (.int (0 : Int32))] [(.ref b1)])
    refine own_step (fun _ k => XS.iloadN X19.here hx rfl (hb hby at_88) rfl k) ?_
    show own_Wp p e below _ T19 (mkF m 89 #[.val (.int p0), .val (.ref b1), .val (.int (2 : Int32)), .val (.int (0 : Int32))] [(.int (2 : Int32)), (.ref b1)])
    obtain ⟨c24, r24, q24, t24, u24, y24h, y24g⟩ := V19
    have i24 : ¬ ((2 : Int32) < 0 ∨ c24.slots.size ≤ ((2 : Int32)).toNatClampNeg) := inb_of t24 ⟨by decide, by decide⟩
    refine own_step (fun _ k => X19.aaload hx (j := (2 : Int32)) (v := (.ref (w2_BELLANABOY Z))) (by rw [e19]; exact r24.1) (State.isArrayOf_alike hZ.alike r24.2.1) rfl r24.2.2 i24 (own_get t24 y24h i24 2 rfl) (g := (mkF m 89 #[.val (.int p0), .val (.ref b1), .val (.int (2 : Int32)), .val (.int (0 : Int32))] [(.int (2 : Int32)), (.ref b1)])) rfl rfl (hb hby at_89) _ k) ?_
    show own_Wp p e below _ T19 (mkF m 90 #[.val (.int p0), .val (.ref b1), .val (.int (2 : Int32)), .val (.int (0 : Int32))] [(.ref (w2_BELLANABOY Z))])
    obtain ⟨_, T25, L25, X25, hQ25, st25⟩ := own_callV X19 hx hZ hown (hw _ (List.mem_of_getElem? (i := 23) rfl)) (hw _ (List.mem_of_getElem? (i := 24) rfl)) (notFace_of_selects (args := #[]) (mvT hZ (hw _ (List.mem_of_getElem? (i := 26) rfl)))) (hw _ (List.mem_of_getElem? (i := 26) rfl)) (hw _ (List.mem_of_getElem? (i := 25) rfl)) (hw _ (List.mem_of_getElem? (i := 3) rfl)) (hw _ (List.mem_of_getElem? (i := 27) rfl)) (by decide) ((ex_w2_BELLANABOY hw hA).ext O19.2) (rm1_1 l Z a0 hw hA [] (w2_BELLANABOY Z) h19 n0 O19 (Fld.ne (fl3 hw hA) (fl1 hw hA) (by decide)) (Fld.ne (fl3 hw hA) (fl2 hw hA) (by decide))) (W := 0) (by decide) (by decide) [] rfl (lenOf pd1 rfl) (Ls := #[.val (.int p0), .val (.ref b1), .val (.int (2 : Int32)), .val (.int (0 : Int32))]) (by rw [hml]; rfl) (rest := []) (Nat.le_of_eq rfl) (hb hby at_90) e19 (by decide) (by decide)
    refine st25 _ ?_
    obtain ⟨rfl, N25q, e25⟩ := hQ25
    have N25 := Fr.app N19 N25q
    show own_Wp p e below _ T25 (mkF m 93 #[.val (.int p0), .val (.ref b1), .val (.int (2 : Int32)), .val (.int (0 : Int32))] [(.int (0 : Int32))])
    refine own_step (fun _ k => XS.iloadN X25.here hx rfl (hb hby at_93) rfl k) ?_
    show own_Wp p e below _ T25 (mkF m 94 #[.val (.int p0), .val (.ref b1), .val (.int (2 : Int32)), .val (.int (0 : Int32))] [(.int (0 : Int32)), (.int (0 : Int32))])
    refine own_step (fun _ k => XS.icmpNo X25.here hx rfl (hb hby at_94) rfl (by decide) k) ?_
    show own_Wp p e below _ T25 (mkF m 97 #[.val (.int p0), .val (.ref b1), .val (.int (2 : Int32)), .val (.int (0 : Int32))] [])
    refine own_step (fun _ k => XS.iconst X25.here hx rfl (hb hby at_97) k) ?_
    show own_Wp p e below _ T25 (mkF m 98 #[.val (.int p0), .val (.ref b1), .val (.int (2 : Int32)), .val (.int (0 : Int32))] [(.int (1 : Int32))])
    refine own_step (fun _ k => XS.goto X25.here hx rfl (pc0 := 98) (pc' := 102) rfl (hb hby at_98) (by decide) (by decide) k) ?_
    show own_Wp p e below _ T25 (mkF m 102 #[.val (.int p0), .val (.ref b1), .val (.int (2 : Int32)), .val (.int (0 : Int32))] [(.int (1 : Int32))])
    exact own_retN X25 hx (t := .boolean) hret (by simp) hlk (hb hby at_102) (by decide) (by decide) ⟨rfl, N25⟩
  · skip
    rw [hm]
    show own_Wp p e below _ T19 (mkF m 70 #[.val (.int p0), .val (.ref b1), .unset, .unset] [(.int (3 : Int32))])
    refine own_step (fun _ k => XS.istoreN X19.here hx rfl (hb hby at_70) rfl (l' := #[.val (.int p0), .val (.ref b1), .val (.int (3 : Int32)), .unset]) rfl k) ?_
    show own_Wp p e below _ T19 (mkF m 71 #[.val (.int p0), .val (.ref b1), .val (.int (3 : Int32)), .unset] [])
    refine own_step (fun _ k => XS.iloadN X19.here hx rfl (hb hby at_71) rfl k) ?_
    show own_Wp p e below _ T19 (mkF m 72 #[.val (.int p0), .val (.ref b1), .val (.int (3 : Int32)), .unset] [(.int (3 : Int32))])
    refine own_step (fun _ k => XS.ifNo X19.here hx rfl (hb hby at_72) rfl (by decide) k) ?_
    show own_Wp p e below _ T19 (mkF m 75 #[.val (.int p0), .val (.ref b1), .val (.int (3 : Int32)), .unset] [])
    refine own_step (fun _ k => XS.iloadN X19.here hx rfl (hb hby at_75) rfl k) ?_
    show own_Wp p e below _ T19 (mkF m 76 #[.val (.int p0), .val (.ref b1), .val (.int (3 : Int32)), .unset] [(.int (3 : Int32))])
    refine own_step (fun _ k => XS.bipush X19.here hx rfl (hb hby at_76) k) ?_
    show own_Wp p e below _ T19 (mkF m 78 #[.val (.int p0), .val (.ref b1), .val (.int (3 : Int32)), .unset] [(.int (7 : Int32)), (.int (3 : Int32))])
    refine own_step (fun _ k => XS.icmpYes X19.here hx rfl (pc0 := 78) (pc' := 85) rfl (hb hby at_78) rfl (by decide) (by decide) (by decide) k) ?_
    show own_Wp p e below _ T19 (mkF m 85 #[.val (.int p0), .val (.ref b1), .val (.int (3 : Int32)), .unset] [])
    refine own_step (fun _ k => XS.iconst X19.here hx rfl (hb hby at_85) k) ?_
    show own_Wp p e below _ T19 (mkF m 86 #[.val (.int p0), .val (.ref b1), .val (.int (3 : Int32)), .unset] [(.int (0 : Int32))])
    refine own_step (fun _ k => XS.istoreN X19.here hx rfl (hb hby at_86) rfl (l' := #[.val (.int p0), .val (.ref b1), .val (.int (3 : Int32)), .val (.int (0 : Int32))]) rfl k) ?_
    show own_Wp p e below _ T19 (mkF m 87 #[.val (.int p0), .val (.ref b1), .val (.int (3 : Int32)), .val (.int (0 : Int32))] [])
    refine own_step (fun _ k => XS.aloadN X19.here hx rfl (hb hby at_87) rfl rfl k) ?_
    show own_Wp p e below _ T19 (mkF m 88 #[.val (.int p0), .val (.ref b1), .val (.int (3 : Int32)), .val (.int (0 : Int32))] [(.ref b1)])
    refine own_step (fun _ k => XS.iloadN X19.here hx rfl (hb hby at_88) rfl k) ?_
    show own_Wp p e below _ T19 (mkF m 89 #[.val (.int p0), .val (.ref b1), .val (.int (3 : Int32)), .val (.int (0 : Int32))] [(.int (3 : Int32)), (.ref b1)])
    obtain ⟨c26, r26, q26, t26, u26, y26h, y26g⟩ := V19
    have i26 : ¬ ((3 : Int32) < 0 ∨ c26.slots.size ≤ ((3 : Int32)).toNatClampNeg) := inb_of t26 ⟨by decide, by decide⟩
    refine own_step (fun _ k => X19.aaload hx (j := (3 : Int32)) (v := (.ref (w3_LDM Z))) (by rw [e19]; exact r26.1) (State.isArrayOf_alike hZ.alike r26.2.1) rfl r26.2.2 i26 (own_get t26 y26h i26 3 rfl) (g := (mkF m 89 #[.val (.int p0), .val (.ref b1), .val (.int (3 : Int32)), .val (.int (0 : Int32))] [(.int (3 : Int32)), (.ref b1)])) rfl rfl (hb hby at_89) _ k) ?_
    show own_Wp p e below _ T19 (mkF m 90 #[.val (.int p0), .val (.ref b1), .val (.int (3 : Int32)), .val (.int (0 : Int32))] [(.ref (w3_LDM Z))])
    obtain ⟨_, T27, L27, X27, hQ27, st27⟩ := own_callV X19 hx hZ hown (hw _ (List.mem_of_getElem? (i := 23) rfl)) (hw _ (List.mem_of_getElem? (i := 24) rfl)) (notFace_of_selects (args := #[]) (mvT hZ (hw _ (List.mem_of_getElem? (i := 26) rfl)))) (hw _ (List.mem_of_getElem? (i := 26) rfl)) (hw _ (List.mem_of_getElem? (i := 25) rfl)) (hw _ (List.mem_of_getElem? (i := 3) rfl)) (hw _ (List.mem_of_getElem? (i := 27) rfl)) (by decide) ((ex_w3_LDM hw hA).ext O19.2) (rm1_1 l Z a0 hw hA [] (w3_LDM Z) h19 n0 O19 (Fld.ne (fl0 hw hA) (fl1 hw hA) (by decide)) (Fld.ne (fl0 hw hA) (fl2 hw hA) (by decide))) (W := 0) (by decide) (by decide) [] rfl (lenOf pd1 rfl) (Ls := #[.val (.int p0), .val (.ref b1), .val (.int (3 : Int32)), .val (.int (0 : Int32))]) (by rw [hml]; rfl) (rest := []) (Nat.le_of_eq rfl) (hb hby at_90) e19 (by decide) (by decide)
    refine st27 _ ?_
    obtain ⟨rfl, N27q, e27⟩ := hQ27
    have N27 := Fr.app N19 N27q
    show own_Wp p e below _ T27 (mkF m 93 #[.val (.int p0), .val (.ref b1), .val (.int (3 : Int32)), .val (.int (0 : Int32))] [(.int (0 : Int32))])
    refine own_step (fun _ k => XS.iloadN X27.here hx rfl (hb hby at_93) rfl k) ?_
    show own_Wp p e below _ T27 (mkF m 94 #[.val (.int p0), .val (.ref b1), .val (.int (3 : Int32)), .val (.int (0 : Int32))] [(.int (0 : Int32)), (.int (0 : Int32))])
    refine own_step (fun _ k => XS.icmpNo X27.here hx rfl (hb hby at_94) rfl (by decide) k) ?_
    show own_Wp p e below _ T27 (mkF m 97 #[.val (.int p0), .val (.ref b1), .val (.int (3 : Int32)), .val (.int (0 : Int32))] [])
    refine own_step (fun _ k => XS.iconst X27.here hx rfl (hb hby at_97) k) ?_
    show own_Wp p e below _ T27 (mkF m 98 #[.val (.int p0), .val (.ref b1), .val (.int (3 : Int32)), .val (.int (0 : Int32))] [(.int (1 : Int32))])
    refine own_step (fun _ k => XS.goto X27.here hx rfl (pc0 := 98) (pc' := 102) rfl (hb hby at_98) (by decide) (by decide) k) ?_
    show own_Wp p e below _ T27 (mkF m 102 #[.val (.int p0), .val (.ref b1), .val (.int (3 : Int32)), .val (.int (0 : Int32))] [(.int (1 : Int32))])
    exact own_retN X27 hx (t := .boolean) hret (by simp) hlk (hb hby at_102) (by decide) (by decide) ⟨rfl, N27⟩
  · skip
    rw [hm]
    show own_Wp p e below _ T19 (mkF m 70 #[.val (.int p0), .val (.ref b1), .unset, .unset] [(.int (4 : Int32))])
    refine own_step (fun _ k => XS.istoreN X19.here hx rfl (hb hby at_70) rfl (l' := #[.val (.int p0), .val (.ref b1), .val (.int (4 : Int32)), .unset]) rfl k) ?_
    show own_Wp p e below _ T19 (mkF m 71 #[.val (.int p0), .val (.ref b1), .val (.int (4 : Int32)), .unset] [])
    refine own_step (fun _ k => XS.iloadN X19.here hx rfl (hb hby at_71) rfl k) ?_
    show own_Wp p e below _ T19 (mkF m 72 #[.val (.int p0), .val (.ref b1), .val (.int (4 : Int32)), .unset] [(.int (4 : Int32))])
    refine own_step (fun _ k => XS.ifNo X19.here hx rfl (hb hby at_72) rfl (by decide) k) ?_
    show own_Wp p e below _ T19 (mkF m 75 #[.val (.int p0), .val (.ref b1), .val (.int (4 : Int32)), .unset] [])
    refine own_step (fun _ k => XS.iloadN X19.here hx rfl (hb hby at_75) rfl k) ?_
    show own_Wp p e below _ T19 (mkF m 76 #[.val (.int p0), .val (.ref b1), .val (.int (4 : Int32)), .unset] [(.int (4 : Int32))])
    refine own_step (fun _ k => XS.bipush X19.here hx rfl (hb hby at_76) k) ?_
    show own_Wp p e below _ T19 (mkF m 78 #[.val (.int p0), .val (.ref b1), .val (.int (4 : Int32)), .unset] [(.int (7 : Int32)), (.int (4 : Int32))])
    refine own_step (fun _ k => XS.icmpYes X19.here hx rfl (pc0 := 78) (pc' := 85) rfl (hb hby at_78) rfl (by decide) (by decide) (by decide) k) ?_
    show own_Wp p e below _ T19 (mkF m 85 #[.val (.int p0), .val (.ref b1), .val (.int (4 : Int32)), .unset] [])
    refine own_step (fun _ k => XS.iconst X19.here hx rfl (hb hby at_85) k) ?_
    show own_Wp p e below _ T19 (mkF m 86 #[.val (.int p0), .val (.ref b1), .val (.int (4 : Int32)), .unset] [(.int (0 : Int32))])
    refine own_step (fun _ k => XS.istoreN X19.here hx rfl (hb hby at_86) rfl (l' := #[.val (.int p0), .val (.ref b1), .val (.int (4 : Int32)), .val (.int (0 : Int32))]) rfl k) ?_
    show own_Wp p e below _ T19 (mkF m 87 #[.val (.int p0), .val (.ref b1), .val (.int (4 : Int32)), .val (.int (0 : Int32))] [])
    refine own_step (fun _ k => XS.aloadN X19.here hx rfl (hb hby at_87) rfl rfl k) ?_
    show own_Wp p e below _ T19 (mkF m 88 #[.val (.int p0), .val (.ref b1), .val (.int (4 : Int32)), .val (.int (0 : Int32))] [(.ref b1)])
    refine own_step (fun _ k => XS.iloadN X19.here hx rfl (hb hby at_88) rfl k) ?_
    show own_Wp p e below _ T19 (mkF m 89 #[.val (.int p0), .val (.ref b1), .val (.int (4 : Int32)), .val (.int (0 : Int32))] [(.int (4 : Int32)), (.ref b1)])
    obtain ⟨c28, r28, q28, t28, u28, y28h, y28g⟩ := V19
    have i28 : ¬ ((4 : Int32) < 0 ∨ c28.slots.size ≤ ((4 : Int32)).toNatClampNeg) := inb_of t28 ⟨by decide, by decide⟩
    refine own_step (fun _ k => X19.aaload hx (j := (4 : Int32)) (v := (.ref (w4_DM Z))) (by rw [e19]; exact r28.1) (State.isArrayOf_alike hZ.alike r28.2.1) rfl r28.2.2 i28 (own_get t28 y28h i28 4 rfl) (g := (mkF m 89 #[.val (.int p0), .val (.ref b1), .val (.int (4 : Int32)), .val (.int (0 : Int32))] [(.int (4 : Int32)), (.ref b1)])) rfl rfl (hb hby at_89) _ k) ?_
    show own_Wp p e below _ T19 (mkF m 90 #[.val (.int p0), .val (.ref b1), .val (.int (4 : Int32)), .val (.int (0 : Int32))] [(.ref (w4_DM Z))])
    obtain ⟨_, T29, L29, X29, hQ29, st29⟩ := own_callV X19 hx hZ hown (hw _ (List.mem_of_getElem? (i := 23) rfl)) (hw _ (List.mem_of_getElem? (i := 24) rfl)) (notFace_of_selects (args := #[]) (mvT hZ (hw _ (List.mem_of_getElem? (i := 26) rfl)))) (hw _ (List.mem_of_getElem? (i := 26) rfl)) (hw _ (List.mem_of_getElem? (i := 25) rfl)) (hw _ (List.mem_of_getElem? (i := 3) rfl)) (hw _ (List.mem_of_getElem? (i := 27) rfl)) (by decide) ((ex_w4_DM hw hA).ext O19.2) (rm1_1 l Z a0 hw hA [] (w4_DM Z) h19 n0 O19 (Fld.ne (fl5 hw hA) (fl1 hw hA) (by decide)) (Fld.ne (fl5 hw hA) (fl2 hw hA) (by decide))) (W := 0) (by decide) (by decide) [] rfl (lenOf pd1 rfl) (Ls := #[.val (.int p0), .val (.ref b1), .val (.int (4 : Int32)), .val (.int (0 : Int32))]) (by rw [hml]; rfl) (rest := []) (Nat.le_of_eq rfl) (hb hby at_90) e19 (by decide) (by decide)
    refine st29 _ ?_
    obtain ⟨rfl, N29q, e29⟩ := hQ29
    have N29 := Fr.app N19 N29q
    show own_Wp p e below _ T29 (mkF m 93 #[.val (.int p0), .val (.ref b1), .val (.int (4 : Int32)), .val (.int (0 : Int32))] [(.int (0 : Int32))])
    refine own_step (fun _ k => XS.iloadN X29.here hx rfl (hb hby at_93) rfl k) ?_
    show own_Wp p e below _ T29 (mkF m 94 #[.val (.int p0), .val (.ref b1), .val (.int (4 : Int32)), .val (.int (0 : Int32))] [(.int (0 : Int32)), (.int (0 : Int32))])
    refine own_step (fun _ k => XS.icmpNo X29.here hx rfl (hb hby at_94) rfl (by decide) k) ?_
    show own_Wp p e below _ T29 (mkF m 97 #[.val (.int p0), .val (.ref b1), .val (.int (4 : Int32)), .val (.int (0 : Int32))] [])
    refine own_step (fun _ k => XS.iconst X29.here hx rfl (hb hby at_97) k) ?_
    show own_Wp p e below _ T29 (mkF m 98 #[.val (.int p0), .val (.ref b1), .val (.int (4 : Int32)), .val (.int (0 : Int32))] [(.int (1 : Int32))])
    refine own_step (fun _ k => XS.goto X29.here hx rfl (pc0 := 98) (pc' := 102) rfl (hb hby at_98) (by decide) (by decide) k) ?_
    show own_Wp p e below _ T29 (mkF m 102 #[.val (.int p0), .val (.ref b1), .val (.int (4 : Int32)), .val (.int (0 : Int32))] [(.int (1 : Int32))])
    exact own_retN X29 hx (t := .boolean) hret (by simp) hlk (hb hby at_102) (by decide) (by decide) ⟨rfl, N29⟩
  · skip
    rw [hm]
    show own_Wp p e below _ T19 (mkF m 70 #[.val (.int p0), .val (.ref b1), .unset, .unset] [(.int (5 : Int32))])
    refine own_step (fun _ k => XS.istoreN X19.here hx rfl (hb hby at_70) rfl (l' := #[.val (.int p0), .val (.ref b1), .val (.int (5 : Int32)), .unset]) rfl k) ?_
    show own_Wp p e below _ T19 (mkF m 71 #[.val (.int p0), .val (.ref b1), .val (.int (5 : Int32)), .unset] [])
    refine own_step (fun _ k => XS.iloadN X19.here hx rfl (hb hby at_71) rfl k) ?_
    show own_Wp p e below _ T19 (mkF m 72 #[.val (.int p0), .val (.ref b1), .val (.int (5 : Int32)), .unset] [(.int (5 : Int32))])
    refine own_step (fun _ k => XS.ifNo X19.here hx rfl (hb hby at_72) rfl (by decide) k) ?_
    show own_Wp p e below _ T19 (mkF m 75 #[.val (.int p0), .val (.ref b1), .val (.int (5 : Int32)), .unset] [])
    refine own_step (fun _ k => XS.iloadN X19.here hx rfl (hb hby at_75) rfl k) ?_
    show own_Wp p e below _ T19 (mkF m 76 #[.val (.int p0), .val (.ref b1), .val (.int (5 : Int32)), .unset] [(.int (5 : Int32))])
    refine own_step (fun _ k => XS.bipush X19.here hx rfl (hb hby at_76) k) ?_
    show own_Wp p e below _ T19 (mkF m 78 #[.val (.int p0), .val (.ref b1), .val (.int (5 : Int32)), .unset] [(.int (7 : Int32)), (.int (5 : Int32))])
    refine own_step (fun _ k => XS.icmpYes X19.here hx rfl (pc0 := 78) (pc' := 85) rfl (hb hby at_78) rfl (by decide) (by decide) (by decide) k) ?_
    show own_Wp p e below _ T19 (mkF m 85 #[.val (.int p0), .val (.ref b1), .val (.int (5 : Int32)), .unset] [])
    refine own_step (fun _ k => XS.iconst X19.here hx rfl (hb hby at_85) k) ?_
    show own_Wp p e below _ T19 (mkF m 86 #[.val (.int p0), .val (.ref b1), .val (.int (5 : Int32)), .unset] [(.int (0 : Int32))])
    refine own_step (fun _ k => XS.istoreN X19.here hx rfl (hb hby at_86) rfl (l' := #[.val (.int p0), .val (.ref b1), .val (.int (5 : Int32)), .val (.int (0 : Int32))]) rfl k) ?_
    show own_Wp p e below _ T19 (mkF m 87 #[.val (.int p0), .val (.ref b1), .val (.int (5 : Int32)), .val (.int (0 : Int32))] [])
    refine own_step (fun _ k => XS.aloadN X19.here hx rfl (hb hby at_87) rfl rfl k) ?_
    show own_Wp p e below _ T19 (mkF m 88 #[.val (.int p0), .val (.ref b1), .val (.int (5 : Int32)), .val (.int (0 : Int32))] [(.ref b1)])
    refine own_step (fun _ k => XS.iloadN X19.here hx rfl (hb hby at_88) rfl k) ?_
    show own_Wp p e below _ T19 (mkF m 89 #[.val (.int p0), .val (.ref b1), .val (.int (5 : Int32)), .val (.int (0 : Int32))] [(.int (5 : Int32)), (.ref b1)])
    obtain ⟨c30, r30, q30, t30, u30, y30h, y30g⟩ := V19
    have i30 : ¬ ((5 : Int32) < 0 ∨ c30.slots.size ≤ ((5 : Int32)).toNatClampNeg) := inb_of t30 ⟨by decide, by decide⟩
    refine own_step (fun _ k => X19.aaload hx (j := (5 : Int32)) (v := (.ref (w5_NDM Z))) (by rw [e19]; exact r30.1) (State.isArrayOf_alike hZ.alike r30.2.1) rfl r30.2.2 i30 (own_get t30 y30h i30 5 rfl) (g := (mkF m 89 #[.val (.int p0), .val (.ref b1), .val (.int (5 : Int32)), .val (.int (0 : Int32))] [(.int (5 : Int32)), (.ref b1)])) rfl rfl (hb hby at_89) _ k) ?_
    show own_Wp p e below _ T19 (mkF m 90 #[.val (.int p0), .val (.ref b1), .val (.int (5 : Int32)), .val (.int (0 : Int32))] [(.ref (w5_NDM Z))])
    obtain ⟨_, T31, L31, X31, hQ31, st31⟩ := own_callV X19 hx hZ hown (hw _ (List.mem_of_getElem? (i := 23) rfl)) (hw _ (List.mem_of_getElem? (i := 24) rfl)) (notFace_of_selects (args := #[]) (mvT hZ (hw _ (List.mem_of_getElem? (i := 26) rfl)))) (hw _ (List.mem_of_getElem? (i := 26) rfl)) (hw _ (List.mem_of_getElem? (i := 25) rfl)) (hw _ (List.mem_of_getElem? (i := 3) rfl)) (hw _ (List.mem_of_getElem? (i := 27) rfl)) (by decide) ((ex_w5_NDM hw hA).ext O19.2) (rm1_1 l Z a0 hw hA [] (w5_NDM Z) h19 n0 O19 (Fld.ne (fl8 hw hA) (fl1 hw hA) (by decide)) (Fld.ne (fl8 hw hA) (fl2 hw hA) (by decide))) (W := 0) (by decide) (by decide) [] rfl (lenOf pd1 rfl) (Ls := #[.val (.int p0), .val (.ref b1), .val (.int (5 : Int32)), .val (.int (0 : Int32))]) (by rw [hml]; rfl) (rest := []) (Nat.le_of_eq rfl) (hb hby at_90) e19 (by decide) (by decide)
    refine st31 _ ?_
    obtain ⟨rfl, N31q, e31⟩ := hQ31
    have N31 := Fr.app N19 N31q
    show own_Wp p e below _ T31 (mkF m 93 #[.val (.int p0), .val (.ref b1), .val (.int (5 : Int32)), .val (.int (0 : Int32))] [(.int (0 : Int32))])
    refine own_step (fun _ k => XS.iloadN X31.here hx rfl (hb hby at_93) rfl k) ?_
    show own_Wp p e below _ T31 (mkF m 94 #[.val (.int p0), .val (.ref b1), .val (.int (5 : Int32)), .val (.int (0 : Int32))] [(.int (0 : Int32)), (.int (0 : Int32))])
    refine own_step (fun _ k => XS.icmpNo X31.here hx rfl (hb hby at_94) rfl (by decide) k) ?_
    show own_Wp p e below _ T31 (mkF m 97 #[.val (.int p0), .val (.ref b1), .val (.int (5 : Int32)), .val (.int (0 : Int32))] [])
    refine own_step (fun _ k => XS.iconst X31.here hx rfl (hb hby at_97) k) ?_
    show own_Wp p e below _ T31 (mkF m 98 #[.val (.int p0), .val (.ref b1), .val (.int (5 : Int32)), .val (.int (0 : Int32))] [(.int (1 : Int32))])
    refine own_step (fun _ k => XS.goto X31.here hx rfl (pc0 := 98) (pc' := 102) rfl (hb hby at_98) (by decide) (by decide) k) ?_
    show own_Wp p e below _ T31 (mkF m 102 #[.val (.int p0), .val (.ref b1), .val (.int (5 : Int32)), .val (.int (0 : Int32))] [(.int (1 : Int32))])
    exact own_retN X31 hx (t := .boolean) hret (by simp) hlk (hb hby at_102) (by decide) (by decide) ⟨rfl, N31⟩
  · skip
    rw [hm]
    show own_Wp p e below _ T19 (mkF m 70 #[.val (.int p0), .val (.ref b1), .unset, .unset] [(.int (6 : Int32))])
    refine own_step (fun _ k => XS.istoreN X19.here hx rfl (hb hby at_70) rfl (l' := #[.val (.int p0), .val (.ref b1), .val (.int (6 : Int32)), .unset]) rfl k) ?_
    show own_Wp p e below _ T19 (mkF m 71 #[.val (.int p0), .val (.ref b1), .val (.int (6 : Int32)), .unset] [])
    refine own_step (fun _ k => XS.iloadN X19.here hx rfl (hb hby at_71) rfl k) ?_
    show own_Wp p e below _ T19 (mkF m 72 #[.val (.int p0), .val (.ref b1), .val (.int (6 : Int32)), .unset] [(.int (6 : Int32))])
    refine own_step (fun _ k => XS.ifNo X19.here hx rfl (hb hby at_72) rfl (by decide) k) ?_
    show own_Wp p e below _ T19 (mkF m 75 #[.val (.int p0), .val (.ref b1), .val (.int (6 : Int32)), .unset] [])
    refine own_step (fun _ k => XS.iloadN X19.here hx rfl (hb hby at_75) rfl k) ?_
    show own_Wp p e below _ T19 (mkF m 76 #[.val (.int p0), .val (.ref b1), .val (.int (6 : Int32)), .unset] [(.int (6 : Int32))])
    refine own_step (fun _ k => XS.bipush X19.here hx rfl (hb hby at_76) k) ?_
    show own_Wp p e below _ T19 (mkF m 78 #[.val (.int p0), .val (.ref b1), .val (.int (6 : Int32)), .unset] [(.int (7 : Int32)), (.int (6 : Int32))])
    refine own_step (fun _ k => XS.icmpYes X19.here hx rfl (pc0 := 78) (pc' := 85) rfl (hb hby at_78) rfl (by decide) (by decide) (by decide) k) ?_
    show own_Wp p e below _ T19 (mkF m 85 #[.val (.int p0), .val (.ref b1), .val (.int (6 : Int32)), .unset] [])
    refine own_step (fun _ k => XS.iconst X19.here hx rfl (hb hby at_85) k) ?_
    show own_Wp p e below _ T19 (mkF m 86 #[.val (.int p0), .val (.ref b1), .val (.int (6 : Int32)), .unset] [(.int (0 : Int32))])
    refine own_step (fun _ k => XS.istoreN X19.here hx rfl (hb hby at_86) rfl (l' := #[.val (.int p0), .val (.ref b1), .val (.int (6 : Int32)), .val (.int (0 : Int32))]) rfl k) ?_
    show own_Wp p e below _ T19 (mkF m 87 #[.val (.int p0), .val (.ref b1), .val (.int (6 : Int32)), .val (.int (0 : Int32))] [])
    refine own_step (fun _ k => XS.aloadN X19.here hx rfl (hb hby at_87) rfl rfl k) ?_
    show own_Wp p e below _ T19 (mkF m 88 #[.val (.int p0), .val (.ref b1), .val (.int (6 : Int32)), .val (.int (0 : Int32))] [(.ref b1)])
    refine own_step (fun _ k => XS.iloadN X19.here hx rfl (hb hby at_88) rfl k) ?_
    show own_Wp p e below _ T19 (mkF m 89 #[.val (.int p0), .val (.ref b1), .val (.int (6 : Int32)), .val (.int (0 : Int32))] [(.int (6 : Int32)), (.ref b1)])
    obtain ⟨c32, r32, q32, t32, u32, y32h, y32g⟩ := V19
    have i32 : ¬ ((6 : Int32) < 0 ∨ c32.slots.size ≤ ((6 : Int32)).toNatClampNeg) := inb_of t32 ⟨by decide, by decide⟩
    refine own_step (fun _ k => X19.aaload hx (j := (6 : Int32)) (v := (.ref (w6_INCH_STORAGE_EXIT Z))) (by rw [e19]; exact r32.1) (State.isArrayOf_alike hZ.alike r32.2.1) rfl r32.2.2 i32 (own_get t32 y32h i32 6 rfl) (g := (mkF m 89 #[.val (.int p0), .val (.ref b1), .val (.int (6 : Int32)), .val (.int (0 : Int32))] [(.int (6 : Int32)), (.ref b1)])) rfl rfl (hb hby at_89) _ k) ?_
    show own_Wp p e below _ T19 (mkF m 90 #[.val (.int p0), .val (.ref b1), .val (.int (6 : Int32)), .val (.int (0 : Int32))] [(.ref (w6_INCH_STORAGE_EXIT Z))])
    obtain ⟨_, T33, L33, X33, hQ33, st33⟩ := own_callV X19 hx hZ hown (hw _ (List.mem_of_getElem? (i := 23) rfl)) (hw _ (List.mem_of_getElem? (i := 24) rfl)) (notFace_of_selects (args := #[]) (mvT hZ (hw _ (List.mem_of_getElem? (i := 26) rfl)))) (hw _ (List.mem_of_getElem? (i := 26) rfl)) (hw _ (List.mem_of_getElem? (i := 25) rfl)) (hw _ (List.mem_of_getElem? (i := 3) rfl)) (hw _ (List.mem_of_getElem? (i := 27) rfl)) (by decide) ((ex_w6_INCH_STORAGE_EXIT hw hA).ext O19.2) (rm1_1 l Z a0 hw hA [] (w6_INCH_STORAGE_EXIT Z) h19 n0 O19 (Fld.ne (fl7 hw hA) (fl1 hw hA) (by decide)) (Fld.ne (fl7 hw hA) (fl2 hw hA) (by decide))) (W := 0) (by decide) (by decide) [] rfl (lenOf pd1 rfl) (Ls := #[.val (.int p0), .val (.ref b1), .val (.int (6 : Int32)), .val (.int (0 : Int32))]) (by rw [hml]; rfl) (rest := []) (Nat.le_of_eq rfl) (hb hby at_90) e19 (by decide) (by decide)
    refine st33 _ ?_
    obtain ⟨rfl, N33q, e33⟩ := hQ33
    have N33 := Fr.app N19 N33q
    show own_Wp p e below _ T33 (mkF m 93 #[.val (.int p0), .val (.ref b1), .val (.int (6 : Int32)), .val (.int (0 : Int32))] [(.int (0 : Int32))])
    refine own_step (fun _ k => XS.iloadN X33.here hx rfl (hb hby at_93) rfl k) ?_
    show own_Wp p e below _ T33 (mkF m 94 #[.val (.int p0), .val (.ref b1), .val (.int (6 : Int32)), .val (.int (0 : Int32))] [(.int (0 : Int32)), (.int (0 : Int32))])
    refine own_step (fun _ k => XS.icmpNo X33.here hx rfl (hb hby at_94) rfl (by decide) k) ?_
    show own_Wp p e below _ T33 (mkF m 97 #[.val (.int p0), .val (.ref b1), .val (.int (6 : Int32)), .val (.int (0 : Int32))] [])
    refine own_step (fun _ k => XS.iconst X33.here hx rfl (hb hby at_97) k) ?_
    show own_Wp p e below _ T33 (mkF m 98 #[.val (.int p0), .val (.ref b1), .val (.int (6 : Int32)), .val (.int (0 : Int32))] [(.int (1 : Int32))])
    refine own_step (fun _ k => XS.goto X33.here hx rfl (pc0 := 98) (pc' := 102) rfl (hb hby at_98) (by decide) (by decide) k) ?_
    show own_Wp p e below _ T33 (mkF m 102 #[.val (.int p0), .val (.ref b1), .val (.int (6 : Int32)), .val (.int (0 : Int32))] [(.int (1 : Int32))])
    exact own_retN X33 hx (t := .boolean) hret (by simp) hlk (hb hby at_102) (by decide) (by decide) ⟨rfl, N33⟩
  · skip
    rw [hm]
    show own_Wp p e below _ T19 (mkF m 70 #[.val (.int p0), .val (.ref b1), .unset, .unset] [(.int (7 : Int32))])
    refine own_step (fun _ k => XS.istoreN X19.here hx rfl (hb hby at_70) rfl (l' := #[.val (.int p0), .val (.ref b1), .val (.int (7 : Int32)), .unset]) rfl k) ?_
    show own_Wp p e below _ T19 (mkF m 71 #[.val (.int p0), .val (.ref b1), .val (.int (7 : Int32)), .unset] [])
    refine own_step (fun _ k => XS.iloadN X19.here hx rfl (hb hby at_71) rfl k) ?_
    show own_Wp p e below _ T19 (mkF m 72 #[.val (.int p0), .val (.ref b1), .val (.int (7 : Int32)), .unset] [(.int (7 : Int32))])
    refine own_step (fun _ k => XS.ifNo X19.here hx rfl (hb hby at_72) rfl (by decide) k) ?_
    show own_Wp p e below _ T19 (mkF m 75 #[.val (.int p0), .val (.ref b1), .val (.int (7 : Int32)), .unset] [])
    refine own_step (fun _ k => XS.iloadN X19.here hx rfl (hb hby at_75) rfl k) ?_
    show own_Wp p e below _ T19 (mkF m 76 #[.val (.int p0), .val (.ref b1), .val (.int (7 : Int32)), .unset] [(.int (7 : Int32))])
    refine own_step (fun _ k => XS.bipush X19.here hx rfl (hb hby at_76) k) ?_
    show own_Wp p e below _ T19 (mkF m 78 #[.val (.int p0), .val (.ref b1), .val (.int (7 : Int32)), .unset] [(.int (7 : Int32)), (.int (7 : Int32))])
    refine own_step (fun _ k => XS.icmpNo X19.here hx rfl (hb hby at_78) rfl (by decide) k) ?_
    show own_Wp p e below _ T19 (mkF m 81 #[.val (.int p0), .val (.ref b1), .val (.int (7 : Int32)), .unset] [])
    refine own_step (fun _ k => XS.iconst X19.here hx rfl (hb hby at_81) k) ?_
    show own_Wp p e below _ T19 (mkF m 82 #[.val (.int p0), .val (.ref b1), .val (.int (7 : Int32)), .unset] [(.int (1 : Int32))])
    refine own_step (fun _ k => XS.goto X19.here hx rfl (pc0 := 82) (pc' := 86) rfl (hb hby at_82) (by decide) (by decide) k) ?_
    show own_Wp p e below _ T19 (mkF m 86 #[.val (.int p0), .val (.ref b1), .val (.int (7 : Int32)), .unset] [(.int (1 : Int32))])
    refine own_step (fun _ k => XS.istoreN X19.here hx rfl (hb hby at_86) rfl (l' := #[.val (.int p0), .val (.ref b1), .val (.int (7 : Int32)), .val (.int (1 : Int32))]) rfl k) ?_
    show own_Wp p e below _ T19 (mkF m 87 #[.val (.int p0), .val (.ref b1), .val (.int (7 : Int32)), .val (.int (1 : Int32))] [])
    refine own_step (fun _ k => XS.aloadN X19.here hx rfl (hb hby at_87) rfl rfl k) ?_
    show own_Wp p e below _ T19 (mkF m 88 #[.val (.int p0), .val (.ref b1), .val (.int (7 : Int32)), .val (.int (1 : Int32))] [(.ref b1)])
    refine own_step (fun _ k => XS.iloadN X19.here hx rfl (hb hby at_88) rfl k) ?_
    show own_Wp p e below _ T19 (mkF m 89 #[.val (.int p0), .val (.ref b1), .val (.int (7 : Int32)), .val (.int (1 : Int32))] [(.int (7 : Int32)), (.ref b1)])
    obtain ⟨c34, r34, q34, t34, u34, y34h, y34g⟩ := V19
    have i34 : ¬ ((7 : Int32) < 0 ∨ c34.slots.size ≤ ((7 : Int32)).toNatClampNeg) := inb_of t34 ⟨by decide, by decide⟩
    refine own_step (fun _ k => X19.aaload hx (j := (7 : Int32)) (v := (.ref (w7_SN_IP Z))) (by rw [e19]; exact r34.1) (State.isArrayOf_alike hZ.alike r34.2.1) rfl r34.2.2 i34 (own_get t34 y34h i34 7 rfl) (g := (mkF m 89 #[.val (.int p0), .val (.ref b1), .val (.int (7 : Int32)), .val (.int (1 : Int32))] [(.int (7 : Int32)), (.ref b1)])) rfl rfl (hb hby at_89) _ k) ?_
    show own_Wp p e below _ T19 (mkF m 90 #[.val (.int p0), .val (.ref b1), .val (.int (7 : Int32)), .val (.int (1 : Int32))] [(.ref (w7_SN_IP Z))])
    obtain ⟨_, T35, L35, X35, hQ35, st35⟩ := own_callV X19 hx hZ hown (hw _ (List.mem_of_getElem? (i := 23) rfl)) (hw _ (List.mem_of_getElem? (i := 24) rfl)) (notFace_of_selects (args := #[]) (mvT hZ (hw _ (List.mem_of_getElem? (i := 26) rfl)))) (hw _ (List.mem_of_getElem? (i := 26) rfl)) (hw _ (List.mem_of_getElem? (i := 25) rfl)) (hw _ (List.mem_of_getElem? (i := 3) rfl)) (hw _ (List.mem_of_getElem? (i := 27) rfl)) (by decide) ((ex_w7_SN_IP hw hA).ext O19.2) (rm1_2 l Z a0 hw hA [] h19 n0 O19) (W := 0) (by decide) (by decide) [] rfl (lenOf pd1 rfl) (Ls := #[.val (.int p0), .val (.ref b1), .val (.int (7 : Int32)), .val (.int (1 : Int32))]) (by rw [hml]; rfl) (rest := []) (Nat.le_of_eq rfl) (hb hby at_90) e19 (by decide) (by decide)
    refine st35 _ ?_
    obtain ⟨rfl, N35q, e35⟩ := hQ35
    have N35 := Fr.app N19 N35q
    show own_Wp p e below _ T35 (mkF m 93 #[.val (.int p0), .val (.ref b1), .val (.int (7 : Int32)), .val (.int (1 : Int32))] [(.int (1 : Int32))])
    refine own_step (fun _ k => XS.iloadN X35.here hx rfl (hb hby at_93) rfl k) ?_
    show own_Wp p e below _ T35 (mkF m 94 #[.val (.int p0), .val (.ref b1), .val (.int (7 : Int32)), .val (.int (1 : Int32))] [(.int (1 : Int32)), (.int (1 : Int32))])
    refine own_step (fun _ k => XS.icmpNo X35.here hx rfl (hb hby at_94) rfl (by decide) k) ?_
    show own_Wp p e below _ T35 (mkF m 97 #[.val (.int p0), .val (.ref b1), .val (.int (7 : Int32)), .val (.int (1 : Int32))] [])
    refine own_step (fun _ k => XS.iconst X35.here hx rfl (hb hby at_97) k) ?_
    show own_Wp p e below _ T35 (mkF m 98 #[.val (.int p0), .val (.ref b1), .val (.int (7 : Int32)), .val (.int (1 : Int32))] [(.int (1 : Int32))])
    refine own_step (fun _ k => XS.goto X35.here hx rfl (pc0 := 98) (pc' := 102) rfl (hb hby at_98) (by decide) (by decide) k) ?_
    show own_Wp p e below _ T35 (mkF m 102 #[.val (.int p0), .val (.ref b1), .val (.int (7 : Int32)), .val (.int (1 : Int32))] [(.int (1 : Int32))])
    exact own_retN X35 hx (t := .boolean) hret (by simp) hlk (hb hby at_102) (by decide) (by decide) ⟨rfl, N35⟩
  · skip
    rw [hm]
    show own_Wp p e below _ T19 (mkF m 70 #[.val (.int p0), .val (.ref b1), .unset, .unset] [(.int (8 : Int32))])
    refine own_step (fun _ k => XS.istoreN X19.here hx rfl (hb hby at_70) rfl (l' := #[.val (.int p0), .val (.ref b1), .val (.int (8 : Int32)), .unset]) rfl k) ?_
    show own_Wp p e below _ T19 (mkF m 71 #[.val (.int p0), .val (.ref b1), .val (.int (8 : Int32)), .unset] [])
    refine own_step (fun _ k => XS.iloadN X19.here hx rfl (hb hby at_71) rfl k) ?_
    show own_Wp p e below _ T19 (mkF m 72 #[.val (.int p0), .val (.ref b1), .val (.int (8 : Int32)), .unset] [(.int (8 : Int32))])
    refine own_step (fun _ k => XS.ifNo X19.here hx rfl (hb hby at_72) rfl (by decide) k) ?_
    show own_Wp p e below _ T19 (mkF m 75 #[.val (.int p0), .val (.ref b1), .val (.int (8 : Int32)), .unset] [])
    refine own_step (fun _ k => XS.iloadN X19.here hx rfl (hb hby at_75) rfl k) ?_
    show own_Wp p e below _ T19 (mkF m 76 #[.val (.int p0), .val (.ref b1), .val (.int (8 : Int32)), .unset] [(.int (8 : Int32))])
    refine own_step (fun _ k => XS.bipush X19.here hx rfl (hb hby at_76) k) ?_
    show own_Wp p e below _ T19 (mkF m 78 #[.val (.int p0), .val (.ref b1), .val (.int (8 : Int32)), .unset] [(.int (7 : Int32)), (.int (8 : Int32))])
    refine own_step (fun _ k => XS.icmpYes X19.here hx rfl (pc0 := 78) (pc' := 85) rfl (hb hby at_78) rfl (by decide) (by decide) (by decide) k) ?_
    show own_Wp p e below _ T19 (mkF m 85 #[.val (.int p0), .val (.ref b1), .val (.int (8 : Int32)), .unset] [])
    refine own_step (fun _ k => XS.iconst X19.here hx rfl (hb hby at_85) k) ?_
    show own_Wp p e below _ T19 (mkF m 86 #[.val (.int p0), .val (.ref b1), .val (.int (8 : Int32)), .unset] [(.int (0 : Int32))])
    refine own_step (fun _ k => XS.istoreN X19.here hx rfl (hb hby at_86) rfl (l' := #[.val (.int p0), .val (.ref b1), .val (.int (8 : Int32)), .val (.int (0 : Int32))]) rfl k) ?_
    show own_Wp p e below _ T19 (mkF m 87 #[.val (.int p0), .val (.ref b1), .val (.int (8 : Int32)), .val (.int (0 : Int32))] [])
    refine own_step (fun _ k => XS.aloadN X19.here hx rfl (hb hby at_87) rfl rfl k) ?_
    show own_Wp p e below _ T19 (mkF m 88 #[.val (.int p0), .val (.ref b1), .val (.int (8 : Int32)), .val (.int (0 : Int32))] [(.ref b1)])
    refine own_step (fun _ k => XS.iloadN X19.here hx rfl (hb hby at_88) rfl k) ?_
    show own_Wp p e below _ T19 (mkF m 89 #[.val (.int p0), .val (.ref b1), .val (.int (8 : Int32)), .val (.int (0 : Int32))] [(.int (8 : Int32)), (.ref b1)])
    obtain ⟨c36, r36, q36, t36, u36, y36h, y36g⟩ := V19
    have i36 : ¬ ((8 : Int32) < 0 ∨ c36.slots.size ≤ ((8 : Int32)).toNatClampNeg) := inb_of t36 ⟨by decide, by decide⟩
    refine own_step (fun _ k => X19.aaload hx (j := (8 : Int32)) (v := (.ref (w8_SUBSEA_IC Z))) (by rw [e19]; exact r36.1) (State.isArrayOf_alike hZ.alike r36.2.1) rfl r36.2.2 i36 (own_get t36 y36h i36 8 rfl) (g := (mkF m 89 #[.val (.int p0), .val (.ref b1), .val (.int (8 : Int32)), .val (.int (0 : Int32))] [(.int (8 : Int32)), (.ref b1)])) rfl rfl (hb hby at_89) _ k) ?_
    show own_Wp p e below _ T19 (mkF m 90 #[.val (.int p0), .val (.ref b1), .val (.int (8 : Int32)), .val (.int (0 : Int32))] [(.ref (w8_SUBSEA_IC Z))])
    obtain ⟨_, T37, L37, X37, hQ37, st37⟩ := own_callV X19 hx hZ hown (hw _ (List.mem_of_getElem? (i := 23) rfl)) (hw _ (List.mem_of_getElem? (i := 24) rfl)) (notFace_of_selects (args := #[]) (mvT hZ (hw _ (List.mem_of_getElem? (i := 26) rfl)))) (hw _ (List.mem_of_getElem? (i := 26) rfl)) (hw _ (List.mem_of_getElem? (i := 25) rfl)) (hw _ (List.mem_of_getElem? (i := 3) rfl)) (hw _ (List.mem_of_getElem? (i := 27) rfl)) (by decide) ((ex_w8_SUBSEA_IC hw hA).ext O19.2) (rm1_1 l Z a0 hw hA [] (w8_SUBSEA_IC Z) h19 n0 O19 (Fld.ne (fl6 hw hA) (fl1 hw hA) (by decide)) (Fld.ne (fl6 hw hA) (fl2 hw hA) (by decide))) (W := 0) (by decide) (by decide) [] rfl (lenOf pd1 rfl) (Ls := #[.val (.int p0), .val (.ref b1), .val (.int (8 : Int32)), .val (.int (0 : Int32))]) (by rw [hml]; rfl) (rest := []) (Nat.le_of_eq rfl) (hb hby at_90) e19 (by decide) (by decide)
    refine st37 _ ?_
    obtain ⟨rfl, N37q, e37⟩ := hQ37
    have N37 := Fr.app N19 N37q
    show own_Wp p e below _ T37 (mkF m 93 #[.val (.int p0), .val (.ref b1), .val (.int (8 : Int32)), .val (.int (0 : Int32))] [(.int (0 : Int32))])
    refine own_step (fun _ k => XS.iloadN X37.here hx rfl (hb hby at_93) rfl k) ?_
    show own_Wp p e below _ T37 (mkF m 94 #[.val (.int p0), .val (.ref b1), .val (.int (8 : Int32)), .val (.int (0 : Int32))] [(.int (0 : Int32)), (.int (0 : Int32))])
    refine own_step (fun _ k => XS.icmpNo X37.here hx rfl (hb hby at_94) rfl (by decide) k) ?_
    show own_Wp p e below _ T37 (mkF m 97 #[.val (.int p0), .val (.ref b1), .val (.int (8 : Int32)), .val (.int (0 : Int32))] [])
    refine own_step (fun _ k => XS.iconst X37.here hx rfl (hb hby at_97) k) ?_
    show own_Wp p e below _ T37 (mkF m 98 #[.val (.int p0), .val (.ref b1), .val (.int (8 : Int32)), .val (.int (0 : Int32))] [(.int (1 : Int32))])
    refine own_step (fun _ k => XS.goto X37.here hx rfl (pc0 := 98) (pc' := 102) rfl (hb hby at_98) (by decide) (by decide) k) ?_
    show own_Wp p e below _ T37 (mkF m 102 #[.val (.int p0), .val (.ref b1), .val (.int (8 : Int32)), .val (.int (0 : Int32))] [(.int (1 : Int32))])
    exact own_retN X37 hx (t := .boolean) hret (by simp) hlk (hb hby at_102) (by decide) (by decide) ⟨rfl, N37⟩
set_option maxRecDepth 65536 in
set_option maxHeartbeats 40000000 in
theorem comes_1 {Post : Tables → Env → Array Value → State → Outcome → State → Prop} (hpost : ∀ tb e args s v u, (limb_1_1.after args s (.returned v) u = true ∧ limb_1_2.after args s (.returned v) u = true ∧ True) → FrameEnd s (.returned v) u (Jvm.fieldLocs frame_1_writes args s ++ Jvm.arrayLocs frame_1_arrays args s ++ Jvm.staticLocs frame_1_statics s) 16 128 → Post tb e args s (.returned v) u) :
    ArmFor flags0 classFile x code maxLocals ret World_1 tables_1 room_1 Calls_1 rest_1 Pre_1 Post := by
  intro l hfl _ _ p e ha hc hk s m args below hf hA hF happ hP
  obtain ⟨hcalls, hrest, hpre⟩ := hP
  obtain ⟨-, -, -, hnamed, -, -, -, hat⟩ := (Spec.applies_iff hf).mp happ
  obtain ⟨hg, hn⟩ := and_e (Cond.before_iff.mp (show (Jvm.Cond.and given_1 narrow_1).before args s = true from hpre))
  obtain ⟨gg1, gg2⟩ := and_e hg
  obtain ⟨w0, rfl⟩ : ∃ w0 : Value, args = #[w0] := by
    have hs : args.size = 1 := by simpa [Cond.value, given_1] using gg1
    obtain ⟨L⟩ := args
    match L, hs with
    | [w0], _ => exact ⟨w0, rfl⟩
  have hw := fun d (hd : d ∈ tables_1) => atoms_spec (ws := Jvm.Cond.code x code maxLocals ret :: tables_1) hat d (List.mem_cons_of_mem _ hd)
  have hfit : Fit s := fun {y c} hc i hi => by
    obtain ⟨ha, rfl⟩ := Array.getElem?_eq_some_iff.mp hc
    have q := List.all_eq_true.mp ((Array.all_eq_true_iff_forall_mem.mp hF) _ (Array.getElem_mem ha)) i (List.mem_range.mpr hi)
    simpa [Array.getElem?_eq_getElem hi] using q
  obtain ⟨i0, ei0⟩ := is_v gg2
  obtain rfl : w0 = (.int i0) := Option.some.inj ei0
  obtain ⟨n, o, h1, h2, h3, _, L, rfl, ⟨rfl, N⟩, hq⟩ := rm0 l s _ hw (own_mem narrow_1 hn) tables_1 i0 s.heap s.heap.size (Old.start s) p e ha hc hk s m _ below hf ((Spec.applies_iff_loose hf).mp happ).1 ⟨rfl, State.Warmed39.refl s, rfl⟩ trivial
  refine ⟨n, _, h1, h2, h3, hpost _ _ _ _ _ _ ⟨Cond.after_iff.mpr rfl, Cond.after_iff.mpr (eq_i res_at (Term.int_eval (1)) rfl), trivial⟩ ⟨hq.1, hq.2.1, (hq.2.2.sift fun y hy => Or.inr (N y hy)).mono (by decide) (by decide)⟩⟩
theorem main_1_1 : Claimed_1_1 := comes_1 fun _ _ _ _ _ _ h hF => ⟨h.1, hF⟩
theorem main_1_2 : Claimed_1_2 := comes_1 fun _ _ _ _ _ _ h hF => ⟨h.2.1, hF⟩

end Jvm.Pilot.@@N@@
namespace Jvm.Pilot.@@N@@
open Jvm Jvm.ClassFile Sem Op Lib Jvm.Free Jvm.Stand Jvm.Pilot.@@N@@.Jvm.D
/-! MADE BY PROGRAM (witnessworld.py) out of the Statement's table words and the real class files: 13 classes; the members and pool entries that the words name. The judged class is class 1, her method 1. -/
namespace start1
open Jvm.ClassFile
def u (s : String) : CpInfo := .utf8 (stringToUtf16 s)
/-- a pool by its gaps: so many unusable entries, then the entry; so many at the end -/
def gap : Nat → List CpInfo → List CpInfo
  | 0, r => r
  | n + 1, r => .unusable :: gap n r
def poolList (es : List (Nat × CpInfo)) (last : Nat) : List CpInfo := es.foldr (fun e r => gap e.1 (e.2 :: r)) (gap last [])
def pool (es : List (Nat × CpInfo)) (last : Nat) : Array CpInfo := ⟨poolList es last⟩
def fileOf (pool : Array CpInfo) (this : Nat) (attrs : Array Attribute := #[]) (ms : Array MethodInfo := #[]) (fl : Nat := 33) (sup : Nat := 0) (ifs : Array Nat := #[]) (fds : Array FieldInfo := #[]) : ClassFile where
  minorVersion := 0
  majorVersion := 65
  constantPool := pool
  accessFlags := fl
  thisClass := this
  superClass := sup
  interfaces := ifs
  fields := fds
  methods := ms
  attributes := attrs
def plain (name : String) (sup : Option ClassId) : Class where
  name := name
  kind := .ordinary
  loader := none
  accessFlags := 33
  super := sup
  interfaces := #[]
  cf := none
  fields := #[]
  methods := #[]
  instanceTypes := #[]
  staticTypes := #[]
  resolved := #[]
  callSites := []
  init := .initialized
  statics := none
  mirror := none

def pool0 : Array CpInfo := pool [(5, u "<init>"), (0, u "()V"), (1, .class_ 10), (1, u "java/lang/Object")] 113

def k0m0 : Method := { name := "<init>", desc := "()V", sig := { parameters := [], returnType := none }, accessFlags := 1, code := none }
/-- java/lang/Object -/
def k0 : Class := { plain "java/lang/Object" none with
  accessFlags := 33
  interfaces := #[]
  cf := some (fileOf pool0 8 #[] #[{ accessFlags := 1, nameIndex := 5, descriptorIndex := 6, attributes := #[] }] 33 0 #[] #[])
  fields := #[]
  methods := #[k0m0]
  instanceTypes := #[]
  staticTypes := #[]
  resolved := Array.replicate 124 none
  statics := none }

def pool1 : Array CpInfo := pool [(2, .class_ 4), (1, u "java/lang/Object"), (0, u "<init>"), (0, u "()V"), (0, .class_ 8), (0, u "com/example/linepack/linepack/PointClass"), (0, .fieldref 7 10), (0, .nameAndType 11 12), (0, u "MOFFAT"), (0, u "Lcom/example/linepack/linepack/PointClass;"), (0, .fieldref 7 14), (0, .nameAndType 15 12), (0, u "INCH"), (0, .fieldref 7 17), (0, .nameAndType 18 12), (0, u "BELLANABOY"), (0, .fieldref 7 20), (0, .nameAndType 21 12), (0, u "LDM"), (0, .fieldref 7 23), (0, .nameAndType 24 12), (0, u "DM"), (0, .fieldref 7 26), (0, .nameAndType 27 12), (0, u "NDM"), (0, .fieldref 7 29), (0, .nameAndType 30 12), (0, u "INCH_STORAGE_EXIT"), (0, .fieldref 7 32), (0, .nameAndType 33 12), (0, u "SN_IP"), (0, .fieldref 7 35), (0, .nameAndType 36 12), (0, u "SUBSEA_IC"), (0, .integer 2147483647), (0, .methodref 7 39), (0, .nameAndType 40 41), (0, u "interconnectionPoint"), (0, u "()Z"), (0, .class_ 43), (0, u "com/example/linepack/linepack/PointClassInterconnectionPointPinLaw"), (2, u "law"), (0, u "(I)Z")] 5

def k1m0 : Method := { name := "<init>", desc := "()V", sig := { parameters := [], returnType := none }, accessFlags := 1, code := none }
def k1c1 : Code := { maxStack := 4, maxLocals := 4, code := code, exceptionTable := #[], attributes := #[] }
def k1m1 : Method := { name := "law", desc := "(I)Z", sig := { parameters := [.int], returnType := some .boolean }, accessFlags := 9, code := some k1c1 }
/-- com/example/linepack/linepack/PointClassInterconnectionPointPinLaw -/
def k1 : Class := { plain "com/example/linepack/linepack/PointClassInterconnectionPointPinLaw" (some 0) with
  accessFlags := 49
  interfaces := #[]
  cf := some (fileOf pool1 42 #[] #[{ accessFlags := 1, nameIndex := 5, descriptorIndex := 6, attributes := #[] }, { accessFlags := 9, nameIndex := 46, descriptorIndex := 47, attributes := #[] }] 49 2 #[] #[])
  fields := #[]
  methods := #[k1m0, k1m1]
  instanceTypes := #[]
  staticTypes := #[]
  resolved := Array.replicate 53 none
  statics := none }

def pool2 : Array CpInfo := pool [(1, .class_ 2), (0, u "java/lang/constant/Constable"), (0, .class_ 4), (0, u "java/lang/Object")] 6

/-- java/lang/constant/Constable -/
def k2 : Class := { plain "java/lang/constant/Constable" (some 0) with
  accessFlags := 1537
  interfaces := #[]
  cf := some (fileOf pool2 1 #[] #[] 1537 3 #[] #[])
  fields := #[]
  methods := #[]
  instanceTypes := #[]
  staticTypes := #[]
  resolved := Array.replicate 11 none
  statics := none }

def pool3 : Array CpInfo := pool [(1, .class_ 2), (0, u "java/lang/Comparable"), (0, .class_ 4), (0, u "java/lang/Object")] 7

/-- java/lang/Comparable -/
def k3 : Class := { plain "java/lang/Comparable" (some 0) with
  accessFlags := 1537
  interfaces := #[]
  cf := some (fileOf pool3 1 #[] #[] 1537 3 #[] #[])
  fields := #[]
  methods := #[]
  instanceTypes := #[]
  staticTypes := #[]
  resolved := Array.replicate 12 none
  statics := none }

def pool4 : Array CpInfo := pool [(1, .class_ 2), (0, u "java/io/Serializable"), (0, .class_ 4), (0, u "java/lang/Object")] 2

/-- java/io/Serializable -/
def k4 : Class := { plain "java/io/Serializable" (some 0) with
  accessFlags := 1537
  interfaces := #[]
  cf := some (fileOf pool4 1 #[] #[] 1537 3 #[] #[])
  fields := #[]
  methods := #[]
  instanceTypes := #[]
  staticTypes := #[]
  resolved := Array.replicate 7 none
  statics := none }

def pool5 : Array CpInfo := pool [(2, .class_ 4), (1, u "java/lang/Enum"), (0, u "name"), (0, u "Ljava/lang/String;"), (2, u "ordinal"), (0, u "I"), (1, .class_ 14), (1, u "java/lang/Object"), (4, u "hash"), (86, .class_ 108), (1, u "java/lang/Enum$EnumDesc"), (2, .class_ 112), (0, u "java/lang/constant/Constable"), (0, .class_ 114), (0, u "java/lang/Comparable"), (0, .class_ 116), (0, u "java/io/Serializable")] 87

/-- java/lang/Enum -/
def k5 : Class := { plain "java/lang/Enum" (some 0) with
  accessFlags := 1057
  interfaces := #[2, 3, 4]
  cf := some (fileOf pool5 2 #[.nestMembers #[106]] #[] 1057 12 #[111, 113, 115] #[{ accessFlags := 18, nameIndex := 5, descriptorIndex := 6, attributes := #[] }, { accessFlags := 18, nameIndex := 9, descriptorIndex := 10, attributes := #[] }, { accessFlags := 2, nameIndex := 19, descriptorIndex := 10, attributes := #[] }])
  fields := #[{ name := "name", type := (.object "java/lang/String"), accessFlags := 18, slot := 0, constantValue := 0 }, { name := "ordinal", type := .int, accessFlags := 18, slot := 1, constantValue := 0 }, { name := "hash", type := .int, accessFlags := 2, slot := 2, constantValue := 0 }]
  methods := #[]
  instanceTypes := #[(.object "java/lang/String"), .int, .int]
  staticTypes := #[]
  resolved := Array.replicate 204 none
  statics := none }

def pool6 : Array CpInfo := pool [(1, .class_ 2), (0, u "com/example/linepack/linepack/PointClass"), (0, .fieldref 1 4), (0, .nameAndType 5 6), (0, u "MOFFAT"), (0, u "Lcom/example/linepack/linepack/PointClass;"), (2, u "INCH"), (2, u "BELLANABOY"), (2, u "LDM"), (2, u "DM"), (2, u "NDM"), (2, u "INCH_STORAGE_EXIT"), (0, .fieldref 1 26), (0, .nameAndType 27 6), (0, u "SN_IP"), (2, u "SUBSEA_IC"), (2, u "$VALUES"), (0, u "[Lcom/example/linepack/linepack/PointClass;"), (6, .class_ 43), (1, u "java/lang/Enum"), (8, u "text"), (0, u "Ljava/lang/String;"), (2, u "direction"), (0, u "Lcom/example/linepack/linepack/PointClass$Direction;"), (18, .class_ 78), (1, u "com/example/linepack/linepack/PointClass$Direction"), (47, u "()Z"), (1, u "interconnectionPoint")] 30

def k6c0 : Code := { maxStack := 2, maxLocals := 1, code := prog_6_method_7_code, exceptionTable := #[], attributes := #[] }
def k6m0 : Method := { name := "interconnectionPoint", desc := "()Z", sig := { parameters := [], returnType := some .boolean }, accessFlags := 0, code := some k6c0 }
/-- com/example/linepack/linepack/PointClass -/
def k6 : Class := { plain "com/example/linepack/linepack/PointClass" (some 5) with
  accessFlags := 16432
  interfaces := #[]
  cf := some (fileOf pool6 1 #[.nestMembers #[76]] #[{ accessFlags := 0, nameIndex := 128, descriptorIndex := 126, attributes := #[] }] 16432 41 #[] #[{ accessFlags := 16409, nameIndex := 5, descriptorIndex := 6, attributes := #[] }, { accessFlags := 16409, nameIndex := 9, descriptorIndex := 6, attributes := #[] }, { accessFlags := 16409, nameIndex := 12, descriptorIndex := 6, attributes := #[] }, { accessFlags := 16409, nameIndex := 15, descriptorIndex := 6, attributes := #[] }, { accessFlags := 16409, nameIndex := 18, descriptorIndex := 6, attributes := #[] }, { accessFlags := 16409, nameIndex := 21, descriptorIndex := 6, attributes := #[] }, { accessFlags := 16409, nameIndex := 24, descriptorIndex := 6, attributes := #[] }, { accessFlags := 16409, nameIndex := 27, descriptorIndex := 6, attributes := #[] }, { accessFlags := 16409, nameIndex := 30, descriptorIndex := 6, attributes := #[] }, { accessFlags := 18, nameIndex := 52, descriptorIndex := 53, attributes := #[] }, { accessFlags := 18, nameIndex := 56, descriptorIndex := 57, attributes := #[] }, { accessFlags := 4122, nameIndex := 33, descriptorIndex := 34, attributes := #[] }])
  fields := #[{ name := "MOFFAT", type := (.object "com/example/linepack/linepack/PointClass"), accessFlags := 16409, slot := 0, constantValue := 0 }, { name := "INCH", type := (.object "com/example/linepack/linepack/PointClass"), accessFlags := 16409, slot := 1, constantValue := 0 }, { name := "BELLANABOY", type := (.object "com/example/linepack/linepack/PointClass"), accessFlags := 16409, slot := 2, constantValue := 0 }, { name := "LDM", type := (.object "com/example/linepack/linepack/PointClass"), accessFlags := 16409, slot := 3, constantValue := 0 }, { name := "DM", type := (.object "com/example/linepack/linepack/PointClass"), accessFlags := 16409, slot := 4, constantValue := 0 }, { name := "NDM", type := (.object "com/example/linepack/linepack/PointClass"), accessFlags := 16409, slot := 5, constantValue := 0 }, { name := "INCH_STORAGE_EXIT", type := (.object "com/example/linepack/linepack/PointClass"), accessFlags := 16409, slot := 6, constantValue := 0 }, { name := "SN_IP", type := (.object "com/example/linepack/linepack/PointClass"), accessFlags := 16409, slot := 7, constantValue := 0 }, { name := "SUBSEA_IC", type := (.object "com/example/linepack/linepack/PointClass"), accessFlags := 16409, slot := 8, constantValue := 0 }, { name := "text", type := (.object "java/lang/String"), accessFlags := 18, slot := 3, constantValue := 0 }, { name := "direction", type := (.object "com/example/linepack/linepack/PointClass$Direction"), accessFlags := 18, slot := 4, constantValue := 0 }, { name := "$VALUES", type := (.array (.object "com/example/linepack/linepack/PointClass")), accessFlags := 4122, slot := 9, constantValue := 0 }]
  methods := #[k6m0]
  instanceTypes := #[(.object "java/lang/String"), .int, .int, (.object "java/lang/String"), (.object "com/example/linepack/linepack/PointClass$Direction")]
  staticTypes := #[(.object "com/example/linepack/linepack/PointClass"), (.object "com/example/linepack/linepack/PointClass"), (.object "com/example/linepack/linepack/PointClass"), (.object "com/example/linepack/linepack/PointClass"), (.object "com/example/linepack/linepack/PointClass"), (.object "com/example/linepack/linepack/PointClass"), (.object "com/example/linepack/linepack/PointClass"), (.object "com/example/linepack/linepack/PointClass"), (.object "com/example/linepack/linepack/PointClass"), (.array (.object "com/example/linepack/linepack/PointClass"))]
  resolved := Array.replicate 159 none
  statics := some 0 }

def pool7 : Array CpInfo := pool [(1, u "java/lang/Cloneable"), (0, .class_ 1), (0, u "java/lang/Object"), (0, .class_ 3)] 3

/-- java/lang/Cloneable -/
def k7 : Class := { plain "java/lang/Cloneable" (some 0) with
  accessFlags := 1537
  interfaces := #[]
  cf := some (fileOf pool7 2 #[] #[] 1537 4 #[] #[])
  fields := #[]
  methods := #[]
  instanceTypes := #[]
  staticTypes := #[]
  resolved := Array.replicate 8 none
  statics := none }

/-- the primitive byte -/
def k8 : Class := { plain "byte" none with kind := .primitive 'B', accessFlags := 0x411 }
/-- [B -/
def k9 : Class := { plain "[B" (some 0) with kind := .array 8 .byte, interfaces := #[7, 4], accessFlags := 1041 }

/-- the primitive int -/
def k10 : Class := { plain "int" none with kind := .primitive 'I', accessFlags := 0x411 }
/-- [I -/
def k11 : Class := { plain "[I" (some 0) with kind := .array 10 .int, interfaces := #[7, 4], accessFlags := 1041 }

/-- [Lcom/example/linepack/linepack/PointClass; -/
def k12 : Class := { plain "[Lcom/example/linepack/linepack/PointClass;" (some 0) with kind := .array 6 (.object "com/example/linepack/linepack/PointClass"), interfaces := #[7, 4], accessFlags := 1041 }

def heap : Heap := #[{ cls := 6, slots := #[.ref 1, .ref 2, .ref 3, .ref 4, .ref 5, .ref 6, .ref 7, .ref 8, .ref 9, .null], vm := .statics 6 },
  { cls := 6, slots := #[.null, .int 0, .int 0, .null, .null], vm := .none },
  { cls := 6, slots := #[.null, .int 1, .int 0, .null, .null], vm := .none },
  { cls := 6, slots := #[.null, .int 2, .int 0, .null, .null], vm := .none },
  { cls := 6, slots := #[.null, .int 3, .int 0, .null, .null], vm := .none },
  { cls := 6, slots := #[.null, .int 4, .int 0, .null, .null], vm := .none },
  { cls := 6, slots := #[.null, .int 5, .int 0, .null, .null], vm := .none },
  { cls := 6, slots := #[.null, .int 6, .int 0, .null, .null], vm := .none },
  { cls := 6, slots := #[.null, .int 7, .int 0, .null, .null], vm := .none },
  { cls := 6, slots := #[.null, .int 8, .int 0, .null, .null], vm := .none }]
def classes : Array Class := #[k0, k1, k2, k3, k4, k5, k6, k7, k8, k9, k10, k11, k12]
def interned : List (Array UInt16 × Addr) := []
def slotsUsed : Nat := 55
def theMethod : MethodId := ⟨1, 1⟩
def args0 : Array Value := #[.int 5]
def aboutOver (below : List Frame) : State where
  vm := { classes := classes, interned := interned.toArray }
  heap := heap
  slotsUsed := slotsUsed
  threads := #[{ frames := .invoking theMethod args0 :: below }]
def below0 : List Frame := [.native { method := ⟨0, 0⟩, args := #[] }]
def about1 : State := aboutOver below0
def p0 : Program := .bare "" "" ""
def e0 : Env := launch0.env 0 0 0
theorem w_frames : about1.frames = Frame.invoking theMethod args0 :: below0 := rfl
set_option maxRecDepth 65536 in
theorem w_args : argsFit about1.vm theMethod args0 = true := by decide +kernel
set_option maxRecDepth 65536 in
theorem w_heap : heapFits about1 = true := by decide +kernel
set_option maxRecDepth 65536 in
theorem w_runnable : about1.curStatus? = some .runnable := by decide +kernel
set_option maxRecDepth 65536 in
theorem w_alone : about1.alone = true := by decide +kernel
set_option maxRecDepth 65536 in
theorem w_named : about1.methodNamed? x = some theMethod := by decide +kernel
set_option maxRecDepth 65536 in
theorem w_hears : about1.hears theMethod below0 = true := by decide +kernel
set_option maxRecDepth 65536 in
theorem w_ripe : about1.ripe theMethod args0 below0 = true := by decide +kernel
theorem w_running : about1.status = .running := rfl
set_option maxRecDepth 65536 in
theorem w_room : about1.hasRoom e0.platform room_1 = true :=
  launch0.hasRoom_least _ room_1 (by decide +kernel) (by decide +kernel) (by decide +kernel) (by decide +kernel) (by decide +kernel) (by decide +kernel)
theorem allAtoms_all (ts : List Jvm.Cond) (a : Array Jvm.Value) (st : Jvm.State) : (allAtoms ts).before a st = ts.all (fun c => c.before a st) := by
  induction ts with
  | nil => rfl
  | cons c t ih =>
    show (Jvm.Cond.and c (allAtoms t)).before a st = _
    rw [Jvm.Cond.before_and, ih, List.all_cons]
def words1 : List Jvm.Cond := Jvm.Cond.code x code maxLocals ret :: tables_1
/-- a 'code' word, met by the world's own term for the bytes: nothing is compared byte by byte -/
theorem code_word {y : MethodName} {bytes : ByteArray} {mx : Nat} {rt : Option FieldType} {a : Array Value} {s : State} {m : MethodId} {meth : Method} {c : Code} (h1 : s.methodNamed? y = some m) (h2 : s.vm.method? m = some meth) (h3 : meth.code = some c) (h4 : c.code = bytes)
    (h5 : (c.maxLocals == mx && c.exceptionTable.isEmpty && decide (c.maxStack ≤ mostOperands) && decide (meth.sig.returnType = rt) && !meth.locks && decide (parseMethodDescriptor y.desc = some meth.sig)) = true) : (Jvm.Cond.code y bytes mx rt).before a s = true := by
  simp only [Bool.and_eq_true, beq_iff_eq, Bool.not_eq_true', decide_eq_true_eq] at h5
  obtain ⟨⟨⟨⟨⟨g1, g2⟩, g3⟩, g4⟩, g5⟩, g6⟩ := h5
  simp [Cond.before, Cond.holds, Cond.value, h1, h2, h3, h4, g1, g2, g3, g4, g5, g6]
def isCode : Jvm.Cond → Bool
  | .code _ _ _ _ => true
  | _ => false
theorem all_split {L : List Jvm.Cond} {P : Jvm.Cond → Bool} (h1 : L.all (fun c => isCode c || P c) = true) (h2 : ∀ c ∈ L.filter isCode, P c = true) : L.all P = true := by
  refine List.all_eq_true.mpr fun c hc => ?_
  have h := List.all_eq_true.mp h1 c hc
  rcases Bool.eq_false_or_eq_true (isCode c) with hi | hi
  · exact h2 c (List.mem_filter.mpr ⟨hc, hi⟩)
  · simpa [hi] using h
set_option maxRecDepth 65536 in
theorem w_c0 : (Jvm.Cond.code x code maxLocals ret).before args0 about1 = true := code_word (m := ⟨1, 1⟩) (meth := k1m1) (c := k1c1) (by decide +kernel) rfl rfl rfl (by decide +kernel)
set_option maxRecDepth 65536 in
theorem w_c1 : (Jvm.Cond.code ({ cls := "com/example/linepack/linepack/PointClass", name := "interconnectionPoint", desc := "()Z" } : Jvm.MethodName) prog_6_method_7_code (1 : Nat) (Option.some Jvm.ClassFile.FieldType.boolean)).before args0 about1 = true := code_word (m := ⟨6, 0⟩) (meth := k6m0) (c := k6c0) (by decide +kernel) rfl rfl rfl (by decide +kernel)
def codes1 : List Jvm.Cond := [Jvm.Cond.code x code maxLocals ret, Jvm.Cond.code ({ cls := "com/example/linepack/linepack/PointClass", name := "interconnectionPoint", desc := "()Z" } : Jvm.MethodName) prog_6_method_7_code (1 : Nat) (Option.some Jvm.ClassFile.FieldType.boolean)]
set_option maxRecDepth 65536 in
theorem codes_eq : words1.filter isCode = codes1 := rfl
theorem w_codes : ∀ c ∈ words1.filter isCode, c.before args0 about1 = true := by
  rw [codes_eq]
  intro c hc
  simp only [codes1, List.mem_cons, List.not_mem_nil, or_false] at hc
  rcases hc with rfl | rfl
  · exact w_c0
  · exact w_c1
set_option maxRecDepth 65536 in
theorem w_t1 : (words1.take 24).all (fun c => isCode c || c.before args0 about1) = true := by decide +kernel
set_option maxRecDepth 65536 in
theorem w_t2 : (words1.drop 24).all (fun c => isCode c || c.before args0 about1) = true := by decide +kernel
theorem w_tables : (allAtoms (Jvm.Cond.code x code maxLocals ret :: tables_1)).before args0 about1 = true := by
  rw [allAtoms_all]
  show words1.all (fun c => c.before args0 about1) = true
  refine all_split ?_ w_codes
  rw [← List.take_append_drop 24 words1, List.all_append, w_t1, w_t2]
  rfl
set_option maxRecDepth 65536 in
theorem w_case : (Jvm.Cond.and given_1 narrow_1).before args0 about1 = true := by decide +kernel
theorem w_applies : (headSpec (Jvm.Cond.code x code maxLocals ret :: tables_1) room_1).applies x e0.platform about1 = true :=
  (Spec.applies_iff w_frames).mpr ⟨w_running, w_runnable, w_alone, w_named, w_hears, w_ripe, w_room, w_tables⟩
theorem atStart : AtStart classFile x code maxLocals ret World_1 tables_1 room_1 Calls_1 rest_1 Pre_1 launch0 p0 e0 about1 theMethod args0 below0 :=
  ⟨lists_1, trivial, launch0.admits_env _ _ _, launch0.least_env, fairChoices_fair.cas, fairChoices_fair.clock, w_frames, w_args, w_heap, w_applies, trivial, trivial, w_case⟩
end start1
theorem witness_1 : WitnessClaimed_1 := ⟨start1.p0, start1.e0, start1.about1, start1.theMethod, start1.args0, start1.below0, start1.atStart⟩
end Jvm.Pilot.@@N@@
