import JvmDerived
import JvmDerived.Pilot.@@N@@Statement
import JvmDerived.Pilot.@@N@@Code
set_option linter.unusedVariables false
set_option linter.unusedSimpArgs false
@@BLOCK:Masks.lean.txt@@
@@BLOCK:NumsL.lean.txt@@
namespace Jvm.Pilot.@@N@@
open Jvm Jvm.ClassFile Sem Op Lib Jvm.Free Jvm.Stand Jvm.LawKit Jvm.RoadKit Bundle Jvm.Pilot.@@N@@.Jvm.D
/-! own layer: a walk as "from here the body comes to a good end" (own_Wp), so that a walk may fork in its middle -/
section OwnLayer
variable {p : Program} {l : Launch} {e : Env} {R : Room} {s : State} {m : MethodId} {args : Array Value} {below : List Frame} {meth : Method} {c : Code} {T T' : State} {locs : List Loc} {cells slots cs sl pc : Nat} {g g' : JFrame} {F : State → Outcome → Prop} {Q : Option Value → Heap → List Loc → Prop} {Ls : Array Slot} {rest : List Value} {Z : State} {a0 : Array Value} {h : Heap}
def own_Wp (p : Program) (e : Env) (below : List Frame) (F : State → Outcome → Prop) (T : State) (g : JFrame) : Prop := ∃ s₂ o, Steps p.tables e below (T.setTop g) s₂ ∧ F s₂ o
def own_Fin (below : List Frame) (s : State) (Q : Option Value → Heap → List Loc → Prop) (cs sl : Nat) (s₂ : State) (o : Outcome) : Prop := s₂.status = .running ∧ Ended s₂ below o ∧ ∃ v L, o = .returned v ∧ Q v s₂.heap L ∧ FrameEnd s o s₂ L cs sl
theorem own_step (st : ∀ target, Steps p.tables e below (T'.setTop g') target → Steps p.tables e below (T.setTop g) target) (k : own_Wp p e below F T' g') : own_Wp p e below F T g := by
  obtain ⟨a, b, h1, h2⟩ := k
  exact ⟨a, b, st _ h1, h2⟩
theorem own_cast (q : g = g') (k : own_Wp p e below F T g') : own_Wp p e below F T g := q ▸ k
theorem own_leave {v : Option Value} {fs : List Frame} (st : Steps p.tables e below (T.setTop g) (T.setFrames fs)) (hrun : (T.setFrames fs).status = .running) (hended : Ended (T.setFrames fs) below (.returned v)) (hW : s.WarmedH (T.setFrames fs).vm) (hsame : s.sameButNew ({ T.setFrames fs with vm := s.vm } : State) locs cells slots) (hc : cells ≤ cs) (hs : slots ≤ sl) (hQ : Q v T.heap locs) : own_Wp p e below (own_Fin below s Q cs sl) T g :=
  ⟨_, _, st, hrun, hended, v, locs, rfl, hQ, ⟨_, rfl⟩, hW, hsame.mono hc hs⟩
theorem own_retN (X : Stand p l e R s m args below meth c T locs cells slots) (hx : p.tables.exec = Jvm.exec) {t : FieldType} {z : Int32} (hret : meth.sig.returnType = some t) (ht : t = .boolean ∨ t = .byte ∨ t = .char ∨ t = .short) (hlocks : meth.locks = false) (hd : decode c.code pc = .ok (.ireturn, 1)) (hc : cells ≤ cs) (hs : slots ≤ sl) (hQ : Q (some (.int (nar t z))) T.heap locs) : own_Wp p e below (own_Fin below s Q cs sl) T (mkF m pc Ls (.int z :: rest)) := by
  obtain ⟨fs, hr, hrun, hended, hW, hsame⟩ := X.leave (v := some (.int (nar t z))) (fun h => by rw [hret] at h; cases h) hlocks
  exact own_leave (retN X hx hret ht hd hr) hrun hended hW hsame hc hs hQ
theorem own_retI (X : Stand p l e R s m args below meth c T locs cells slots) (hx : p.tables.exec = Jvm.exec) {z : Int32} (hret : meth.sig.returnType = some .int) (hlocks : meth.locks = false) (hd : decode c.code pc = .ok (.ireturn, 1)) (hc : cells ≤ cs) (hs : slots ≤ sl) (hQ : Q (some (.int z)) T.heap locs) : own_Wp p e below (own_Fin below s Q cs sl) T (mkF m pc Ls (.int z :: rest)) := by
  obtain ⟨fs, hr, hrun, hended, hW, hsame⟩ := X.leave (v := some (.int z)) (fun h => by rw [hret] at h; cases h) hlocks
  refine own_leave ?_ hrun hended hW hsame hc hs hQ
  have hm' : T.vm.method? m = some meth := X.method'
  have hn : narrow .int (.int z) = .int z := rfl
  show Steps p.tables e below (T.setTop { method := m, pc := pc, locals := Ls, stack := _ :: rest, locked := none }) _
  jvm_step X.here [X.here.top, hx, hd, hm', hret, hn]
  first | (intro acts; rw [hr _ acts rfl rfl rfl]) | rw [hr _ _ rfl rfl rfl]
  exact Steps.refl _
theorem own_retJ (X : Stand p l e R s m args below meth c T locs cells slots) (hx : p.tables.exec = Jvm.exec) {z : Int64} (hret : meth.sig.returnType = some .long) (hlocks : meth.locks = false) (hd : decode c.code pc = .ok (.lreturn, 1)) (hc : cells ≤ cs) (hs : slots ≤ sl) (hQ : Q (some (.long z)) T.heap locs) : own_Wp p e below (own_Fin below s Q cs sl) T (mkF m pc Ls (.long z :: rest)) := by
  obtain ⟨fs, hr, hrun, hended, hW, hsame⟩ := X.leave (v := some (.long z)) (fun h => by rw [hret] at h; cases h) hlocks
  refine own_leave ?_ hrun hended hW hsame hc hs hQ
  have hm' : T.vm.method? m = some meth := X.method'
  have hn : narrow .long (.long z) = .long z := rfl
  show Steps p.tables e below (T.setTop { method := m, pc := pc, locals := Ls, stack := _ :: rest, locked := none }) _
  jvm_step X.here [X.here.top, hx, hd, hm', hret, hn]
  first | (intro acts; rw [hr _ acts rfl rfl rfl]) | rw [hr _ _ rfl rfl rfl]
  exact Steps.refl _
theorem own_retA (X : Stand p l e R s m args below meth c T locs cells slots) (hx : p.tables.exec = Jvm.exec) {t : FieldType} {v : Value} (hret : meth.sig.returnType = some t) (ht : t.isReference = true) (hv : v.isRef = true) (hlocks : meth.locks = false) (hd : decode c.code pc = .ok (.areturn, 1)) (hc : cells ≤ cs) (hs : slots ≤ sl) (hQ : Q (some v) T.heap locs) : own_Wp p e below (own_Fin below s Q cs sl) T (mkF m pc Ls (v :: rest)) := by
  obtain ⟨fs, hr, hrun, hended, hW, hsame⟩ := X.leave (v := some v) (fun h => by rw [hret] at h; cases h) hlocks
  refine own_leave ?_ hrun hended hW hsame hc hs hQ
  have hm' : T.vm.method? m = some meth := X.method'
  rcases ref_cases hv with rfl | ⟨a, rfl⟩
  · show Steps p.tables e below (T.setTop { method := m, pc := pc, locals := Ls, stack := _ :: rest, locked := none }) _
    jvm_step X.here [X.here.top, hx, hd, hm', hret, Value.isRef, ht]
    first | (intro acts; rw [hr _ acts rfl rfl rfl]) | rw [hr _ _ rfl rfl rfl]
    exact Steps.refl _
  · show Steps p.tables e below (T.setTop { method := m, pc := pc, locals := Ls, stack := _ :: rest, locked := none }) _
    jvm_step X.here [X.here.top, hx, hd, hm', hret, Value.isRef, ht]
    first | (intro acts; rw [hr _ acts rfl rfl rfl]) | rw [hr _ _ rfl rfl rfl]
    exact Steps.refl _
theorem own_retV (X : Stand p l e R s m args below meth c T locs cells slots) (hx : p.tables.exec = Jvm.exec) (hret : meth.sig.returnType = none) (hlocks : meth.locks = false) (hd : decode c.code pc = .ok (.return_, 1)) (hc : cells ≤ cs) (hs : slots ≤ sl) (hQ : Q none T.heap locs) : own_Wp p e below (own_Fin below s Q cs sl) T (mkF m pc Ls []) := by
  obtain ⟨fs, hr, hrun, hended, hW, hsame⟩ := X.leave (v := none) (fun _ => rfl) hlocks
  exact own_leave (X.returnOut hx hret hd hr) hrun hended hW hsame hc hs hQ
/-- a contract, as every body of this text has one -/
def own_Met (l : Launch) (Z : State) (y : MethodName) (cd : Cond) (ws : List Cond) (rm : Room) (as' : Array Value) (h : Heap) (Q : Option Value → Heap → List Loc → Prop) : Prop :=
  MetFree l y (head1 (cd :: ws) rm) (fun a U => a = as' ∧ Z.Warmed39 U.vm ∧ U.heap = h) (fun _ _ _ _ _ => True) (fun _ U o U' => ∃ v L, o = .returned v ∧ Q v U'.heap L ∧ FrameEnd U o U' L rm.cells rm.slots)
theorem own_met {y : MethodName} {bytes : ByteArray} {maxL : Nat} {ret : Option FieldType} {ws : List Cond} {rm : Room} {as' : Array Value} {own : String} (hpl : plainFor y = true) (ho : y.cls = own)
    (body : ∀ p e s m below meth c s₁, p.tables.exec = Jvm.exec → c.code = bytes → c.maxLocals = maxL → s.vm.findClass own = some m.cls → meth.name = y.name → meth.sig.returnType = ret → meth.locks = false → Z.Warmed39 s.vm → s₁.heap = h →
      Stand p l e rm s m as' below meth c s₁ [] 0 0 → own_Wp p e below (own_Fin below s Q rm.cells rm.slots) s₁ (entryFrame m as' maxL)) : own_Met l Z y (Cond.code y bytes maxL ret) ws rm as' h Q := by
  refine MetFree.of_bodySF hpl hisR ?_
  intro p e s m args below meth c s₁ Bd hml0 hP hK
  obtain ⟨rfl, hZ, hh⟩ := hP
  exact body p e s m below meth c s₁ Bd.exec Bd.bytes hml0 (ho ▸ findClass_of_methodNamed Bd.named) (name_of_methodNamed Bd.named Bd.method).1 Bd.returns Bd.notSynchronized hZ (by rw [← hh, Bd.state]; rfl) (Stand.of_body Bd)
theorem own_callS (X : Stand p l e R s m args below meth c T locs cells slots) (hx : p.tables.exec = Jvm.exec) (hZ : Z.Warmed39 s.vm) {own : String} {index : Nat} {y : MethodName} {bytes : ByteArray} {maxL W : Nat} {ret : Option FieldType} {rm : Room} {as' : Array Value}
    (hown : s.vm.findClass own = some m.cls) (w1 : (Cond.methodLink own index y).before a0 Z = true) (w2 : (Cond.static y).before a0 Z = true) (w3 : (Cond.initialized y.cls).before a0 Z = true) (w4 : (Cond.code y bytes maxL ret).before a0 Z = true) (hy : y.cls ≠ "java/lang/invoke/MethodHandle" ∧ y.cls ≠ "java/lang/invoke/VarHandle")
    (hM : own_Met l Z y (Cond.code y bytes maxL ret) [] rm as' h Q) (hf : rm.frames + 1 ≤ R.frames) (hl : W + (maxL + 11) + rm.locals ≤ R.locals) (argsL : List Value) (ha : argsL.toArray = as') (hlen : ∀ sig, parseMethodDescriptor y.desc = some sig → argsL.length = sig.parameters.length)
    (hsz : Ls.size = c.maxLocals) (hW : (rest.map fun v => v.category).sum ≤ W) (hd : decode c.code pc = .ok (.invokestatic index, 3)) (eT : T.heap = h) (hc : cells + rm.cells ≤ R.cells) (hs : slots + rm.slots ≤ R.slots) :
    ∃ (v : Option Value) (T' : State) (L : List Loc), Stand p l e R s m args below meth c T' (locs ++ L) (cells + rm.cells) (slots + rm.slots) ∧ Q v T'.heap L ∧ ∀ F, own_Wp p e below F T' (mkF m (pc + 3) Ls (v.toList ++ rest)) → own_Wp p e below F T (mkF m pc Ls (argsL.reverse ++ rest)) := by
  obtain ⟨v, _, ⟨T1, L1, k1, n1⟩, -, X1, ⟨Lc, hQ, l1, y1, z1⟩, st⟩ := Jvm.LawKit.callS X hx (y := y) hown (mvT hZ w1) (mvT hZ w2) (mvT hZ w3) (mvT hZ w4) hy (backOf (W := W) hM hZ w4 w3 hf hl) (g := mkF m pc Ls (argsL.reverse ++ rest)) rfl hsz (argsL := argsL) (rest := rest) hlen rfl (by show 2 * 0 + _ ≤ _; omega) hd (fun _ _ => ⟨ha, eT, hc, hs⟩)
  dsimp only [Pt.U, Pt.locs, Pt.cells, Pt.slots] at X1 l1 y1 z1 st hQ
  subst l1 y1 z1
  exact ⟨v, T1, Lc, X1, hQ, fun F k => own_step st k⟩
theorem own_callV (X : Stand p l e R s m args below meth c T locs cells slots) (hx : p.tables.exec = Jvm.exec) (hZ : Z.Warmed39 s.vm) {own C : String} {index : Nat} {y z : MethodName} {bytes : ByteArray} {maxL W : Nat} {ret : Option FieldType} {rm : Room} {as' : Array Value} {b : Addr}
    (hown : s.vm.findClass own = some m.cls) (w1 : (Cond.methodLink own index y).before a0 Z = true) (w2 : (Cond.declares y).before a0 Z = true) (hnf : NotFace s y) (w3 : (Cond.selects C y z).before a0 Z = true) (w5 : (Cond.instanceMethod z).before a0 Z = true) (w6 : (Cond.initialized z.cls).before a0 Z = true) (w4 : (Cond.code z bytes maxL ret).before a0 Z = true) (hy : y.cls ≠ "java/lang/invoke/MethodHandle" ∧ y.cls ≠ "java/lang/invoke/VarHandle") (E : Exa Z h b C)
    (hM : own_Met l Z z (Cond.code z bytes maxL ret) [] rm as' h Q) (hf : rm.frames + 1 ≤ R.frames) (hl : W + (maxL + 11) + rm.locals ≤ R.locals) (argsL : List Value) (ha : (.ref b :: argsL).toArray = as') (hlen : ∀ sig, parseMethodDescriptor y.desc = some sig → argsL.length = sig.parameters.length)
    (hsz : Ls.size = c.maxLocals) (hW : (rest.map fun v => v.category).sum ≤ W) (hd : decode c.code pc = .ok (.invokevirtual index, 3)) (eT : T.heap = h) (hc : cells + rm.cells ≤ R.cells) (hs : slots + rm.slots ≤ R.slots) :
    ∃ (v : Option Value) (T' : State) (L : List Loc), Stand p l e R s m args below meth c T' (locs ++ L) (cells + rm.cells) (slots + rm.slots) ∧ Q v T'.heap L ∧ ∀ F, own_Wp p e below F T' (mkF m (pc + 3) Ls (v.toList ++ rest)) → own_Wp p e below F T (mkF m pc Ls (argsL.reverse ++ .ref b :: rest)) := by
  obtain ⟨cq, kq, qa, qb, qc⟩ := isOf hZ eT E
  obtain ⟨v, _, ⟨T1, L1, k1, n1⟩, -, X1, ⟨Lc, hQ, l1, y1, z1⟩, st⟩ := X.virtualBack hx (y := y) (z := z) hown (mvT hZ w1) (mvT hZ w2) hnf (mvT hZ w3) (mvT hZ w5) hy (backOf (W := W) hM hZ w4 w6 hf hl) qa qc (g := mkF m pc Ls (argsL.reverse ++ .ref b :: rest)) rfl hsz (Steps.refl _) (argsL := argsL) (rest := rest) hlen rfl (by show 2 * 0 + _ ≤ _; omega) hd (fun _ _ => ⟨ha, eT, hc, hs⟩)
  dsimp only [Pt.U, Pt.locs, Pt.cells, Pt.slots] at X1 l1 y1 z1 st hQ
  subst l1 y1 z1
  exact ⟨v, T1, Lc, X1, hQ, fun F k => own_step (fun _ q => st.trans q) k⟩
theorem own_callN (X : Stand p l e R s m args below meth c T locs cells slots) (hx : p.tables.exec = Jvm.exec) (hZ : Z.Warmed39 s.vm) {own : String} {index : Nat} {y : MethodName} {bytes : ByteArray} {maxL W : Nat} {rm : Room} {as' : Array Value} {b : Addr}
    (hn : y.name = "<init>") (hown : s.vm.findClass own = some m.cls) (w1 : (Cond.methodLink own index y).before a0 Z = true) (w5 : (Cond.instanceMethod y).before a0 Z = true) (w6 : (Cond.initialized y.cls).before a0 Z = true) (w4 : (Cond.code y bytes maxL none).before a0 Z = true) (hy : y.cls ≠ "java/lang/invoke/MethodHandle" ∧ y.cls ≠ "java/lang/invoke/VarHandle")
    (hM : own_Met l Z y (Cond.code y bytes maxL none) [] rm as' h Q) (hf : rm.frames + 1 ≤ R.frames) (hl : W + (maxL + 11) + rm.locals ≤ R.locals) (argsL : List Value) (ha : (.ref b :: argsL).toArray = as') (hlen : ∀ sig, parseMethodDescriptor y.desc = some sig → argsL.length = sig.parameters.length)
    (hsz : Ls.size = c.maxLocals) (hW : (rest.map fun v => v.category).sum ≤ W) (hd : decode c.code pc = .ok (.invokespecial index, 3)) (eT : T.heap = h) (hc : cells + rm.cells ≤ R.cells) (hs : slots + rm.slots ≤ R.slots) :
    ∃ (v : Option Value) (T' : State) (L : List Loc), Stand p l e R s m args below meth c T' (locs ++ L) (cells + rm.cells) (slots + rm.slots) ∧ Q v T'.heap L ∧ ∀ F, own_Wp p e below F T' (mkF m (pc + 3) Ls (v.toList ++ rest)) → own_Wp p e below F T (mkF m pc Ls (argsL.reverse ++ .ref b :: rest)) := by
  obtain ⟨v, _, ⟨T1, L1, k1, n1⟩, -, X1, ⟨Lc, hQ, l1, y1, z1⟩, st⟩ := X.specialBack hx (y := y) hn hown (mvT hZ w1) (mvT hZ w5) (mvT hZ w4) hy (backOf (W := W) hM hZ w4 w6 hf hl) (g := mkF m pc Ls (argsL.reverse ++ .ref b :: rest)) rfl hsz (Steps.refl _) (a := b) (argsL := argsL) (rest := rest) hlen rfl (by show 2 * 0 + _ ≤ _; omega) hd (fun _ _ => ⟨ha, eT, hc, hs⟩)
  dsimp only [Pt.U, Pt.locs, Pt.cells, Pt.slots] at X1 l1 y1 z1 st hQ
  subst l1 y1 z1
  exact ⟨v, T1, Lc, X1, hQ, fun F k => own_step (fun _ q => st.trans q) k⟩
theorem own_callU (X : Stand p l e R s m args below meth c T locs cells slots) (hx : p.tables.exec = Jvm.exec) (hZ : Z.Warmed39 s.vm) {own C owner : String} {index : Nat} {y z : MethodName} {bytes : ByteArray} {maxL W : Nat} {ret : Option FieldType} {rm : Room} {as' : Array Value} {b : Addr}
    (hown : s.vm.findClass own = some m.cls) (w1 : (Cond.methodLink own index y).before a0 Z = true) (w2 : (Cond.sameMethod y.cls owner y.name y.desc).before a0 Z = true) (w7 : (Cond.declares ⟨owner, y.name, y.desc⟩).before a0 Z = true) (w3 : (Cond.selects C y z).before a0 Z = true) (w5 : (Cond.instanceMethod z).before a0 Z = true) (w6 : (Cond.initialized z.cls).before a0 Z = true) (w4 : (Cond.code z bytes maxL ret).before a0 Z = true) (hy : owner ≠ "java/lang/invoke/MethodHandle" ∧ owner ≠ "java/lang/invoke/VarHandle") (E : Exa Z h b C)
    (hM : own_Met l Z z (Cond.code z bytes maxL ret) [] rm as' h Q) (hf : rm.frames + 1 ≤ R.frames) (hl : W + (maxL + 11) + rm.locals ≤ R.locals) (argsL : List Value) (ha : (.ref b :: argsL).toArray = as') (hlen : ∀ sig, parseMethodDescriptor y.desc = some sig → argsL.length = sig.parameters.length)
    (hsz : Ls.size = c.maxLocals) (hW : (rest.map fun v => v.category).sum ≤ W) (hd : decode c.code pc = .ok (.invokevirtual index, 3)) (eT : T.heap = h) (hc : cells + rm.cells ≤ R.cells) (hs : slots + rm.slots ≤ R.slots) :
    ∃ (v : Option Value) (T' : State) (L : List Loc), Stand p l e R s m args below meth c T' (locs ++ L) (cells + rm.cells) (slots + rm.slots) ∧ Q v T'.heap L ∧ ∀ F, own_Wp p e below F T' (mkF m (pc + 3) Ls (v.toList ++ rest)) → own_Wp p e below F T (mkF m pc Ls (argsL.reverse ++ .ref b :: rest)) := by
  obtain ⟨cq, kq, qa, qb, qc⟩ := isOf hZ eT E
  obtain ⟨v, _, ⟨T1, L1, k1, n1⟩, -, X1, ⟨Lc, hQ, l1, y1, z1⟩, st⟩ := X.virtualBackUp hx (x := y) (y := z) hown (mvT hZ w1) (mvT hZ w2) (mvT hZ w7) hy (mvT hZ w3) (mvT hZ w5) (backOf (W := W) hM hZ w4 w6 hf hl) qa qc (g := mkF m pc Ls (argsL.reverse ++ .ref b :: rest)) rfl hsz (Steps.refl _) (argsL := argsL) (rest := rest) hlen rfl (by show 2 * 0 + _ ≤ _; omega) hd (fun _ _ => ⟨ha, eT, hc, hs⟩)
  dsimp only [Pt.U, Pt.locs, Pt.cells, Pt.slots] at X1 l1 y1 z1 st hQ
  subst l1 y1 z1
  exact ⟨v, T1, Lc, X1, hQ, fun F k => own_step (fun _ q => st.trans q) k⟩
theorem own_callF (X : Stand p l e R s m args below meth c T locs cells slots) (hx : p.tables.exec = Jvm.exec) (hZ : Z.Warmed39 s.vm) {own C : String} {index count : Nat} {y z : MethodName} {bytes : ByteArray} {maxL W : Nat} {ret : Option FieldType} {rm : Room} {as' : Array Value} {b : Addr}
    (hown : s.vm.findClass own = some m.cls) (w1 : (Cond.methodLink own index y).before a0 Z = true) (w2 : (Cond.declares y).before a0 Z = true) (w7 : (Cond.interfaceMethod y.cls y.cls y.name y.desc).before a0 Z = true) (hfa : ((Cond.interfaceMethod y.cls y.cls y.name y.desc).onTables && (Cond.interfaceMethod y.cls y.cls y.name y.desc).keepsFace) = true) (w3 : (Cond.selects C y z).before a0 Z = true) (w5 : (Cond.instanceMethod z).before a0 Z = true) (w8 : (Cond.publicMethod z).before a0 Z = true) (w9 : (Cond.unhidden C y.name y.desc).before a0 Z = true) (w10 : (Cond.castable C y.cls).before a0 Z = true) (w6 : (Cond.initialized z.cls).before a0 Z = true) (w4 : (Cond.code z bytes maxL ret).before a0 Z = true) (hy : y.cls ≠ "java/lang/invoke/MethodHandle" ∧ y.cls ≠ "java/lang/invoke/VarHandle") (E : Exa Z h b C)
    (hM : own_Met l Z z (Cond.code z bytes maxL ret) [] rm as' h Q) (hf : rm.frames + 1 ≤ R.frames) (hl : W + (maxL + 11) + rm.locals ≤ R.locals) (argsL : List Value) (ha : (.ref b :: argsL).toArray = as') (hlen : ∀ sig, parseMethodDescriptor y.desc = some sig → argsL.length = sig.parameters.length)
    (hsz : Ls.size = c.maxLocals) (hW : (rest.map fun v => v.category).sum ≤ W) (hd : decode c.code pc = .ok (.invokeinterface index count, 5)) (eT : T.heap = h) (hc : cells + rm.cells ≤ R.cells) (hs : slots + rm.slots ≤ R.slots) :
    ∃ (v : Option Value) (T' : State) (L : List Loc), Stand p l e R s m args below meth c T' (locs ++ L) (cells + rm.cells) (slots + rm.slots) ∧ Q v T'.heap L ∧ ∀ F, own_Wp p e below F T' (mkF m (pc + 5) Ls (v.toList ++ rest)) → own_Wp p e below F T (mkF m pc Ls (argsL.reverse ++ .ref b :: rest)) := by
  obtain ⟨cq, kq, qa, qb, qc⟩ := isOf hZ eT E
  obtain ⟨v, _, ⟨T1, L1, k1, n1⟩, -, X1, ⟨Lc, hQ, l1, y1, z1⟩, st⟩ := X.interfaceBack hx (xi := y) (y := z) hown (mvT hZ w1) (mvT hZ w2) (mvT hZ w7 hfa) (mvT hZ w3) (mvT hZ w5) (mvT hZ w8) (mvT hZ w9) (mvT hZ w10) hy (backOf (W := W) hM hZ w4 w6 hf hl) qa qb qc (g := mkF m pc Ls (argsL.reverse ++ .ref b :: rest)) rfl hsz (Steps.refl _) (argsL := argsL) (rest := rest) hlen rfl (by show 2 * 0 + _ ≤ _; omega) hd (fun _ _ => ⟨ha, eT, hc, hs⟩)
  dsimp only [Pt.U, Pt.locs, Pt.cells, Pt.slots] at X1 l1 y1 z1 st hQ
  subst l1 y1 z1
  exact ⟨v, T1, Lc, X1, hQ, fun F k => own_step (fun _ q => st.trans q) k⟩
theorem own_callP (X : Stand p l e R s m args below meth c T locs cells slots) (hx : p.tables.exec = Jvm.exec) (hZ : Z.Warmed39 s.vm) {own : String} {index : Nat} {y : MethodName} {bytes : ByteArray} {maxL W : Nat} {ret : Option FieldType} {rm : Room} {as' : Array Value} {b : Addr}
    (hown : s.vm.findClass own = some m.cls) (w1 : (Cond.methodLink own index y).before a0 Z = true) (w5 : (Cond.instanceMethod y).before a0 Z = true) (w7 : (Cond.selects y.cls y y).before a0 Z = true) (w8 : (Cond.privateMethod y).before a0 Z = true) (w6 : (Cond.initialized y.cls).before a0 Z = true) (w4 : (Cond.code y bytes maxL ret).before a0 Z = true) (hy : y.cls ≠ "java/lang/invoke/MethodHandle" ∧ y.cls ≠ "java/lang/invoke/VarHandle") {C : String} (E : Exa Z h b C)
    (hM : own_Met l Z y (Cond.code y bytes maxL ret) [] rm as' h Q) (hf : rm.frames + 1 ≤ R.frames) (hl : W + (maxL + 11) + rm.locals ≤ R.locals) (argsL : List Value) (ha : (.ref b :: argsL).toArray = as') (hlen : ∀ sig, parseMethodDescriptor y.desc = some sig → argsL.length = sig.parameters.length)
    (hsz : Ls.size = c.maxLocals) (hW : (rest.map fun v => v.category).sum ≤ W) (hd : decode c.code pc = .ok (.invokevirtual index, 3)) (eT : T.heap = h) (hc : cells + rm.cells ≤ R.cells) (hs : slots + rm.slots ≤ R.slots) :
    ∃ (v : Option Value) (T' : State) (L : List Loc), Stand p l e R s m args below meth c T' (locs ++ L) (cells + rm.cells) (slots + rm.slots) ∧ Q v T'.heap L ∧ ∀ F, own_Wp p e below F T' (mkF m (pc + 3) Ls (v.toList ++ rest)) → own_Wp p e below F T (mkF m pc Ls (argsL.reverse ++ .ref b :: rest)) := by
  obtain ⟨cq, q1, q2⟩ := E.cell
  obtain ⟨v, _, ⟨T1, L1, k1, n1⟩, -, X1, ⟨Lc, hQ, l1, y1, z1⟩, st⟩ := X.privateBack hx (y := y) hown (mvT hZ w1) (mvT hZ w5) (mvT hZ w7) (Cond.privateMethod_at (mvP hZ w8 (args := #[]))) (mvT hZ w4) hy (backOf (W := W) hM hZ w4 w6 hf hl) (g := mkF m pc Ls (argsL.reverse ++ .ref b :: rest)) rfl hsz (Steps.refl _) (a := b) (by rw [eT]; exact q1) q2 (argsL := argsL) (rest := rest) hlen rfl (by show 2 * 0 + _ ≤ _; omega) hd (fun _ _ => ⟨ha, eT, hc, hs⟩)
  dsimp only [Pt.U, Pt.locs, Pt.cells, Pt.slots] at X1 l1 y1 z1 st hQ
  subst l1 y1 z1
  exact ⟨v, T1, Lc, X1, hQ, fun F k => own_step (fun _ q => st.trans q) k⟩
/-- the words of a long conjunction, as a list -/
def own_flat : Cond → List Cond
  | .and a b => a :: own_flat b
  | c => [c]
theorem own_mem {args : Array Value} {Z : State} : ∀ c : Cond, c.value args Z none Z [] = some true → ∀ d ∈ own_flat c, d.value args Z none Z [] = some true
  | .and a b, h, d, hd => by
    obtain ⟨h1, h2⟩ := and_e h
    rcases List.mem_cons.mp hd with rfl | q
    · exact h1
    · exact own_mem b h2 d q
  | .tt, h, d, hd => by cases List.mem_singleton.mp hd; exact h
  | c, h, d, hd => by
    unfold own_flat at hd
    split at hd
    · rename_i a b
      obtain ⟨h1, h2⟩ := and_e h
      rcases List.mem_cons.mp hd with rfl | q
      · exact h1
      · exact own_mem b h2 d q
    · cases List.mem_singleton.mp hd; exact h
/-- the object that a term of the start names -/
def own_t (Z : State) (t : Term) : Addr := match t.eval #[] Z none [] Z with
  | some (.ref a) => a
  | _ => 0
theorem own_t_eq {t : Term} {a : Addr} (h : t.eval a0 Z none [] Z = some (.ref a)) (hr : t.eval a0 Z none [] Z = t.eval #[] Z none [] Z) : own_t Z t = a := by
  rw [hr] at h
  simp only [own_t, h]
theorem own_ev {t : Term} {K : String} (h : (Cond.exactly t K).value a0 Z none Z [] = some true) (hr : t.eval a0 Z none [] Z = t.eval #[] Z none [] Z) : t.eval a0 Z none [] Z = some (.ref (own_t Z t)) := by
  obtain ⟨a, ev⟩ := exa_v h
  rw [own_t_eq ev hr]
  exact ev
theorem own_evA {t : Term} {ty : FieldType} (h : (Cond.arrayOf t ty).value a0 Z none Z [] = some true) (hr : t.eval a0 Z none [] Z = t.eval #[] Z none [] Z) : t.eval a0 Z none [] Z = some (.ref (own_t Z t)) := by
  obtain ⟨a, ev⟩ := arr_v h
  rw [own_t_eq ev hr]
  exact ev
theorem own_eqI {t : Term} {z : Int32} (q : (Cond.eq t (.int z)).value a0 Z none Z [] = some true) : t.eval a0 Z none [] Z = some (.int z) := by
  cases hf : t.eval a0 Z none [] Z with
  | none => simp [Cond.value, hf] at q
  | some v => cases v <;> simp [Cond.value, Term.eval, hf] at q <;> first | (rw [q]; done) | exact congrArg (fun z => some (Value.int z)) q | skip
theorem own_eqR {t u : Term} {b : Addr} (q : (Cond.eq t u).value a0 Z none Z [] = some true) (ev : u.eval a0 Z none [] Z = some (.ref b)) : t.eval a0 Z none [] Z = some (.ref b) := by
  cases hf : t.eval a0 Z none [] Z with
  | none => simp [Cond.value, hf] at q
  | some v => cases v <;> simp [Cond.value, hf, ev] at q <;> first | (rw [q]; done) | exact congrArg (fun z => some (Value.ref z)) q | skip
theorem own_fld {t : Term} {O f d : String} {a : Addr} {v : Value} (ev : t.eval a0 Z none [] Z = some (.ref a)) (q : (Term.field t O f d).eval a0 Z none [] Z = some v) : Fld Z Z.heap a O f d v := by
  refine Fld.start ?_
  simp only [Term.eval, ev, Option.bind_eq_bind, Option.bind_some] at q
  exact q
theorem own_len {t : Term} {ty : FieldType} {a : Addr} {cl : Cell} {z : Int32} (A : Arr Z Z.heap a cl ty) (ev : t.eval a0 Z none [] Z = some (.ref a)) (q : (Cond.eq (.length t) (.int z)).value a0 Z none Z [] = some true) : cl.slots.size < 2 ^ 31 ∧ cl.slots.size.toInt32 = z := by
  have e0 : Z.arrayAt? a = some cl := Arr.fin (Vm.Alike.refl _) A
  have q2 := own_eqI q
  simp only [Term.eval, ev, e0, Option.bind_eq_bind, Option.bind_some] at q2
  split at q2
  · rename_i g
    exact ⟨g, by simpa using q2⟩
  · cases q2
theorem own_el {t : Term} {ty : FieldType} {a : Addr} {cl : Cell} {i : Int32} {v : Value} (A : Arr Z Z.heap a cl ty) (ev : t.eval a0 Z none [] Z = some (.ref a)) (q : (Term.elem t (.int i)).eval a0 Z none [] Z = some v) : cl.slots[i.toNatClampNeg]? = some v := by
  have e0 : Z.arrayAt? a = some cl := Arr.fin (Vm.Alike.refl _) A
  simp only [Term.eval, ev, e0, Option.bind_eq_bind, Option.bind_some] at q
  split at q
  · cases q
  · exact q
def own_i (Z : State) (t : Term) : Int32 := match t.eval #[] Z none [] Z with
  | some (.int a) => a
  | _ => 0
theorem own_evI {t : Term} (h : (Cond.isInt t).value a0 Z none Z [] = some true) (hr : t.eval a0 Z none [] Z = t.eval #[] Z none [] Z) : t.eval a0 Z none [] Z = some (.int (own_i Z t)) := by
  obtain ⟨a, ev⟩ := is_v h
  have q := ev
  rw [hr] at q
  have e : own_i Z t = a := by simp only [own_i, q]
  rw [e]
  exact ev
theorem own_neI {t : Term} {z a : Int32} (h : (Cond.not (.eq t (.int z))).value a0 Z none Z [] = some true) (ev : t.eval a0 Z none [] Z = some (.int a)) : ¬ (a = z) := by
  have q := not_v h
  simp only [Cond.value, ev, Term.eval] at q
  intro e
  subst e
  simp at q
theorem own_fitc {c : Int32} (h : nar .char c = c) : fits .char (.int c) = true := by
  have q := fits_nar_char c
  rw [h] at q
  exact q
theorem own_narb {c : Int32} (h : c = (0 : Int32) ∨ c = (1 : Int32)) : nar .boolean c = c := by rcases h with rfl | rfl <;> rfl
theorem own_nb {c : Int32} (h : c = (0 : Int32) ∨ c = (1 : Int32)) : narrow .boolean (.int c) = .int c := by rcases h with rfl | rfl <;> rfl
theorem own_fb {c : Int32} (h : c = (0 : Int32) ∨ c = (1 : Int32)) : fits .boolean (.int c) = true := by rcases h with rfl | rfl <;> rfl
theorem own_lc3 (a b : Int64) : (a < b ∧ lcmpW a b = -1) ∨ (a = b ∧ lcmpW a b = 0) ∨ (b < a ∧ lcmpW a b = 1) := by
  by_cases h : b < a
  · exact Or.inr (Or.inr ⟨h, if_pos h⟩)
  · by_cases h2 : a = b
    · exact Or.inr (Or.inl ⟨h2, (if_neg h).trans (if_pos h2)⟩)
    · refine Or.inl ⟨?_, (if_neg h).trans (if_neg h2)⟩
      simp only [Int64.lt_iff_toInt_lt, ← Int64.toInt_inj] at h h2 ⊢
      omega
theorem own_lcltY {a b : Int64} (h : a < b) : ifCond.holds .lt (lcmpW a b) = true := by
  rcases own_lc3 a b with ⟨h1, e⟩ | ⟨h1, e⟩ | ⟨h1, e⟩ <;> first | (rw [e]; decide) | (exfalso; simp only [Int64.lt_iff_toInt_lt, ← Int64.toInt_inj] at h h1; omega)
theorem own_lcltN {a b : Int64} (h : ¬ (a < b)) : ifCond.holds .lt (lcmpW a b) = false := by
  rcases own_lc3 a b with ⟨h1, e⟩ | ⟨h1, e⟩ | ⟨h1, e⟩ <;> first | (rw [e]; decide) | (exfalso; simp only [Int64.lt_iff_toInt_lt, ← Int64.toInt_inj] at h h1; omega)
theorem own_lcgeY {a b : Int64} (h : ¬ (a < b)) : ifCond.holds .ge (lcmpW a b) = true := by
  rcases own_lc3 a b with ⟨h1, e⟩ | ⟨h1, e⟩ | ⟨h1, e⟩ <;> first | (rw [e]; decide) | (exfalso; simp only [Int64.lt_iff_toInt_lt, ← Int64.toInt_inj] at h h1; omega)
theorem own_lcgeN {a b : Int64} (h : a < b) : ifCond.holds .ge (lcmpW a b) = false := by
  rcases own_lc3 a b with ⟨h1, e⟩ | ⟨h1, e⟩ | ⟨h1, e⟩ <;> first | (rw [e]; decide) | (exfalso; simp only [Int64.lt_iff_toInt_lt, ← Int64.toInt_inj] at h h1; omega)
theorem own_lcgtY {a b : Int64} (h : b < a) : ifCond.holds .gt (lcmpW a b) = true := by
  rcases own_lc3 a b with ⟨h1, e⟩ | ⟨h1, e⟩ | ⟨h1, e⟩ <;> first | (rw [e]; decide) | (exfalso; simp only [Int64.lt_iff_toInt_lt, ← Int64.toInt_inj] at h h1; omega)
theorem own_lcgtN {a b : Int64} (h : ¬ (b < a)) : ifCond.holds .gt (lcmpW a b) = false := by
  rcases own_lc3 a b with ⟨h1, e⟩ | ⟨h1, e⟩ | ⟨h1, e⟩ <;> first | (rw [e]; decide) | (exfalso; simp only [Int64.lt_iff_toInt_lt, ← Int64.toInt_inj] at h h1; omega)
theorem own_lcleY {a b : Int64} (h : ¬ (b < a)) : ifCond.holds .le (lcmpW a b) = true := by
  rcases own_lc3 a b with ⟨h1, e⟩ | ⟨h1, e⟩ | ⟨h1, e⟩ <;> first | (rw [e]; decide) | (exfalso; simp only [Int64.lt_iff_toInt_lt, ← Int64.toInt_inj] at h h1; omega)
theorem own_lcleN {a b : Int64} (h : b < a) : ifCond.holds .le (lcmpW a b) = false := by
  rcases own_lc3 a b with ⟨h1, e⟩ | ⟨h1, e⟩ | ⟨h1, e⟩ <;> first | (rw [e]; decide) | (exfalso; simp only [Int64.lt_iff_toInt_lt, ← Int64.toInt_inj] at h h1; omega)
theorem own_lceqY {a b : Int64} (h : a = b) : ifCond.holds .eq (lcmpW a b) = true := by
  rcases own_lc3 a b with ⟨h1, e⟩ | ⟨h1, e⟩ | ⟨h1, e⟩ <;> first | (rw [e]; decide) | (exfalso; simp only [Int64.lt_iff_toInt_lt, ← Int64.toInt_inj] at h h1; omega)
theorem own_lceqN {a b : Int64} (h : ¬ (a = b)) : ifCond.holds .eq (lcmpW a b) = false := by
  rcases own_lc3 a b with ⟨h1, e⟩ | ⟨h1, e⟩ | ⟨h1, e⟩ <;> first | (rw [e]; decide) | (exfalso; simp only [Int64.lt_iff_toInt_lt, ← Int64.toInt_inj] at h h1; omega)
theorem own_lcneY {a b : Int64} (h : ¬ (a = b)) : ifCond.holds .ne (lcmpW a b) = true := by
  rcases own_lc3 a b with ⟨h1, e⟩ | ⟨h1, e⟩ | ⟨h1, e⟩ <;> first | (rw [e]; decide) | (exfalso; simp only [Int64.lt_iff_toInt_lt, ← Int64.toInt_inj] at h h1; omega)
theorem own_lcneN {a b : Int64} (h : a = b) : ifCond.holds .ne (lcmpW a b) = false := by
  rcases own_lc3 a b with ⟨h1, e⟩ | ⟨h1, e⟩ | ⟨h1, e⟩ <;> first | (rw [e]; decide) | (exfalso; simp only [Int64.lt_iff_toInt_lt, ← Int64.toInt_inj] at h h1; omega)
end OwnLayer
theorem own_get {c : Cell} {vs : List Value} {d : Value} {z j : Int32} (S : c.slots.size = z.toNatClampNeg) (H : Has c vs d) (q : ¬ (j < 0 ∨ c.slots.size ≤ j.toNatClampNeg)) (i : Nat) (hj : j.toNatClampNeg = i) : c.slots[j.toNatClampNeg]? = some (vs.getD i d) := by
  subst hj
  exact H _ (Nat.lt_of_not_le fun r => q (Or.inr r))
theorem own_mod (x : Int32) {n : Int32} (hn : 0 < n.toInt) : 0 ≤ ((x &&& (2147483647 : Int32)) % n).toInt ∧ ((x &&& (2147483647 : Int32)) % n).toInt < n.toInt := by
  have h := (Jvm.Kit.i32_and_bounds x (m := (2147483647 : Int32)) (by decide)).1
  have h0 : 0 ≤ (x &&& (2147483647 : Int32)).toInt := Jvm.Kit.i32_nonneg.mp h
  rw [Int32.toInt_mod]
  exact ⟨Int.tmod_nonneg _ h0, Int.tmod_lt_of_pos _ hn⟩
section OwnWide
variable {p : Program} {l : Launch} {e : Env} {R : Room} {s : State} {m : MethodId} {args : Array Value} {below : List Frame} {meth : Method} {c : Code} {T T' : State} {locs : List Loc} {cells slots cs sl pc k0 : Nat} {vm0 : Vm} {g g' : JFrame} {F : State → Outcome → Prop} {Q : Option Value → Heap → List Loc → Prop} {Ls : Array Slot} {rest : List Value} {Z : State} {a0 : Array Value} {h : Heap}
def own_FinW (below : List Frame) (s : State) (Q : Option Value → Heap → List Loc → Prop) (cs sl : Nat) (s₂ : State) (o : Outcome) : Prop := s₂.status = .running ∧ Ended s₂ below o ∧ ∃ v L, o = .returned v ∧ Q v s₂.heap L ∧ ReturnedEndW s o s₂ L cs sl
theorem own_leaveW {v : Option Value} {fs : List Frame} (st : Steps p.tables e below (T.setTop g) (T.setFrames fs)) (hrun : (T.setFrames fs).status = .running) (hended : Ended (T.setFrames fs) below (.returned v)) (hE : ReturnedEndW s (.returned v) (T.setFrames fs) locs cells slots) (hc : cells ≤ cs) (hs : slots ≤ sl) (hQ : Q v T.heap locs) : own_Wp p e below (own_FinW below s Q cs sl) T g :=
  ⟨_, _, st, hrun, hended, v, locs, rfl, hQ, hE.1, hE.2.1, hE.2.2.1, hE.2.2.2.mono hc hs⟩
theorem own_retNW (X : Stand p l e R (s.setVm vm0) m args below meth c T locs cells slots) (hS : s.Since vm0 k0) (hn0 : k0 ≤ T.heap.size) (hx : p.tables.exec = Jvm.exec) {t : FieldType} {z : Int32} (hret : meth.sig.returnType = some t) (ht : t = .boolean ∨ t = .byte ∨ t = .char ∨ t = .short) (hlocks : meth.locks = false) (hd : decode c.code pc = .ok (.ireturn, 1)) (hc : cells ≤ cs) (hs : slots ≤ sl) (hQ : Q (some (.int (nar t z))) T.heap locs) : own_Wp p e below (own_FinW below s Q cs sl) T (mkF m pc Ls (.int z :: rest)) := by
  obtain ⟨fs, hr, hrun, hended, hE⟩ := X.leaveW hS hn0 (v := some (.int (nar t z))) (fun h => by rw [hret] at h; cases h) hlocks
  exact own_leaveW (retN X hx hret ht hd hr) hrun hended hE hc hs hQ
theorem own_retIW (X : Stand p l e R (s.setVm vm0) m args below meth c T locs cells slots) (hS : s.Since vm0 k0) (hn0 : k0 ≤ T.heap.size) (hx : p.tables.exec = Jvm.exec) {z : Int32} (hret : meth.sig.returnType = some .int) (hlocks : meth.locks = false) (hd : decode c.code pc = .ok (.ireturn, 1)) (hc : cells ≤ cs) (hs : slots ≤ sl) (hQ : Q (some (.int z)) T.heap locs) : own_Wp p e below (own_FinW below s Q cs sl) T (mkF m pc Ls (.int z :: rest)) := by
  obtain ⟨fs, hr, hrun, hended, hE⟩ := X.leaveW hS hn0 (v := some (.int z)) (fun h => by rw [hret] at h; cases h) hlocks
  refine own_leaveW ?_ hrun hended hE hc hs hQ
  have hm' : T.vm.method? m = some meth := X.method'
  have hn : narrow .int (.int z) = .int z := rfl
  show Steps p.tables e below (T.setTop { method := m, pc := pc, locals := Ls, stack := _ :: rest, locked := none }) _
  jvm_step X.here [X.here.top, hx, hd, hm', hret, hn]
  first | (intro acts; rw [hr _ acts rfl rfl rfl]) | rw [hr _ _ rfl rfl rfl]
  exact Steps.refl _
theorem own_retJW (X : Stand p l e R (s.setVm vm0) m args below meth c T locs cells slots) (hS : s.Since vm0 k0) (hn0 : k0 ≤ T.heap.size) (hx : p.tables.exec = Jvm.exec) {z : Int64} (hret : meth.sig.returnType = some .long) (hlocks : meth.locks = false) (hd : decode c.code pc = .ok (.lreturn, 1)) (hc : cells ≤ cs) (hs : slots ≤ sl) (hQ : Q (some (.long z)) T.heap locs) : own_Wp p e below (own_FinW below s Q cs sl) T (mkF m pc Ls (.long z :: rest)) := by
  obtain ⟨fs, hr, hrun, hended, hE⟩ := X.leaveW hS hn0 (v := some (.long z)) (fun h => by rw [hret] at h; cases h) hlocks
  refine own_leaveW ?_ hrun hended hE hc hs hQ
  have hm' : T.vm.method? m = some meth := X.method'
  have hn : narrow .long (.long z) = .long z := rfl
  show Steps p.tables e below (T.setTop { method := m, pc := pc, locals := Ls, stack := _ :: rest, locked := none }) _
  jvm_step X.here [X.here.top, hx, hd, hm', hret, hn]
  first | (intro acts; rw [hr _ acts rfl rfl rfl]) | rw [hr _ _ rfl rfl rfl]
  exact Steps.refl _
theorem own_retAW (X : Stand p l e R (s.setVm vm0) m args below meth c T locs cells slots) (hS : s.Since vm0 k0) (hn0 : k0 ≤ T.heap.size) (hx : p.tables.exec = Jvm.exec) {t : FieldType} {v : Value} (hret : meth.sig.returnType = some t) (ht : t.isReference = true) (hv : v.isRef = true) (hlocks : meth.locks = false) (hd : decode c.code pc = .ok (.areturn, 1)) (hc : cells ≤ cs) (hs : slots ≤ sl) (hQ : Q (some v) T.heap locs) : own_Wp p e below (own_FinW below s Q cs sl) T (mkF m pc Ls (v :: rest)) := by
  obtain ⟨fs, hr, hrun, hended, hE⟩ := X.leaveW hS hn0 (v := some v) (fun h => by rw [hret] at h; cases h) hlocks
  refine own_leaveW ?_ hrun hended hE hc hs hQ
  have hm' : T.vm.method? m = some meth := X.method'
  rcases ref_cases hv with rfl | ⟨a, rfl⟩
  · show Steps p.tables e below (T.setTop { method := m, pc := pc, locals := Ls, stack := _ :: rest, locked := none }) _
    jvm_step X.here [X.here.top, hx, hd, hm', hret, Value.isRef, ht]
    first | (intro acts; rw [hr _ acts rfl rfl rfl]) | rw [hr _ _ rfl rfl rfl]
    exact Steps.refl _
  · show Steps p.tables e below (T.setTop { method := m, pc := pc, locals := Ls, stack := _ :: rest, locked := none }) _
    jvm_step X.here [X.here.top, hx, hd, hm', hret, Value.isRef, ht]
    first | (intro acts; rw [hr _ acts rfl rfl rfl]) | rw [hr _ _ rfl rfl rfl]
    exact Steps.refl _
theorem own_retVW (X : Stand p l e R (s.setVm vm0) m args below meth c T locs cells slots) (hS : s.Since vm0 k0) (hn0 : k0 ≤ T.heap.size) (hx : p.tables.exec = Jvm.exec) (hret : meth.sig.returnType = none) (hlocks : meth.locks = false) (hd : decode c.code pc = .ok (.return_, 1)) (hc : cells ≤ cs) (hs : slots ≤ sl) (hQ : Q none T.heap locs) : own_Wp p e below (own_FinW below s Q cs sl) T (mkF m pc Ls []) := by
  obtain ⟨fs, hr, hrun, hended, hE⟩ := X.leaveW hS hn0 (v := none) (fun _ => rfl) hlocks
  exact own_leaveW (X.returnOut hx hret hd hr) hrun hended hE hc hs hQ
def own_MetW (l : Launch) (Z : State) (y : MethodName) (cd : Cond) (ws : List Cond) (rm : Room) (as' : Array Value) (h : Heap) (Q : Option Value → Heap → List Loc → Prop) : Prop :=
  MetFree l y (head1 (cd :: ws) rm) (fun a U => a = as' ∧ Z.Warmed39 U.vm ∧ U.heap = h) (fun _ _ _ _ _ => True) (fun _ U o U' => ∃ v L, o = .returned v ∧ Q v U'.heap L ∧ ReturnedEndW U o U' L rm.cells rm.slots)
theorem own_metW {y : MethodName} {bytes : ByteArray} {maxL : Nat} {ret : Option FieldType} {ws : List Cond} {rm : Room} {as' : Array Value} {own : String} (hpl : plainFor y = true) (ho : y.cls = own)
    (body : ∀ p e s m below meth c s₁, p.tables.exec = Jvm.exec → c.code = bytes → c.maxLocals = maxL → (s.setVm s.vm).vm.findClass own = some m.cls → meth.name = y.name → meth.sig.returnType = ret → meth.locks = false → Z.Warmed39 (s.setVm s.vm).vm → s₁.heap = h →
      Stand p l e rm (s.setVm s.vm) m as' below meth c s₁ [] 0 0 → s.Since s.vm 0 → own_Wp p e below (own_FinW below s Q rm.cells rm.slots) s₁ (entryFrame m as' maxL)) : own_MetW l Z y (Cond.code y bytes maxL ret) ws rm as' h Q := by
  refine MetFree.of_bodySF hpl hisR ?_
  intro p e s m args below meth c s₁ Bd hml0 hP hK
  obtain ⟨rfl, hZ, hh⟩ := hP
  exact body p e s m below meth c s₁ Bd.exec Bd.bytes hml0 (ho ▸ findClass_of_methodNamed Bd.named) (name_of_methodNamed Bd.named Bd.method).1 Bd.returns Bd.notSynchronized hZ (by rw [← hh, Bd.state]; rfl) (Stand.of_body Bd) ((State.WarmedH.refl s).since 0)
theorem own_callSW (X : Stand p l e R (s.setVm vm0) m args below meth c T locs cells slots) (hx : p.tables.exec = Jvm.exec) (hZ : Z.Warmed39 (s.setVm vm0).vm) (hS : s.Since vm0 k0) (hk : k0 ≤ h.size) {own : String} {index : Nat} {y : MethodName} {bytes : ByteArray} {maxL W : Nat} {ret : Option FieldType} {rm : Room} {as' : Array Value}
    (hown : (s.setVm vm0).vm.findClass own = some m.cls) (w1 : (Cond.methodLink own index y).before a0 Z = true) (w2 : (Cond.static y).before a0 Z = true) (w3 : (Cond.initialized y.cls).before a0 Z = true) (w4 : (Cond.code y bytes maxL ret).before a0 Z = true) (hy : y.cls ≠ "java/lang/invoke/MethodHandle" ∧ y.cls ≠ "java/lang/invoke/VarHandle")
    (hM : own_MetW l Z y (Cond.code y bytes maxL ret) [] rm as' h Q) (hf : rm.frames + 1 ≤ R.frames) (hl : W + (maxL + 11) + rm.locals ≤ R.locals) (argsL : List Value) (ha : argsL.toArray = as') (hlen : ∀ sig, parseMethodDescriptor y.desc = some sig → argsL.length = sig.parameters.length)
    (hsz : Ls.size = c.maxLocals) (hW : (rest.map fun v => v.category).sum ≤ W) (hd : decode c.code pc = .ok (.invokestatic index, 3)) (eT : T.heap = h) (hc : cells + rm.cells ≤ R.cells) (hs : slots + rm.slots ≤ R.slots) :
    ∃ (v : Option Value) (T' : State) (L : List Loc), Stand p l e R (s.setVm T'.vm) m args below meth c T' (locs ++ L) (cells + rm.cells) (slots + rm.slots) ∧ s.Since T'.vm T'.heap.size ∧ Z.Warmed39 (s.setVm T'.vm).vm ∧ (s.setVm T'.vm).vm.findClass own = some m.cls ∧ Q v T'.heap L ∧ ∀ F, own_Wp p e below F T' (mkF m (pc + 3) Ls (v.toList ++ rest)) → own_Wp p e below F T (mkF m pc Ls (argsL.reverse ++ rest)) := by
  obtain ⟨v, _, ⟨T1, L1, k1, n1⟩, -, X1, hS1, hg1, ⟨Lc, hQ, l1, y1, z1⟩, st⟩ := callSS X hx (y := y) hown (mvT hZ w1) (mvT hZ w2) (mvT hZ w3) (mvT hZ w4) hy (backOfS (W := W) hM hZ w4 w3 hf hl) (g := mkF m pc Ls (argsL.reverse ++ rest)) rfl hsz (argsL := argsL) (rest := rest) hlen rfl (by show 2 * 0 + _ ≤ _; omega) hd (fun _ _ => ⟨ha, eT, hc, hs⟩)
  dsimp only [Pt.U, Pt.locs, Pt.cells, Pt.slots] at X1 l1 y1 z1 st hQ hS1 hg1
  subst l1 y1 z1
  have hk' : k0 ≤ T.heap.size := by rw [eT]; exact hk
  obtain ⟨X2, hS2, hZ2, ho2⟩ := rebS hS hk' X1 hS1 hg1 hZ hown
  exact ⟨v, T1, Lc, X2, hS2, hZ2, ho2, hQ, fun F k => own_step (fun _ q => st.trans q) k⟩
theorem own_callVW (X : Stand p l e R (s.setVm vm0) m args below meth c T locs cells slots) (hx : p.tables.exec = Jvm.exec) (hZ : Z.Warmed39 (s.setVm vm0).vm) (hS : s.Since vm0 k0) (hk : k0 ≤ h.size) {own C : String} {index : Nat} {y z : MethodName} {bytes : ByteArray} {maxL W : Nat} {ret : Option FieldType} {rm : Room} {as' : Array Value} {b : Addr}
    (hown : (s.setVm vm0).vm.findClass own = some m.cls) (w1 : (Cond.methodLink own index y).before a0 Z = true) (w2 : (Cond.declares y).before a0 Z = true) (hnf : NotFace (s.setVm vm0) y) (w3 : (Cond.selects C y z).before a0 Z = true) (w5 : (Cond.instanceMethod z).before a0 Z = true) (w6 : (Cond.initialized z.cls).before a0 Z = true) (w4 : (Cond.code z bytes maxL ret).before a0 Z = true) (hy : y.cls ≠ "java/lang/invoke/MethodHandle" ∧ y.cls ≠ "java/lang/invoke/VarHandle") (E : Exa Z h b C)
    (hM : own_MetW l Z z (Cond.code z bytes maxL ret) [] rm as' h Q) (hf : rm.frames + 1 ≤ R.frames) (hl : W + (maxL + 11) + rm.locals ≤ R.locals) (argsL : List Value) (ha : (.ref b :: argsL).toArray = as') (hlen : ∀ sig, parseMethodDescriptor y.desc = some sig → argsL.length = sig.parameters.length)
    (hsz : Ls.size = c.maxLocals) (hW : (rest.map fun v => v.category).sum ≤ W) (hd : decode c.code pc = .ok (.invokevirtual index, 3)) (eT : T.heap = h) (hc : cells + rm.cells ≤ R.cells) (hs : slots + rm.slots ≤ R.slots) :
    ∃ (v : Option Value) (T' : State) (L : List Loc), Stand p l e R (s.setVm T'.vm) m args below meth c T' (locs ++ L) (cells + rm.cells) (slots + rm.slots) ∧ s.Since T'.vm T'.heap.size ∧ Z.Warmed39 (s.setVm T'.vm).vm ∧ (s.setVm T'.vm).vm.findClass own = some m.cls ∧ Q v T'.heap L ∧ ∀ F, own_Wp p e below F T' (mkF m (pc + 3) Ls (v.toList ++ rest)) → own_Wp p e below F T (mkF m pc Ls (argsL.reverse ++ .ref b :: rest)) := by
  obtain ⟨cq, kq, qa, qb, qc⟩ := isOf hZ eT E
  obtain ⟨v, _, ⟨T1, L1, k1, n1⟩, -, X1, hS1, hg1, ⟨Lc, hQ, l1, y1, z1⟩, st⟩ := X.virtualBackS hx (y := y) (z := z) hown (mvT hZ w1) (mvT hZ w2) hnf (mvT hZ w3) (mvT hZ w5) hy (backOfS (W := W) hM hZ w4 w6 hf hl) qa qc (g := mkF m pc Ls (argsL.reverse ++ .ref b :: rest)) rfl hsz (Steps.refl _) (argsL := argsL) (rest := rest) hlen rfl (by show 2 * 0 + _ ≤ _; omega) hd (fun _ _ => ⟨ha, eT, hc, hs⟩)
  dsimp only [Pt.U, Pt.locs, Pt.cells, Pt.slots] at X1 l1 y1 z1 st hQ hS1 hg1
  subst l1 y1 z1
  have hk' : k0 ≤ T.heap.size := by rw [eT]; exact hk
  obtain ⟨X2, hS2, hZ2, ho2⟩ := rebS hS hk' X1 hS1 hg1 hZ hown
  exact ⟨v, T1, Lc, X2, hS2, hZ2, ho2, hQ, fun F k => own_step (fun _ q => st.trans q) k⟩
theorem own_callNW (X : Stand p l e R (s.setVm vm0) m args below meth c T locs cells slots) (hx : p.tables.exec = Jvm.exec) (hZ : Z.Warmed39 (s.setVm vm0).vm) (hS : s.Since vm0 k0) (hk : k0 ≤ h.size) {own : String} {index : Nat} {y : MethodName} {bytes : ByteArray} {maxL W : Nat} {rm : Room} {as' : Array Value} {b : Addr}
    (hn : y.name = "<init>") (hown : (s.setVm vm0).vm.findClass own = some m.cls) (w1 : (Cond.methodLink own index y).before a0 Z = true) (w5 : (Cond.instanceMethod y).before a0 Z = true) (w6 : (Cond.initialized y.cls).before a0 Z = true) (w4 : (Cond.code y bytes maxL none).before a0 Z = true) (hy : y.cls ≠ "java/lang/invoke/MethodHandle" ∧ y.cls ≠ "java/lang/invoke/VarHandle")
    (hM : own_MetW l Z y (Cond.code y bytes maxL none) [] rm as' h Q) (hf : rm.frames + 1 ≤ R.frames) (hl : W + (maxL + 11) + rm.locals ≤ R.locals) (argsL : List Value) (ha : (.ref b :: argsL).toArray = as') (hlen : ∀ sig, parseMethodDescriptor y.desc = some sig → argsL.length = sig.parameters.length)
    (hsz : Ls.size = c.maxLocals) (hW : (rest.map fun v => v.category).sum ≤ W) (hd : decode c.code pc = .ok (.invokespecial index, 3)) (eT : T.heap = h) (hc : cells + rm.cells ≤ R.cells) (hs : slots + rm.slots ≤ R.slots) :
    ∃ (v : Option Value) (T' : State) (L : List Loc), Stand p l e R (s.setVm T'.vm) m args below meth c T' (locs ++ L) (cells + rm.cells) (slots + rm.slots) ∧ s.Since T'.vm T'.heap.size ∧ Z.Warmed39 (s.setVm T'.vm).vm ∧ (s.setVm T'.vm).vm.findClass own = some m.cls ∧ Q v T'.heap L ∧ ∀ F, own_Wp p e below F T' (mkF m (pc + 3) Ls (v.toList ++ rest)) → own_Wp p e below F T (mkF m pc Ls (argsL.reverse ++ .ref b :: rest)) := by
  obtain ⟨v, _, ⟨T1, L1, k1, n1⟩, -, X1, hS1, hg1, ⟨Lc, hQ, l1, y1, z1⟩, st⟩ := X.specialBackS hx (y := y) hn hown (mvT hZ w1) (mvT hZ w5) (mvT hZ w4) hy (backOfS (W := W) hM hZ w4 w6 hf hl) (g := mkF m pc Ls (argsL.reverse ++ .ref b :: rest)) rfl hsz (Steps.refl _) (a := b) (argsL := argsL) (rest := rest) hlen rfl (by show 2 * 0 + _ ≤ _; omega) hd (fun _ _ => ⟨ha, eT, hc, hs⟩)
  dsimp only [Pt.U, Pt.locs, Pt.cells, Pt.slots] at X1 l1 y1 z1 st hQ hS1 hg1
  subst l1 y1 z1
  have hk' : k0 ≤ T.heap.size := by rw [eT]; exact hk
  obtain ⟨X2, hS2, hZ2, ho2⟩ := rebS hS hk' X1 hS1 hg1 hZ hown
  exact ⟨v, T1, Lc, X2, hS2, hZ2, ho2, hQ, fun F k => own_step (fun _ q => st.trans q) k⟩
end OwnWide
theorem own_satoms : ∀ d ∈ Bundle.stringAtoms, d ∈ tables_1 := by decide +kernel
theorem own_and3 (x : Int32) : (x &&& (3 : Int32)) = (0 : Int32) ∨ (x &&& (3 : Int32)) = (1 : Int32) ∨ (x &&& (3 : Int32)) = (2 : Int32) ∨ (x &&& (3 : Int32)) = (3 : Int32) := by
  have h := Jvm.Kit.i32_and_bounds x (m := (3 : Int32)) (by decide)
  generalize (x &&& (3 : Int32)) = y at h ⊢
  simp only [Int32.le_iff_toInt_le] at h
  have e : (3 : Int32).toInt = 3 := rfl
  have e0 : (0 : Int32).toInt = 0 := rfl
  rw [e, e0] at h
  simp only [← Int32.toInt_inj]
  show y.toInt = 0 ∨ y.toInt = 1 ∨ y.toInt = 2 ∨ y.toInt = 3
  omega
theorem own_pos {x : Int32} (h : ¬ ((x &&& (2147483647 : Int32)) = (0 : Int32))) : ¬ ((x &&& (2147483647 : Int32)) < (1 : Int32)) := by
  have g := (Jvm.Kit.i32_and_bounds x (m := (2147483647 : Int32)) (by decide)).1
  generalize (x &&& (2147483647 : Int32)) = y at h g ⊢
  rw [← Int32.toInt_inj] at h
  rw [Int32.le_iff_toInt_le] at g
  rw [Int32.lt_iff_toInt_lt]
  have e0 : (0 : Int32).toInt = 0 := rfl
  have e1 : (1 : Int32).toInt = 1 := rfl
  rw [e0] at h g
  rw [e1]
  omega
def w0_SEARCH_CLUSTER (Z : State) : Addr := own_t Z (Jvm.Term.static "com/example/meter_to_month/metertomonth/ledger/ResourceKind" "SEARCH_CLUSTER" "Lcom/example/meter_to_month/metertomonth/ledger/ResourceKind;")
theorem ev_w0_SEARCH_CLUSTER {Z : State} {a0 : Array Value} (hw : ∀ d ∈ tables_1, d.before a0 Z = true) (hA : ∀ d ∈ own_flat narrow_1, d.value a0 Z none Z [] = some true) : (Jvm.Term.static "com/example/meter_to_month/metertomonth/ledger/ResourceKind" "SEARCH_CLUSTER" "Lcom/example/meter_to_month/metertomonth/ledger/ResourceKind;").eval a0 Z none [] Z = some (.ref (w0_SEARCH_CLUSTER Z)) := own_ev (hA _ (List.mem_of_getElem? (i := 0) rfl)) rfl
def w1_YEAR (Z : State) : Addr := own_t Z (Jvm.Term.static "com/example/meter_to_month/metertomonth/ledger/BillingPeriod$Unit" "YEAR" "Lcom/example/meter_to_month/metertomonth/ledger/BillingPeriod$Unit;")
theorem ev_w1_YEAR {Z : State} {a0 : Array Value} (hw : ∀ d ∈ tables_1, d.before a0 Z = true) (hA : ∀ d ∈ own_flat narrow_1, d.value a0 Z none Z [] = some true) : (Jvm.Term.static "com/example/meter_to_month/metertomonth/ledger/BillingPeriod$Unit" "YEAR" "Lcom/example/meter_to_month/metertomonth/ledger/BillingPeriod$Unit;").eval a0 Z none [] Z = some (.ref (w1_YEAR Z)) := own_ev (hA _ (List.mem_of_getElem? (i := 1) rfl)) rfl
def w2_DATABASE_INSTANCE (Z : State) : Addr := own_t Z (Jvm.Term.static "com/example/meter_to_month/metertomonth/ledger/ResourceKind" "DATABASE_INSTANCE" "Lcom/example/meter_to_month/metertomonth/ledger/ResourceKind;")
theorem ev_w2_DATABASE_INSTANCE {Z : State} {a0 : Array Value} (hw : ∀ d ∈ tables_1, d.before a0 Z = true) (hA : ∀ d ∈ own_flat narrow_1, d.value a0 Z none Z [] = some true) : (Jvm.Term.static "com/example/meter_to_month/metertomonth/ledger/ResourceKind" "DATABASE_INSTANCE" "Lcom/example/meter_to_month/metertomonth/ledger/ResourceKind;").eval a0 Z none [] Z = some (.ref (w2_DATABASE_INSTANCE Z)) := own_ev (hA _ (List.mem_of_getElem? (i := 3) rfl)) rfl
def w3_MONTH (Z : State) : Addr := own_t Z (Jvm.Term.static "com/example/meter_to_month/metertomonth/ledger/BillingPeriod$Unit" "MONTH" "Lcom/example/meter_to_month/metertomonth/ledger/BillingPeriod$Unit;")
theorem ev_w3_MONTH {Z : State} {a0 : Array Value} (hw : ∀ d ∈ tables_1, d.before a0 Z = true) (hA : ∀ d ∈ own_flat narrow_1, d.value a0 Z none Z [] = some true) : (Jvm.Term.static "com/example/meter_to_month/metertomonth/ledger/BillingPeriod$Unit" "MONTH" "Lcom/example/meter_to_month/metertomonth/ledger/BillingPeriod$Unit;").eval a0 Z none [] Z = some (.ref (w3_MONTH Z)) := own_ev (hA _ (List.mem_of_getElem? (i := 4) rfl)) rfl
def w4_BACKUP_VAULT (Z : State) : Addr := own_t Z (Jvm.Term.static "com/example/meter_to_month/metertomonth/ledger/ResourceKind" "BACKUP_VAULT" "Lcom/example/meter_to_month/metertomonth/ledger/ResourceKind;")
theorem ev_w4_BACKUP_VAULT {Z : State} {a0 : Array Value} (hw : ∀ d ∈ tables_1, d.before a0 Z = true) (hA : ∀ d ∈ own_flat narrow_1, d.value a0 Z none Z [] = some true) : (Jvm.Term.static "com/example/meter_to_month/metertomonth/ledger/ResourceKind" "BACKUP_VAULT" "Lcom/example/meter_to_month/metertomonth/ledger/ResourceKind;").eval a0 Z none [] Z = some (.ref (w4_BACKUP_VAULT Z)) := own_ev (hA _ (List.mem_of_getElem? (i := 6) rfl)) rfl
def w5_ELASTIC_IP (Z : State) : Addr := own_t Z (Jvm.Term.static "com/example/meter_to_month/metertomonth/ledger/ResourceKind" "ELASTIC_IP" "Lcom/example/meter_to_month/metertomonth/ledger/ResourceKind;")
theorem ev_w5_ELASTIC_IP {Z : State} {a0 : Array Value} (hw : ∀ d ∈ tables_1, d.before a0 Z = true) (hA : ∀ d ∈ own_flat narrow_1, d.value a0 Z none Z [] = some true) : (Jvm.Term.static "com/example/meter_to_month/metertomonth/ledger/ResourceKind" "ELASTIC_IP" "Lcom/example/meter_to_month/metertomonth/ledger/ResourceKind;").eval a0 Z none [] Z = some (.ref (w5_ELASTIC_IP Z)) := own_ev (hA _ (List.mem_of_getElem? (i := 8) rfl)) rfl
def w6_renewal (Z : State) : Addr := own_t Z (Jvm.Term.field (Jvm.Term.static "com/example/meter_to_month/metertomonth/ledger/ResourceKind" "ELASTIC_IP" "Lcom/example/meter_to_month/metertomonth/ledger/ResourceKind;") "com/example/meter_to_month/metertomonth/ledger/ResourceKind" "renewal" "Lcom/example/meter_to_month/metertomonth/ledger/BillingPeriod;")
theorem ev_w6_renewal {Z : State} {a0 : Array Value} (hw : ∀ d ∈ tables_1, d.before a0 Z = true) (hA : ∀ d ∈ own_flat narrow_1, d.value a0 Z none Z [] = some true) : (Jvm.Term.field (Jvm.Term.static "com/example/meter_to_month/metertomonth/ledger/ResourceKind" "ELASTIC_IP" "Lcom/example/meter_to_month/metertomonth/ledger/ResourceKind;") "com/example/meter_to_month/metertomonth/ledger/ResourceKind" "renewal" "Lcom/example/meter_to_month/metertomonth/ledger/BillingPeriod;").eval a0 Z none [] Z = some (.ref (w6_renewal Z)) := own_ev (hA _ (List.mem_of_getElem? (i := 9) rfl)) rfl
theorem ex_w0_SEARCH_CLUSTER {Z : State} {a0 : Array Value} (hw : ∀ d ∈ tables_1, d.before a0 Z = true) (hA : ∀ d ∈ own_flat narrow_1, d.value a0 Z none Z [] = some true) : Exa Z Z.heap (w0_SEARCH_CLUSTER Z) "com/example/meter_to_month/metertomonth/ledger/ResourceKind" := Exa.start (ev_w0_SEARCH_CLUSTER hw hA) (hA _ (List.mem_of_getElem? (i := 0) rfl))
theorem ex_w1_YEAR {Z : State} {a0 : Array Value} (hw : ∀ d ∈ tables_1, d.before a0 Z = true) (hA : ∀ d ∈ own_flat narrow_1, d.value a0 Z none Z [] = some true) : Exa Z Z.heap (w1_YEAR Z) "com/example/meter_to_month/metertomonth/ledger/BillingPeriod$Unit" := Exa.start (ev_w1_YEAR hw hA) (hA _ (List.mem_of_getElem? (i := 1) rfl))
theorem ex_w2_DATABASE_INSTANCE {Z : State} {a0 : Array Value} (hw : ∀ d ∈ tables_1, d.before a0 Z = true) (hA : ∀ d ∈ own_flat narrow_1, d.value a0 Z none Z [] = some true) : Exa Z Z.heap (w2_DATABASE_INSTANCE Z) "com/example/meter_to_month/metertomonth/ledger/ResourceKind" := Exa.start (ev_w2_DATABASE_INSTANCE hw hA) (hA _ (List.mem_of_getElem? (i := 3) rfl))
theorem ex_w3_MONTH {Z : State} {a0 : Array Value} (hw : ∀ d ∈ tables_1, d.before a0 Z = true) (hA : ∀ d ∈ own_flat narrow_1, d.value a0 Z none Z [] = some true) : Exa Z Z.heap (w3_MONTH Z) "com/example/meter_to_month/metertomonth/ledger/BillingPeriod$Unit" := Exa.start (ev_w3_MONTH hw hA) (hA _ (List.mem_of_getElem? (i := 4) rfl))
theorem ex_w4_BACKUP_VAULT {Z : State} {a0 : Array Value} (hw : ∀ d ∈ tables_1, d.before a0 Z = true) (hA : ∀ d ∈ own_flat narrow_1, d.value a0 Z none Z [] = some true) : Exa Z Z.heap (w4_BACKUP_VAULT Z) "com/example/meter_to_month/metertomonth/ledger/ResourceKind" := Exa.start (ev_w4_BACKUP_VAULT hw hA) (hA _ (List.mem_of_getElem? (i := 6) rfl))
theorem ex_w5_ELASTIC_IP {Z : State} {a0 : Array Value} (hw : ∀ d ∈ tables_1, d.before a0 Z = true) (hA : ∀ d ∈ own_flat narrow_1, d.value a0 Z none Z [] = some true) : Exa Z Z.heap (w5_ELASTIC_IP Z) "com/example/meter_to_month/metertomonth/ledger/ResourceKind" := Exa.start (ev_w5_ELASTIC_IP hw hA) (hA _ (List.mem_of_getElem? (i := 8) rfl))
theorem ex_w6_renewal {Z : State} {a0 : Array Value} (hw : ∀ d ∈ tables_1, d.before a0 Z = true) (hA : ∀ d ∈ own_flat narrow_1, d.value a0 Z none Z [] = some true) : Exa Z Z.heap (w6_renewal Z) "com/example/meter_to_month/metertomonth/ledger/BillingPeriod" := Exa.start (ev_w6_renewal hw hA) (hA _ (List.mem_of_getElem? (i := 9) rfl))
theorem st_w0_SEARCH_CLUSTER {Z : State} {a0 : Array Value} (hw : ∀ d ∈ tables_1, d.before a0 Z = true) (hA : ∀ d ∈ own_flat narrow_1, d.value a0 Z none Z [] = some true) : Sta Z Z.heap "com/example/meter_to_month/metertomonth/ledger/ResourceKind" "SEARCH_CLUSTER" "Lcom/example/meter_to_month/metertomonth/ledger/ResourceKind;" (.ref (w0_SEARCH_CLUSTER Z)) := Sta.start (ev_w0_SEARCH_CLUSTER hw hA) (Or.inr ⟨(hw _ (List.mem_of_getElem? (i := 5) rfl)), (hw _ (List.mem_of_getElem? (i := 6) rfl))⟩)
theorem st_w1_YEAR {Z : State} {a0 : Array Value} (hw : ∀ d ∈ tables_1, d.before a0 Z = true) (hA : ∀ d ∈ own_flat narrow_1, d.value a0 Z none Z [] = some true) : Sta Z Z.heap "com/example/meter_to_month/metertomonth/ledger/BillingPeriod$Unit" "YEAR" "Lcom/example/meter_to_month/metertomonth/ledger/BillingPeriod$Unit;" (.ref (w1_YEAR Z)) := Sta.start (ev_w1_YEAR hw hA) (Or.inr ⟨(hw _ (List.mem_of_getElem? (i := 8) rfl)), (hw _ (List.mem_of_getElem? (i := 9) rfl))⟩)
theorem st_w2_DATABASE_INSTANCE {Z : State} {a0 : Array Value} (hw : ∀ d ∈ tables_1, d.before a0 Z = true) (hA : ∀ d ∈ own_flat narrow_1, d.value a0 Z none Z [] = some true) : Sta Z Z.heap "com/example/meter_to_month/metertomonth/ledger/ResourceKind" "DATABASE_INSTANCE" "Lcom/example/meter_to_month/metertomonth/ledger/ResourceKind;" (.ref (w2_DATABASE_INSTANCE Z)) := Sta.start (ev_w2_DATABASE_INSTANCE hw hA) (Or.inr ⟨(hw _ (List.mem_of_getElem? (i := 5) rfl)), (hw _ (List.mem_of_getElem? (i := 59) rfl))⟩)
theorem st_w3_MONTH {Z : State} {a0 : Array Value} (hw : ∀ d ∈ tables_1, d.before a0 Z = true) (hA : ∀ d ∈ own_flat narrow_1, d.value a0 Z none Z [] = some true) : Sta Z Z.heap "com/example/meter_to_month/metertomonth/ledger/BillingPeriod$Unit" "MONTH" "Lcom/example/meter_to_month/metertomonth/ledger/BillingPeriod$Unit;" (.ref (w3_MONTH Z)) := Sta.start (ev_w3_MONTH hw hA) (Or.inr ⟨(hw _ (List.mem_of_getElem? (i := 8) rfl)), (hw _ (List.mem_of_getElem? (i := 61) rfl))⟩)
theorem st_w4_BACKUP_VAULT {Z : State} {a0 : Array Value} (hw : ∀ d ∈ tables_1, d.before a0 Z = true) (hA : ∀ d ∈ own_flat narrow_1, d.value a0 Z none Z [] = some true) : Sta Z Z.heap "com/example/meter_to_month/metertomonth/ledger/ResourceKind" "BACKUP_VAULT" "Lcom/example/meter_to_month/metertomonth/ledger/ResourceKind;" (.ref (w4_BACKUP_VAULT Z)) := Sta.start (ev_w4_BACKUP_VAULT hw hA) (Or.inr ⟨(hw _ (List.mem_of_getElem? (i := 5) rfl)), (hw _ (List.mem_of_getElem? (i := 63) rfl))⟩)
theorem st_w5_ELASTIC_IP {Z : State} {a0 : Array Value} (hw : ∀ d ∈ tables_1, d.before a0 Z = true) (hA : ∀ d ∈ own_flat narrow_1, d.value a0 Z none Z [] = some true) : Sta Z Z.heap "com/example/meter_to_month/metertomonth/ledger/ResourceKind" "ELASTIC_IP" "Lcom/example/meter_to_month/metertomonth/ledger/ResourceKind;" (.ref (w5_ELASTIC_IP Z)) := Sta.start (ev_w5_ELASTIC_IP hw hA) (Or.inr ⟨(hw _ (List.mem_of_getElem? (i := 5) rfl)), (hw _ (List.mem_of_getElem? (i := 65) rfl))⟩)
theorem fl0 {Z : State} {a0 : Array Value} (hw : ∀ d ∈ tables_1, d.before a0 Z = true) (hA : ∀ d ∈ own_flat narrow_1, d.value a0 Z none Z [] = some true) : Fld Z Z.heap (w0_SEARCH_CLUSTER Z) "com/example/meter_to_month/metertomonth/ledger/ResourceKind" "renewal" "Lcom/example/meter_to_month/metertomonth/ledger/BillingPeriod;" .null := own_fld (ev_w0_SEARCH_CLUSTER hw hA) (null_v (hA _ (List.mem_of_getElem? (i := 2) rfl)))
theorem fl1 {Z : State} {a0 : Array Value} (hw : ∀ d ∈ tables_1, d.before a0 Z = true) (hA : ∀ d ∈ own_flat narrow_1, d.value a0 Z none Z [] = some true) : Fld Z Z.heap (w2_DATABASE_INSTANCE Z) "com/example/meter_to_month/metertomonth/ledger/ResourceKind" "renewal" "Lcom/example/meter_to_month/metertomonth/ledger/BillingPeriod;" .null := own_fld (ev_w2_DATABASE_INSTANCE hw hA) (null_v (hA _ (List.mem_of_getElem? (i := 5) rfl)))
theorem fl2 {Z : State} {a0 : Array Value} (hw : ∀ d ∈ tables_1, d.before a0 Z = true) (hA : ∀ d ∈ own_flat narrow_1, d.value a0 Z none Z [] = some true) : Fld Z Z.heap (w4_BACKUP_VAULT Z) "com/example/meter_to_month/metertomonth/ledger/ResourceKind" "renewal" "Lcom/example/meter_to_month/metertomonth/ledger/BillingPeriod;" .null := own_fld (ev_w4_BACKUP_VAULT hw hA) (null_v (hA _ (List.mem_of_getElem? (i := 7) rfl)))
theorem fl3 {Z : State} {a0 : Array Value} (hw : ∀ d ∈ tables_1, d.before a0 Z = true) (hA : ∀ d ∈ own_flat narrow_1, d.value a0 Z none Z [] = some true) : Fld Z Z.heap (w5_ELASTIC_IP Z) "com/example/meter_to_month/metertomonth/ledger/ResourceKind" "renewal" "Lcom/example/meter_to_month/metertomonth/ledger/BillingPeriod;" (.ref (w6_renewal Z)) := own_fld (ev_w5_ELASTIC_IP hw hA) (ev_w6_renewal hw hA)
theorem fl4 {Z : State} {a0 : Array Value} (hw : ∀ d ∈ tables_1, d.before a0 Z = true) (hA : ∀ d ∈ own_flat narrow_1, d.value a0 Z none Z [] = some true) : Fld Z Z.heap (w6_renewal Z) "com/example/meter_to_month/metertomonth/ledger/BillingPeriod" "unit" "Lcom/example/meter_to_month/metertomonth/ledger/BillingPeriod$Unit;" (.ref (w3_MONTH Z)) := own_fld (ev_w6_renewal hw hA) (own_eqR (hA _ (List.mem_of_getElem? (i := 10) rfl)) (ev_w3_MONTH hw hA))
theorem fl5 {Z : State} {a0 : Array Value} (hw : ∀ d ∈ tables_1, d.before a0 Z = true) (hA : ∀ d ∈ own_flat narrow_1, d.value a0 Z none Z [] = some true) : Fld Z Z.heap (w6_renewal Z) "com/example/meter_to_month/metertomonth/ledger/BillingPeriod" "count" "I" (.int (1 : Int32)) := own_fld (ev_w6_renewal hw hA) (own_eqI (hA _ (List.mem_of_getElem? (i := 11) rfl)))
theorem d1_0 : decode method_2_code 0 = .ok (.iload_n 0, 1) := by decide +kernel
theorem d1_1 : decode method_2_code 1 = .ok (.iconst 3, 1) := by decide +kernel
theorem d1_2 : decode method_2_code 2 = .ok (.iand, 1) := by decide +kernel
theorem d1_3 : decode method_2_code 3 = .ok (.istore_n 1, 1) := by decide +kernel
theorem d1_4 : decode method_2_code 4 = .ok (.iload_n 1, 1) := by decide +kernel
theorem d1_5 : decode method_2_code 5 = .ok (.ifCond .ne 7, 3) := by decide +kernel
theorem d1_8 : decode method_2_code 8 = .ok (.getstatic 7, 3) := by decide +kernel
theorem d1_11 : decode method_2_code 11 = .ok (.areturn, 1) := by decide +kernel
theorem d1_12 : decode method_2_code 12 = .ok (.iload_n 1, 1) := by decide +kernel
theorem d1_13 : decode method_2_code 13 = .ok (.iconst 1, 1) := by decide +kernel
theorem d1_14 : decode method_2_code 14 = .ok (.if_icmp .ne 7, 3) := by decide +kernel
theorem d1_17 : decode method_2_code 17 = .ok (.getstatic 13, 3) := by decide +kernel
theorem d1_20 : decode method_2_code 20 = .ok (.areturn, 1) := by decide +kernel
theorem d1_21 : decode method_2_code 21 = .ok (.iload_n 1, 1) := by decide +kernel
theorem d1_22 : decode method_2_code 22 = .ok (.iconst 2, 1) := by decide +kernel
theorem d1_23 : decode method_2_code 23 = .ok (.if_icmp .ne 7, 3) := by decide +kernel
theorem d1_26 : decode method_2_code 26 = .ok (.getstatic 16, 3) := by decide +kernel
theorem d1_29 : decode method_2_code 29 = .ok (.areturn, 1) := by decide +kernel
theorem d1_30 : decode method_2_code 30 = .ok (.getstatic 19, 3) := by decide +kernel
theorem d1_33 : decode method_2_code 33 = .ok (.areturn, 1) := by decide +kernel
theorem pn0 : plainName "com/example/meter_to_month/metertomonth/ledger/ResourceKindRenewalOfPinLaw" = true := by first | (simp [plainName, overriddenIn]; done) | decide +kernel
theorem pd1 : parseMethodDescriptor "(I)Lcom/example/meter_to_month/metertomonth/ledger/ResourceKind;" = some ⟨[.int], some (.object "com/example/meter_to_month/metertomonth/ledger/ResourceKind")⟩ := by decide +kernel
theorem d2_0 : decode prog_4_method_1_code 0 = .ok (.aload_n 0, 1) := by decide +kernel
theorem d2_1 : decode prog_4_method_1_code 1 = .ok (.invokespecial 1, 3) := by decide +kernel
theorem d3_0 : decode jdk_30_method_1_code 0 = .ok (.aload_n 0, 1) := by decide +kernel
theorem d3_1 : decode jdk_30_method_1_code 1 = .ok (.invokespecial 1, 3) := by decide +kernel
theorem d3_4 : decode jdk_30_method_1_code 4 = .ok (.return_, 1) := by decide +kernel
theorem pn2 : plainName "java/lang/Record" = true := by first | (simp [plainName, overriddenIn]; done) | decide +kernel
theorem pd3 : parseMethodDescriptor "()V" = some ⟨[], none⟩ := by decide +kernel
theorem d2_4 : decode prog_4_method_1_code 4 = .ok (.aload_n 1, 1) := by decide +kernel
theorem d2_5 : decode prog_4_method_1_code 5 = .ok (.ldc 7, 2) := by decide +kernel
theorem d2_7 : decode prog_4_method_1_code 7 = .ok (.invokestatic 9, 3) := by decide +kernel
theorem d5_0 : decode jdk_31_method_11_code 0 = .ok (.aload_n 0, 1) := by decide +kernel
theorem d5_1 : decode jdk_31_method_11_code 1 = .ok (.ifnonnull 12, 3) := by decide +kernel
theorem d5_13 : decode jdk_31_method_11_code 13 = .ok (.aload_n 0, 1) := by decide +kernel
theorem d5_14 : decode jdk_31_method_11_code 14 = .ok (.areturn, 1) := by decide +kernel
theorem pn4 : plainName "java/util/Objects" = true := by first | (simp [plainName, overriddenIn]; done) | decide +kernel
theorem pd5 : parseMethodDescriptor "(Ljava/lang/Object;Ljava/lang/String;)Ljava/lang/Object;" = some ⟨[(.object "java/lang/Object"), (.object "java/lang/String")], some (.object "java/lang/Object")⟩ := by decide +kernel
theorem d2_10 : decode prog_4_method_1_code 10 = .ok (.pop, 1) := by decide +kernel
theorem d2_11 : decode prog_4_method_1_code 11 = .ok (.iload_n 2, 1) := by decide +kernel
theorem d2_12 : decode prog_4_method_1_code 12 = .ok (.iconst 1, 1) := by decide +kernel
theorem d2_13 : decode prog_4_method_1_code 13 = .ok (.if_icmp .ge 21, 3) := by decide +kernel
theorem d2_34 : decode prog_4_method_1_code 34 = .ok (.aload_n 0, 1) := by decide +kernel
theorem d2_35 : decode prog_4_method_1_code 35 = .ok (.aload_n 1, 1) := by decide +kernel
theorem d2_36 : decode prog_4_method_1_code 36 = .ok (.putfield 30, 3) := by decide +kernel
theorem d2_39 : decode prog_4_method_1_code 39 = .ok (.aload_n 0, 1) := by decide +kernel
theorem d2_40 : decode prog_4_method_1_code 40 = .ok (.iload_n 2, 1) := by decide +kernel
theorem d2_41 : decode prog_4_method_1_code 41 = .ok (.putfield 35, 3) := by decide +kernel
theorem d2_44 : decode prog_4_method_1_code 44 = .ok (.return_, 1) := by decide +kernel
theorem pn6 : plainName "com/example/meter_to_month/metertomonth/ledger/BillingPeriod" = true := by first | (simp [plainName, overriddenIn]; done) | decide +kernel
theorem pd7 : parseMethodDescriptor "(Lcom/example/meter_to_month/metertomonth/ledger/BillingPeriod$Unit;I)V" = some ⟨[(.object "com/example/meter_to_month/metertomonth/ledger/BillingPeriod$Unit"), .int], none⟩ := by decide +kernel
theorem d6_0 : decode prog_15_method_7_code 0 = .ok (.aload_n 0, 1) := by decide +kernel
theorem d6_1 : decode prog_15_method_7_code 1 = .ok (.getfield 46, 3) := by decide +kernel
theorem d6_4 : decode prog_15_method_7_code 4 = .ok (.ifnonnull 7, 3) := by decide +kernel
theorem d6_7 : decode prog_15_method_7_code 7 = .ok (.aload_n 1, 1) := by decide +kernel
theorem d6_8 : decode prog_15_method_7_code 8 = .ok (.goto 7, 3) := by decide +kernel
theorem d6_15 : decode prog_15_method_7_code 15 = .ok (.areturn, 1) := by decide +kernel
theorem pn8 : plainName "com/example/meter_to_month/metertomonth/ledger/ResourceKind" = true := by first | (simp [plainName, overriddenIn]; done) | decide +kernel
theorem pd9 : parseMethodDescriptor "(Lcom/example/meter_to_month/metertomonth/ledger/BillingPeriod;)Lcom/example/meter_to_month/metertomonth/ledger/BillingPeriod;" = some ⟨[(.object "com/example/meter_to_month/metertomonth/ledger/BillingPeriod")], some (.object "com/example/meter_to_month/metertomonth/ledger/BillingPeriod")⟩ := by decide +kernel
theorem d7_0 : decode prog_4_method_6_code 0 = .ok (.aload_n 0, 1) := by decide +kernel
theorem d7_1 : decode prog_4_method_6_code 1 = .ok (.getfield 30, 3) := by decide +kernel
theorem d7_4 : decode prog_4_method_6_code 4 = .ok (.areturn, 1) := by decide +kernel
theorem pd10 : parseMethodDescriptor "()Lcom/example/meter_to_month/metertomonth/ledger/BillingPeriod$Unit;" = some ⟨[], some (.object "com/example/meter_to_month/metertomonth/ledger/BillingPeriod$Unit")⟩ := by decide +kernel
theorem d8_0 : decode prog_4_method_7_code 0 = .ok (.aload_n 0, 1) := by decide +kernel
theorem d8_1 : decode prog_4_method_7_code 1 = .ok (.getfield 35, 3) := by decide +kernel
theorem d8_4 : decode prog_4_method_7_code 4 = .ok (.ireturn, 1) := by decide +kernel
theorem pd11 : parseMethodDescriptor "()I" = some ⟨[], some .int⟩ := by decide +kernel
theorem d6_11 : decode prog_15_method_7_code 11 = .ok (.aload_n 0, 1) := by decide +kernel
theorem d6_12 : decode prog_15_method_7_code 12 = .ok (.getfield 46, 3) := by decide +kernel
set_option maxRecDepth 65536 in
set_option maxHeartbeats 40000000 in
theorem rm1_0 (l : Launch) (Z : State) (a0 : Array Value) (hw : ∀ d ∈ tables_1, d.before a0 Z = true) (hA : ∀ d ∈ own_flat narrow_1, d.value a0 Z none Z [] = some true) (ws : List Jvm.Cond) (i1 : Int32) (h0 : Heap) (n0 : Nat) (O0 : Old Z n0 h0) :
    own_Met l Z (⟨"com/example/meter_to_month/metertomonth/ledger/ResourceKindRenewalOfPinLaw", "kindOf", "(I)Lcom/example/meter_to_month/metertomonth/ledger/ResourceKind;"⟩ : MethodName) (Jvm.Cond.code (⟨"com/example/meter_to_month/metertomonth/ledger/ResourceKindRenewalOfPinLaw", "kindOf", "(I)Lcom/example/meter_to_month/metertomonth/ledger/ResourceKind;"⟩ : MethodName) method_2_code 2 (some (.object "com/example/meter_to_month/metertomonth/ledger/ResourceKind"))) ws ({ frames := 0, cells := 0, slots := 0, locals := 0 } : Room) #[(.int i1)] h0 (fun v h L => ((i1 &&& (3 : Int32)) = (0 : Int32) ∧ v = some (.ref (w0_SEARCH_CLUSTER Z)) ∧ Fr n0 L ∧ h = h0) ∨ ((i1 &&& (3 : Int32)) = (1 : Int32) ∧ v = some (.ref (w2_DATABASE_INSTANCE Z)) ∧ Fr n0 L ∧ h = h0) ∨ ((i1 &&& (3 : Int32)) = (2 : Int32) ∧ v = some (.ref (w5_ELASTIC_IP Z)) ∧ Fr n0 L ∧ h = h0) ∨ ((i1 &&& (3 : Int32)) = (3 : Int32) ∧ v = some (.ref (w4_BACKUP_VAULT Z)) ∧ Fr n0 L ∧ h = h0)) := by
  refine own_met (own := "com/example/meter_to_month/metertomonth/ledger/ResourceKindRenewalOfPinLaw") (plainFor_of_name pn0) rfl ?_
  intro p e s m below meth c s₁ hx hby hml hown hnm hret hlk hZ e0 X0
  refine own_cast (g' := (mkF m 0 #[.val (.int i1), .unset] [])) (by first | (simp [entryFrame, mkF, argsToLocals, Value.category]; done) | rfl) ?_
  refine own_step (fun _ k => XS.iloadN X0.here hx rfl (hb hby d1_0) rfl k) ?_
  show own_Wp p e below _ s₁ (mkF m 1 #[.val (.int i1), .unset] [(.int i1)])
  refine own_step (fun _ k => XS.iconst X0.here hx rfl (hb hby d1_1) k) ?_
  show own_Wp p e below _ s₁ (mkF m 2 #[.val (.int i1), .unset] [(.int (3 : Int32)), (.int i1)])
  refine own_step (fun _ k => XS.iand X0.here hx rfl (hb hby d1_2) rfl k) ?_
  show own_Wp p e below _ s₁ (mkF m 3 #[.val (.int i1), .unset] [(.int (i1 &&& (3 : Int32)))])
  rcases own_and3 i1 with hm1 | hm1 | hm1 | hm1
  · skip
    refine own_cast (g' := (mkF m 3 #[.val (.int i1), .unset] [(.int (0 : Int32))])) (by rw [hm1]) ?_
    show own_Wp p e below _ s₁ (mkF m 3 #[.val (.int i1), .unset] [(.int (0 : Int32))])
    refine own_step (fun _ k => XS.istoreN X0.here hx rfl (hb hby d1_3) rfl (l' := #[.val (.int i1), .val (.int (0 : Int32))]) rfl k) ?_
    show own_Wp p e below _ s₁ (mkF m 4 #[.val (.int i1), .val (.int (0 : Int32))] [])
    refine own_step (fun _ k => XS.iloadN X0.here hx rfl (hb hby d1_4) rfl k) ?_
    show own_Wp p e below _ s₁ (mkF m 5 #[.val (.int i1), .val (.int (0 : Int32))] [(.int (0 : Int32))])
    refine own_step (fun _ k => XS.ifNo X0.here hx rfl (hb hby d1_5) rfl (by decide) k) ?_
    show own_Wp p e below _ s₁ (mkF m 8 #[.val (.int i1), .val (.int (0 : Int32))] [])
    obtain ⟨T2, X2, e2, st2⟩ := getS2 X0 hx hZ hown (host := "") (Or.inl (hw _ (List.mem_of_getElem? (i := 4) rfl))) Via.refl e0 ((st_w0_SEARCH_CLUSTER hw hA).ext O0.2) (g := (mkF m 8 #[.val (.int i1), .val (.int (0 : Int32))] [])) rfl (hb hby d1_8)
    refine own_step st2 ?_
    show own_Wp p e below _ T2 (mkF m 11 #[.val (.int i1), .val (.int (0 : Int32))] [(.ref (w0_SEARCH_CLUSTER Z))])
    exact own_retA X2 hx hret rfl rfl hlk (hb hby d1_11) (by decide) (by decide) (by rw [e2]; exact Or.inl ⟨hm1, rfl, (Fr.nil n0), rfl⟩)
  · skip
    refine own_cast (g' := (mkF m 3 #[.val (.int i1), .unset] [(.int (1 : Int32))])) (by rw [hm1]) ?_
    show own_Wp p e below _ s₁ (mkF m 3 #[.val (.int i1), .unset] [(.int (1 : Int32))])
    refine own_step (fun _ k => XS.istoreN X0.here hx rfl (hb hby d1_3) rfl (l' := #[.val (.int i1), .val (.int (1 : Int32))]) rfl k) ?_
    show own_Wp p e below _ s₁ (mkF m 4 #[.val (.int i1), .val (.int (1 : Int32))] [])
    refine own_step (fun _ k => XS.iloadN X0.here hx rfl (hb hby d1_4) rfl k) ?_
    show own_Wp p e below _ s₁ (mkF m 5 #[.val (.int i1), .val (.int (1 : Int32))] [(.int (1 : Int32))])
    refine own_step (fun _ k => XS.ifYes X0.here hx rfl (pc0 := 5) (pc' := 12) rfl (hb hby d1_5) rfl (by decide) (by decide) (by decide) k) ?_
    show own_Wp p e below _ s₁ (mkF m 12 #[.val (.int i1), .val (.int (1 : Int32))] [])
    refine own_step (fun _ k => XS.iloadN X0.here hx rfl (hb hby d1_12) rfl k) ?_
    show own_Wp p e below _ s₁ (mkF m 13 #[.val (.int i1), .val (.int (1 : Int32))] [(.int (1 : Int32))])
    refine own_step (fun _ k => XS.iconst X0.here hx rfl (hb hby d1_13) k) ?_
    show own_Wp p e below _ s₁ (mkF m 14 #[.val (.int i1), .val (.int (1 : Int32))] [(.int (1 : Int32)), (.int (1 : Int32))])
    refine own_step (fun _ k => XS.icmpNo X0.here hx rfl (hb hby d1_14) rfl (by decide) k) ?_
    show own_Wp p e below _ s₁ (mkF m 17 #[.val (.int i1), .val (.int (1 : Int32))] [])
    obtain ⟨T3, X3, e3, st3⟩ := getS2 X0 hx hZ hown (host := "") (Or.inl (hw _ (List.mem_of_getElem? (i := 58) rfl))) Via.refl e0 ((st_w2_DATABASE_INSTANCE hw hA).ext O0.2) (g := (mkF m 17 #[.val (.int i1), .val (.int (1 : Int32))] [])) rfl (hb hby d1_17)
    refine own_step st3 ?_
    show own_Wp p e below _ T3 (mkF m 20 #[.val (.int i1), .val (.int (1 : Int32))] [(.ref (w2_DATABASE_INSTANCE Z))])
    exact own_retA X3 hx hret rfl rfl hlk (hb hby d1_20) (by decide) (by decide) (by rw [e3]; exact Or.inr (Or.inl ⟨hm1, rfl, (Fr.nil n0), rfl⟩))
  · skip
    refine own_cast (g' := (mkF m 3 #[.val (.int i1), .unset] [(.int (2 : Int32))])) (by rw [hm1]) ?_
    show own_Wp p e below _ s₁ (mkF m 3 #[.val (.int i1), .unset] [(.int (2 : Int32))])
    refine own_step (fun _ k => XS.istoreN X0.here hx rfl (hb hby d1_3) rfl (l' := #[.val (.int i1), .val (.int (2 : Int32))]) rfl k) ?_
    show own_Wp p e below _ s₁ (mkF m 4 #[.val (.int i1), .val (.int (2 : Int32))] [])
    refine own_step (fun _ k => XS.iloadN X0.here hx rfl (hb hby d1_4) rfl k) ?_
    show own_Wp p e below _ s₁ (mkF m 5 #[.val (.int i1), .val (.int (2 : Int32))] [(.int (2 : Int32))])
    refine own_step (fun _ k => XS.ifYes X0.here hx rfl (pc0 := 5) (pc' := 12) rfl (hb hby d1_5) rfl (by decide) (by decide) (by decide) k) ?_
    show own_Wp p e below _ s₁ (mkF m 12 #[.val (.int i1), .val (.int (2 : Int32))] [])
    refine own_step (fun _ k => XS.iloadN X0.here hx rfl (hb hby d1_12) rfl k) ?_
    show own_Wp p e below _ s₁ (mkF m 13 #[.val (.int i1), .val (.int (2 : Int32))] [(.int (2 : Int32))])
    refine own_step (fun _ k => XS.iconst X0.here hx rfl (hb hby d1_13) k) ?_
    show own_Wp p e below _ s₁ (mkF m 14 #[.val (.int i1), .val (.int (2 : Int32))] [(.int (1 : Int32)), (.int (2 : Int32))])
    refine own_step (fun _ k => XS.icmpYes X0.here hx rfl (pc0 := 14) (pc' := 21) rfl (hb hby d1_14) rfl (by decide) (by decide) (by decide) k) ?_
    show own_Wp p e below _ s₁ (mkF m 21 #[.val (.int i1), .val (.int (2 : Int32))] [])
    refine own_step (fun _ k => XS.iloadN X0.here hx rfl (hb hby d1_21) rfl k) ?_
    show own_Wp p e below _ s₁ (mkF m 22 #[.val (.int i1), .val (.int (2 : Int32))] [(.int (2 : Int32))])
    refine own_step (fun _ k => XS.iconst X0.here hx rfl (hb hby d1_22) k) ?_
    show own_Wp p e below _ s₁ (mkF m 23 #[.val (.int i1), .val (.int (2 : Int32))] [(.int (2 : Int32)), (.int (2 : Int32))])
    refine own_step (fun _ k => XS.icmpNo X0.here hx rfl (hb hby d1_23) rfl (by decide) k) ?_
    show own_Wp p e below _ s₁ (mkF m 26 #[.val (.int i1), .val (.int (2 : Int32))] [])
    obtain ⟨T4, X4, e4, st4⟩ := getS2 X0 hx hZ hown (host := "") (Or.inl (hw _ (List.mem_of_getElem? (i := 64) rfl))) Via.refl e0 ((st_w5_ELASTIC_IP hw hA).ext O0.2) (g := (mkF m 26 #[.val (.int i1), .val (.int (2 : Int32))] [])) rfl (hb hby d1_26)
    refine own_step st4 ?_
    show own_Wp p e below _ T4 (mkF m 29 #[.val (.int i1), .val (.int (2 : Int32))] [(.ref (w5_ELASTIC_IP Z))])
    exact own_retA X4 hx hret rfl rfl hlk (hb hby d1_29) (by decide) (by decide) (by rw [e4]; exact Or.inr (Or.inr (Or.inl ⟨hm1, rfl, (Fr.nil n0), rfl⟩)))
  · skip
    refine own_cast (g' := (mkF m 3 #[.val (.int i1), .unset] [(.int (3 : Int32))])) (by rw [hm1]) ?_
    show own_Wp p e below _ s₁ (mkF m 3 #[.val (.int i1), .unset] [(.int (3 : Int32))])
    refine own_step (fun _ k => XS.istoreN X0.here hx rfl (hb hby d1_3) rfl (l' := #[.val (.int i1), .val (.int (3 : Int32))]) rfl k) ?_
    show own_Wp p e below _ s₁ (mkF m 4 #[.val (.int i1), .val (.int (3 : Int32))] [])
    refine own_step (fun _ k => XS.iloadN X0.here hx rfl (hb hby d1_4) rfl k) ?_
    show own_Wp p e below _ s₁ (mkF m 5 #[.val (.int i1), .val (.int (3 : Int32))] [(.int (3 : Int32))])
    refine own_step (fun _ k => XS.ifYes X0.here hx rfl (pc0 := 5) (pc' := 12) rfl (hb hby d1_5) rfl (by decide) (by decide) (by decide) k) ?_
    show own_Wp p e below _ s₁ (mkF m 12 #[.val (.int i1), .val (.int (3 : Int32))] [])
    refine own_step (fun _ k => XS.iloadN X0.here hx rfl (hb hby d1_12) rfl k) ?_
    show own_Wp p e below _ s₁ (mkF m 13 #[.val (.int i1), .val (.int (3 : Int32))] [(.int (3 : Int32))])
    refine own_step (fun _ k => XS.iconst X0.here hx rfl (hb hby d1_13) k) ?_
    show own_Wp p e below _ s₁ (mkF m 14 #[.val (.int i1), .val (.int (3 : Int32))] [(.int (1 : Int32)), (.int (3 : Int32))])
    refine own_step (fun _ k => XS.icmpYes X0.here hx rfl (pc0 := 14) (pc' := 21) rfl (hb hby d1_14) rfl (by decide) (by decide) (by decide) k) ?_
    show own_Wp p e below _ s₁ (mkF m 21 #[.val (.int i1), .val (.int (3 : Int32))] [])
    refine own_step (fun _ k => XS.iloadN X0.here hx rfl (hb hby d1_21) rfl k) ?_
    show own_Wp p e below _ s₁ (mkF m 22 #[.val (.int i1), .val (.int (3 : Int32))] [(.int (3 : Int32))])
    refine own_step (fun _ k => XS.iconst X0.here hx rfl (hb hby d1_22) k) ?_
    show own_Wp p e below _ s₁ (mkF m 23 #[.val (.int i1), .val (.int (3 : Int32))] [(.int (2 : Int32)), (.int (3 : Int32))])
    refine own_step (fun _ k => XS.icmpYes X0.here hx rfl (pc0 := 23) (pc' := 30) rfl (hb hby d1_23) rfl (by decide) (by decide) (by decide) k) ?_
    show own_Wp p e below _ s₁ (mkF m 30 #[.val (.int i1), .val (.int (3 : Int32))] [])
    obtain ⟨T5, X5, e5, st5⟩ := getS2 X0 hx hZ hown (host := "") (Or.inl (hw _ (List.mem_of_getElem? (i := 62) rfl))) Via.refl e0 ((st_w4_BACKUP_VAULT hw hA).ext O0.2) (g := (mkF m 30 #[.val (.int i1), .val (.int (3 : Int32))] [])) rfl (hb hby d1_30)
    refine own_step st5 ?_
    show own_Wp p e below _ T5 (mkF m 33 #[.val (.int i1), .val (.int (3 : Int32))] [(.ref (w4_BACKUP_VAULT Z))])
    exact own_retA X5 hx hret rfl rfl hlk (hb hby d1_33) (by decide) (by decide) (by rw [e5]; exact Or.inr (Or.inr (Or.inr (⟨hm1, rfl, (Fr.nil n0), rfl⟩))))

set_option maxRecDepth 65536 in
set_option maxHeartbeats 40000000 in
theorem rm3_1 (l : Launch) (Z : State) (a0 : Array Value) (hw : ∀ d ∈ tables_1, d.before a0 Z = true) (hA : ∀ d ∈ own_flat narrow_1, d.value a0 Z none Z [] = some true) (ws : List Jvm.Cond) (x1 : Addr) (h0 : Heap) (n0 : Nat) (O0 : Old Z n0 h0) :
    own_Met l Z (⟨"java/lang/Record", "<init>", "()V"⟩ : MethodName) (Jvm.Cond.code (⟨"java/lang/Record", "<init>", "()V"⟩ : MethodName) jdk_30_method_1_code 1 none) ws ({ frames := 1, cells := 0, slots := 0, locals := 12 } : Room) #[(.ref x1)] h0 (fun v h L => (v = none ∧ Fr n0 L ∧ h = h0)) := by
  refine own_met (own := "java/lang/Record") (plainFor_of_name pn2) rfl ?_
  intro p e s m below meth c s₁ hx hby hml hown hnm hret hlk hZ e0 X0
  refine own_cast (g' := (mkF m 0 #[.val (.ref x1)] [])) (by first | (simp [entryFrame, mkF, argsToLocals, Value.category]; done) | rfl) ?_
  refine own_step (fun _ k => XS.aloadN X0.here hx rfl (hb hby d3_0) rfl rfl k) ?_
  show own_Wp p e below _ s₁ (mkF m 1 #[.val (.ref x1)] [(.ref x1)])
  obtain ⟨T1, X1, e1, st1⟩ := initO X0 hx hZ hown (hw _ (List.mem_of_getElem? (i := 22) rfl)) (hw _ (List.mem_of_getElem? (i := 23) rfl)) (hw _ (List.mem_of_getElem? (i := 24) rfl)) e0 (g := (mkF m 1 #[.val (.ref x1)] [(.ref x1)])) rfl (by rw [hml]; rfl) rfl (hb hby d3_1) (by decide) (W := 0) (by show 2 * 0 + _ ≤ _; exact Nat.le_of_eq rfl) (by decide)
  refine own_step st1 ?_
  show own_Wp p e below _ T1 (mkF m 4 #[.val (.ref x1)] [])
  exact own_retV X1 hx hret hlk (hb hby d3_4) (by decide) (by decide) (by rw [e1]; exact ⟨rfl, (Fr.nil n0), rfl⟩)

set_option maxRecDepth 65536 in
set_option maxHeartbeats 40000000 in
theorem rm5_2 (l : Launch) (Z : State) (a0 : Array Value) (hw : ∀ d ∈ tables_1, d.before a0 Z = true) (hA : ∀ d ∈ own_flat narrow_1, d.value a0 Z none Z [] = some true) (ws : List Jvm.Cond) (x1 : Addr) (x2 : Addr) (h0 : Heap) (n0 : Nat) (O0 : Old Z n0 h0) :
    own_Met l Z (⟨"java/util/Objects", "requireNonNull", "(Ljava/lang/Object;Ljava/lang/String;)Ljava/lang/Object;"⟩ : MethodName) (Jvm.Cond.code (⟨"java/util/Objects", "requireNonNull", "(Ljava/lang/Object;Ljava/lang/String;)Ljava/lang/Object;"⟩ : MethodName) jdk_31_method_11_code 2 (some (.object "java/lang/Object"))) ws ({ frames := 0, cells := 0, slots := 0, locals := 0 } : Room) #[(.ref x1), (.ref x2)] h0 (fun v h L => (v = some (.ref x1) ∧ Fr n0 L ∧ h = h0)) := by
  refine own_met (own := "java/util/Objects") (plainFor_of_name pn4) rfl ?_
  intro p e s m below meth c s₁ hx hby hml hown hnm hret hlk hZ e0 X0
  refine own_cast (g' := (mkF m 0 #[.val (.ref x1), .val (.ref x2)] [])) (by first | (simp [entryFrame, mkF, argsToLocals, Value.category]; done) | rfl) ?_
  refine own_step (fun _ k => XS.aloadN X0.here hx rfl (hb hby d5_0) rfl rfl k) ?_
  show own_Wp p e below _ s₁ (mkF m 1 #[.val (.ref x1), .val (.ref x2)] [(.ref x1)])
  refine own_step (fun _ k => XS.ifnonnullYes X0.here hx rfl (pc0 := 1) (pc' := 13) rfl (hb hby d5_1) rfl (by decide) (by decide) k) ?_
  show own_Wp p e below _ s₁ (mkF m 13 #[.val (.ref x1), .val (.ref x2)] [])
  refine own_step (fun _ k => XS.aloadN X0.here hx rfl (hb hby d5_13) rfl rfl k) ?_
  show own_Wp p e below _ s₁ (mkF m 14 #[.val (.ref x1), .val (.ref x2)] [(.ref x1)])
  exact own_retA X0 hx hret rfl rfl hlk (hb hby d5_14) (by decide) (by decide) (by rw [e0]; exact ⟨rfl, (Fr.nil n0), rfl⟩)

set_option maxRecDepth 65536 in
set_option maxHeartbeats 40000000 in
theorem rm2_3 (l : Launch) (Z : State) (a0 : Array Value) (hw : ∀ d ∈ tables_1, d.before a0 Z = true) (hA : ∀ d ∈ own_flat narrow_1, d.value a0 Z none Z [] = some true) (ws : List Jvm.Cond) (x1 : Addr) (x2 : Addr) (h0 : Heap) (n0 : Nat) (O0 : Old Z n0 h0) (P0 : Exa Z h0 x1 "com/example/meter_to_month/metertomonth/ledger/BillingPeriod") (P1 : Fld Z h0 x1 "com/example/meter_to_month/metertomonth/ledger/BillingPeriod" "unit" "Lcom/example/meter_to_month/metertomonth/ledger/BillingPeriod$Unit;" .null) (P2 : Fld Z h0 x1 "com/example/meter_to_month/metertomonth/ledger/BillingPeriod" "count" "I" (.int (0 : Int32))) (G3 : n0 ≤ x1) :
    own_MetW l Z (⟨"com/example/meter_to_month/metertomonth/ledger/BillingPeriod", "<init>", "(Lcom/example/meter_to_month/metertomonth/ledger/BillingPeriod$Unit;I)V"⟩ : MethodName) (Jvm.Cond.code (⟨"com/example/meter_to_month/metertomonth/ledger/BillingPeriod", "<init>", "(Lcom/example/meter_to_month/metertomonth/ledger/BillingPeriod$Unit;I)V"⟩ : MethodName) prog_4_method_1_code 3 none) ws ({ frames := 2, cells := 2, slots := 20, locals := 24 } : Room) #[(.ref x1), (.ref x2), (.int (1 : Int32))] h0 (fun v h L => (v = none ∧ Fr n0 L ∧ Keep h0 h [x1] ∧ Exa Z h x1 "com/example/meter_to_month/metertomonth/ledger/BillingPeriod" ∧ Fld Z h x1 "com/example/meter_to_month/metertomonth/ledger/BillingPeriod" "unit" "Lcom/example/meter_to_month/metertomonth/ledger/BillingPeriod$Unit;" (.ref x2) ∧ Fld Z h x1 "com/example/meter_to_month/metertomonth/ledger/BillingPeriod" "count" "I" (.int (1 : Int32)))) := by
  refine own_metW (own := "com/example/meter_to_month/metertomonth/ledger/BillingPeriod") (plainFor_of_name pn6) rfl ?_
  intro p e s m below meth c s₁ hx hby hml hown hnm hret hlk hZ e0 X0 hS0
  refine own_cast (g' := (mkF m 0 #[.val (.ref x1), .val (.ref x2), .val (.int (1 : Int32))] [])) (by first | (simp [entryFrame, mkF, argsToLocals, Value.category]; done) | rfl) ?_
  refine own_step (fun _ k => XS.aloadN X0.here hx rfl (hb hby d2_0) rfl rfl k) ?_
  show own_Wp p e below _ s₁ (mkF m 1 #[.val (.ref x1), .val (.ref x2), .val (.int (1 : Int32))] [(.ref x1)])
  obtain ⟨_, T1, L1, X1, hQ1, st1⟩ := own_callN X0 hx hZ rfl hown (hw _ (List.mem_of_getElem? (i := 17) rfl)) (hw _ (List.mem_of_getElem? (i := 18) rfl)) (hw _ (List.mem_of_getElem? (i := 20) rfl)) (hw _ (List.mem_of_getElem? (i := 21) rfl)) (by decide) (rm3_1 l Z a0 hw hA [] x1 h0 n0 O0) (b := x1) (W := 0) (by decide) (by decide) [] rfl (lenOf pd3 rfl) (Ls := #[.val (.ref x1), .val (.ref x2), .val (.int (1 : Int32))]) (by rw [hml]; rfl) (rest := []) (Nat.le_of_eq rfl) (hb hby d2_1) e0 (by decide) (by decide)
  refine st1 _ ?_
  obtain ⟨rfl, N1q, e1⟩ := hQ1
  have N1 := Fr.app (Fr.nil n0) N1q
  show own_Wp p e below _ T1 (mkF m 4 #[.val (.ref x1), .val (.ref x2), .val (.int (1 : Int32))] [])
  refine own_step (fun _ k => XS.aloadN X1.here hx rfl (hb hby d2_4) rfl rfl k) ?_
  show own_Wp p e below _ T1 (mkF m 5 #[.val (.ref x1), .val (.ref x2), .val (.int (1 : Int32))] [(.ref x2)])
  obtain ⟨b2, T2, h2, k2, X2, e2, E2, hS2, hk2, hZ2, hown2, st2⟩ := ldcS X1 hx hZ hown (hw _ (List.mem_of_getElem? (i := 25) rfl)) (fun d hd => hw d (own_satoms d hd)) e1 hS0 (Nat.zero_le _) (g := (mkF m 5 #[.val (.ref x1), .val (.ref x2), .val (.int (1 : Int32))] [(.ref x2)])) rfl (hb hby d2_5) (n := 16) (by decide) (by decide) (by decide) (by decide)
  refine own_step st2 ?_
  have O2 := O0.ext E2
  have K2 : Keep h0 h2 [x1] := (Keep.refl h0 [x1]).ext E2
  show own_Wp p e below _ T2 (mkF m 7 #[.val (.ref x1), .val (.ref x2), .val (.int (1 : Int32))] [(.ref b2), (.ref x2)])
  obtain ⟨_, T3, L3, X3, hQ3, st3⟩ := own_callS X2 hx hZ2 hown2 (hw _ (List.mem_of_getElem? (i := 33) rfl)) (hw _ (List.mem_of_getElem? (i := 34) rfl)) (hw _ (List.mem_of_getElem? (i := 35) rfl)) (hw _ (List.mem_of_getElem? (i := 36) rfl)) (by decide) (rm5_2 l Z a0 hw hA [] x2 b2 h2 n0 O2) (W := 0) (by decide) (by decide) [(.ref x2), (.ref b2)] rfl (lenOf pd5 rfl) (Ls := #[.val (.ref x1), .val (.ref x2), .val (.int (1 : Int32))]) (by rw [hml]; rfl) (rest := []) (Nat.le_of_eq rfl) (hb hby d2_7) e2 (by decide) (by decide)
  refine st3 _ ?_
  obtain ⟨rfl, N3q, e3⟩ := hQ3
  have N3 := Fr.app N1 N3q
  show own_Wp p e below _ T3 (mkF m 10 #[.val (.ref x1), .val (.ref x2), .val (.int (1 : Int32))] [(.ref x2)])
  refine own_step (fun _ k => XS.pop X3.here hx rfl (hb hby d2_10) rfl rfl k) ?_
  show own_Wp p e below _ T3 (mkF m 11 #[.val (.ref x1), .val (.ref x2), .val (.int (1 : Int32))] [])
  refine own_step (fun _ k => XS.iloadN X3.here hx rfl (hb hby d2_11) rfl k) ?_
  show own_Wp p e below _ T3 (mkF m 12 #[.val (.ref x1), .val (.ref x2), .val (.int (1 : Int32))] [(.int (1 : Int32))])
  refine own_step (fun _ k => XS.iconst X3.here hx rfl (hb hby d2_12) k) ?_
  show own_Wp p e below _ T3 (mkF m 13 #[.val (.ref x1), .val (.ref x2), .val (.int (1 : Int32))] [(.int (1 : Int32)), (.int (1 : Int32))])
  refine own_step (fun _ k => XS.icmpYes X3.here hx rfl (pc0 := 13) (pc' := 34) rfl (hb hby d2_13) rfl (by decide) (by decide) (by decide) k) ?_
  show own_Wp p e below _ T3 (mkF m 34 #[.val (.ref x1), .val (.ref x2), .val (.int (1 : Int32))] [])
  refine own_step (fun _ k => XS.aloadN X3.here hx rfl (hb hby d2_34) rfl rfl k) ?_
  show own_Wp p e below _ T3 (mkF m 35 #[.val (.ref x1), .val (.ref x2), .val (.int (1 : Int32))] [(.ref x1)])
  refine own_step (fun _ k => XS.aloadN X3.here hx rfl (hb hby d2_35) rfl rfl k) ?_
  show own_Wp p e below _ T3 (mkF m 36 #[.val (.ref x1), .val (.ref x2), .val (.int (1 : Int32))] [(.ref x2), (.ref x1)])
  have f4 := (P1.ext E2)
  have f5 := (P0.ext E2)
  obtain ⟨T6, h6, X6, e6, W6, st6⟩ := putF X3 hx hZ2 hown2 (host := "") (Or.inl (hw _ (List.mem_of_getElem? (i := 37) rfl))) Via.refl e3 f4 f5 (Or.inr ⟨(hw _ (List.mem_of_getElem? (i := 38) rfl)), rfl, hnm⟩) (hw _ (List.mem_of_getElem? (i := 12) rfl)) (ty := (.object "com/example/meter_to_month/metertomonth/ledger/BillingPeriod$Unit")) (by decide) rfl rfl (g := (mkF m 36 #[.val (.ref x1), .val (.ref x2), .val (.int (1 : Int32))] [(.ref x2), (.ref x1)])) rfl rfl (hb hby d2_36)
  refine own_step st6 ?_
  have N6 := Fr.snoc X6 N3 G3
  have O6 := O2.wr W6 G3
  have K6 : Keep h0 h6 [x1] := K2.wr W6 (Or.inl (by simp))
  have Fw6 := f4.same W6
  show own_Wp p e below _ T6 (mkF m 39 #[.val (.ref x1), .val (.ref x2), .val (.int (1 : Int32))] [])
  refine own_step (fun _ k => XS.aloadN X6.here hx rfl (hb hby d2_39) rfl rfl k) ?_
  show own_Wp p e below _ T6 (mkF m 40 #[.val (.ref x1), .val (.ref x2), .val (.int (1 : Int32))] [(.ref x1)])
  refine own_step (fun _ k => XS.iloadN X6.here hx rfl (hb hby d2_40) rfl k) ?_
  show own_Wp p e below _ T6 (mkF m 41 #[.val (.ref x1), .val (.ref x2), .val (.int (1 : Int32))] [(.int (1 : Int32)), (.ref x1)])
  have f7 := ((P2.ext E2).other W6 (Or.inr (slot_ne (Or.inr (hw _ (List.mem_of_getElem? (i := 40) rfl))) (Or.inr (hw _ (List.mem_of_getElem? (i := 38) rfl))) (by decide) (t := .int) (t' := (.object "com/example/meter_to_month/metertomonth/ledger/BillingPeriod$Unit")) (by decide) (by decide))))
  have f8 := (f5.wr W6)
  obtain ⟨T9, h9, X9, e9, W9, st9⟩ := putF X6 hx hZ2 hown2 (host := "") (Or.inl (hw _ (List.mem_of_getElem? (i := 39) rfl))) Via.refl e6 f7 f8 (Or.inr ⟨(hw _ (List.mem_of_getElem? (i := 40) rfl)), rfl, hnm⟩) (hw _ (List.mem_of_getElem? (i := 12) rfl)) (ty := .int) (by decide) rfl rfl (g := (mkF m 41 #[.val (.ref x1), .val (.ref x2), .val (.int (1 : Int32))] [(.int (1 : Int32)), (.ref x1)])) rfl rfl (hb hby d2_41)
  refine own_step st9 ?_
  have N9 := Fr.snoc X9 N6 G3
  have O9 := O6.wr W9 G3
  have K9 : Keep h0 h9 [x1] := K6.wr W9 (Or.inl (by simp))
  have Fw9 := f7.same W9
  show own_Wp p e below _ T9 (mkF m 44 #[.val (.ref x1), .val (.ref x2), .val (.int (1 : Int32))] [])
  have f10 := (f8.wr W9)
  have f11 := (Fw6.other W9 (Or.inr (slot_ne (Or.inr (hw _ (List.mem_of_getElem? (i := 38) rfl))) (Or.inr (hw _ (List.mem_of_getElem? (i := 40) rfl))) (by decide) (t := (.object "com/example/meter_to_month/metertomonth/ledger/BillingPeriod$Unit")) (t' := .int) (by decide) (by decide))))
  exact own_retVW X9 hS2 (by rw [e9]; exact (Nat.le_trans (Nat.le_trans hk2 (Keep.of_wr W6).1) (Keep.of_wr W9).1)) hx hret hlk (hb hby d2_44) (by decide) (by decide) (by rw [e9]; exact ⟨rfl, N9, K9, f10, f11, Fw9⟩)

set_option maxRecDepth 65536 in
set_option maxHeartbeats 40000000 in
theorem rm6_4 (l : Launch) (Z : State) (a0 : Array Value) (hw : ∀ d ∈ tables_1, d.before a0 Z = true) (hA : ∀ d ∈ own_flat narrow_1, d.value a0 Z none Z [] = some true) (ws : List Jvm.Cond) (x1 : Addr) (x2 : Addr) (h0 : Heap) (n0 : Nat) (O0 : Old Z n0 h0) (D0 : Fld Z Z.heap x1 "com/example/meter_to_month/metertomonth/ledger/ResourceKind" "renewal" "Lcom/example/meter_to_month/metertomonth/ledger/BillingPeriod;" .null) :
    own_Met l Z (⟨"com/example/meter_to_month/metertomonth/ledger/ResourceKind", "renewalOf", "(Lcom/example/meter_to_month/metertomonth/ledger/BillingPeriod;)Lcom/example/meter_to_month/metertomonth/ledger/BillingPeriod;"⟩ : MethodName) (Jvm.Cond.code (⟨"com/example/meter_to_month/metertomonth/ledger/ResourceKind", "renewalOf", "(Lcom/example/meter_to_month/metertomonth/ledger/BillingPeriod;)Lcom/example/meter_to_month/metertomonth/ledger/BillingPeriod;"⟩ : MethodName) prog_15_method_7_code 2 (some (.object "com/example/meter_to_month/metertomonth/ledger/BillingPeriod"))) ws ({ frames := 0, cells := 0, slots := 0, locals := 0 } : Room) #[(.ref x1), (.ref x2)] h0 (fun v h L => (v = some (.ref x2) ∧ Fr n0 L ∧ h = h0)) := by
  refine own_met (own := "com/example/meter_to_month/metertomonth/ledger/ResourceKind") (plainFor_of_name pn8) rfl ?_
  intro p e s m below meth c s₁ hx hby hml hown hnm hret hlk hZ e0 X0
  refine own_cast (g' := (mkF m 0 #[.val (.ref x1), .val (.ref x2)] [])) (by first | (simp [entryFrame, mkF, argsToLocals, Value.category]; done) | rfl) ?_
  refine own_step (fun _ k => XS.aloadN X0.here hx rfl (hb hby d6_0) rfl rfl k) ?_
  show own_Wp p e below _ s₁ (mkF m 1 #[.val (.ref x1), .val (.ref x2)] [(.ref x1)])
  obtain ⟨T1, X1, e1, st1⟩ := getF X0 hx hZ hown (host := "") (Or.inl (hw _ (List.mem_of_getElem? (i := 46) rfl))) Via.refl e0 (D0.ext O0.2) (g := (mkF m 1 #[.val (.ref x1), .val (.ref x2)] [(.ref x1)])) rfl rfl (hb hby d6_1)
  refine own_step st1 ?_
  show own_Wp p e below _ T1 (mkF m 4 #[.val (.ref x1), .val (.ref x2)] [.null])
  refine own_step (fun _ k => XS.ifnonnullNo X1.here hx rfl (hb hby d6_4) rfl k) ?_
  show own_Wp p e below _ T1 (mkF m 7 #[.val (.ref x1), .val (.ref x2)] [])
  refine own_step (fun _ k => XS.aloadN X1.here hx rfl (hb hby d6_7) rfl rfl k) ?_
  show own_Wp p e below _ T1 (mkF m 8 #[.val (.ref x1), .val (.ref x2)] [(.ref x2)])
  refine own_step (fun _ k => XS.goto X1.here hx rfl (pc0 := 8) (pc' := 15) rfl (hb hby d6_8) (by decide) (by decide) k) ?_
  show own_Wp p e below _ T1 (mkF m 15 #[.val (.ref x1), .val (.ref x2)] [(.ref x2)])
  exact own_retA X1 hx hret rfl rfl hlk (hb hby d6_15) (by decide) (by decide) (by rw [e1]; exact ⟨rfl, (Fr.nil n0), rfl⟩)

set_option maxRecDepth 65536 in
set_option maxHeartbeats 40000000 in
theorem rm7_5 (l : Launch) (Z : State) (a0 : Array Value) (hw : ∀ d ∈ tables_1, d.before a0 Z = true) (hA : ∀ d ∈ own_flat narrow_1, d.value a0 Z none Z [] = some true) (ws : List Jvm.Cond) (x1 : Addr) (h0 : Heap) (n0 : Nat) (O0 : Old Z n0 h0) (P1 : Fld Z h0 x1 "com/example/meter_to_month/metertomonth/ledger/BillingPeriod" "unit" "Lcom/example/meter_to_month/metertomonth/ledger/BillingPeriod$Unit;" (.ref (w3_MONTH Z))) :
    own_Met l Z (⟨"com/example/meter_to_month/metertomonth/ledger/BillingPeriod", "unit", "()Lcom/example/meter_to_month/metertomonth/ledger/BillingPeriod$Unit;"⟩ : MethodName) (Jvm.Cond.code (⟨"com/example/meter_to_month/metertomonth/ledger/BillingPeriod", "unit", "()Lcom/example/meter_to_month/metertomonth/ledger/BillingPeriod$Unit;"⟩ : MethodName) prog_4_method_6_code 1 (some (.object "com/example/meter_to_month/metertomonth/ledger/BillingPeriod$Unit"))) ws ({ frames := 0, cells := 0, slots := 0, locals := 0 } : Room) #[(.ref x1)] h0 (fun v h L => (v = some (.ref (w3_MONTH Z)) ∧ Fr n0 L ∧ h = h0)) := by
  refine own_met (own := "com/example/meter_to_month/metertomonth/ledger/BillingPeriod") (plainFor_of_name pn6) rfl ?_
  intro p e s m below meth c s₁ hx hby hml hown hnm hret hlk hZ e0 X0
  refine own_cast (g' := (mkF m 0 #[.val (.ref x1)] [])) (by first | (simp [entryFrame, mkF, argsToLocals, Value.category]; done) | rfl) ?_
  refine own_step (fun _ k => XS.aloadN X0.here hx rfl (hb hby d7_0) rfl rfl k) ?_
  show own_Wp p e below _ s₁ (mkF m 1 #[.val (.ref x1)] [(.ref x1)])
  obtain ⟨T1, X1, e1, st1⟩ := getF X0 hx hZ hown (host := "") (Or.inl (hw _ (List.mem_of_getElem? (i := 37) rfl))) Via.refl e0 P1 (g := (mkF m 1 #[.val (.ref x1)] [(.ref x1)])) rfl rfl (hb hby d7_1)
  refine own_step st1 ?_
  show own_Wp p e below _ T1 (mkF m 4 #[.val (.ref x1)] [(.ref (w3_MONTH Z))])
  exact own_retA X1 hx hret rfl rfl hlk (hb hby d7_4) (by decide) (by decide) (by rw [e1]; exact ⟨rfl, (Fr.nil n0), rfl⟩)

set_option maxRecDepth 65536 in
set_option maxHeartbeats 40000000 in
theorem rm8_6 (l : Launch) (Z : State) (a0 : Array Value) (hw : ∀ d ∈ tables_1, d.before a0 Z = true) (hA : ∀ d ∈ own_flat narrow_1, d.value a0 Z none Z [] = some true) (ws : List Jvm.Cond) (x1 : Addr) (h0 : Heap) (n0 : Nat) (O0 : Old Z n0 h0) (P2 : Fld Z h0 x1 "com/example/meter_to_month/metertomonth/ledger/BillingPeriod" "count" "I" (.int (1 : Int32))) :
    own_Met l Z (⟨"com/example/meter_to_month/metertomonth/ledger/BillingPeriod", "count", "()I"⟩ : MethodName) (Jvm.Cond.code (⟨"com/example/meter_to_month/metertomonth/ledger/BillingPeriod", "count", "()I"⟩ : MethodName) prog_4_method_7_code 1 (some .int)) ws ({ frames := 0, cells := 0, slots := 0, locals := 0 } : Room) #[(.ref x1)] h0 (fun v h L => (v = some (.int (1 : Int32)) ∧ Fr n0 L ∧ h = h0)) := by
  refine own_met (own := "com/example/meter_to_month/metertomonth/ledger/BillingPeriod") (plainFor_of_name pn6) rfl ?_
  intro p e s m below meth c s₁ hx hby hml hown hnm hret hlk hZ e0 X0
  refine own_cast (g' := (mkF m 0 #[.val (.ref x1)] [])) (by first | (simp [entryFrame, mkF, argsToLocals, Value.category]; done) | rfl) ?_
  refine own_step (fun _ k => XS.aloadN X0.here hx rfl (hb hby d8_0) rfl rfl k) ?_
  show own_Wp p e below _ s₁ (mkF m 1 #[.val (.ref x1)] [(.ref x1)])
  obtain ⟨T1, X1, e1, st1⟩ := getF X0 hx hZ hown (host := "") (Or.inl (hw _ (List.mem_of_getElem? (i := 39) rfl))) Via.refl e0 P2 (g := (mkF m 1 #[.val (.ref x1)] [(.ref x1)])) rfl rfl (hb hby d8_1)
  refine own_step st1 ?_
  show own_Wp p e below _ T1 (mkF m 4 #[.val (.ref x1)] [(.int (1 : Int32))])
  exact own_retI X1 hx hret hlk (hb hby d8_4) (by decide) (by decide) (by rw [e1]; exact ⟨rfl, (Fr.nil n0), rfl⟩)

set_option maxRecDepth 65536 in
set_option maxHeartbeats 40000000 in
theorem rm2_7 (l : Launch) (Z : State) (a0 : Array Value) (hw : ∀ d ∈ tables_1, d.before a0 Z = true) (hA : ∀ d ∈ own_flat narrow_1, d.value a0 Z none Z [] = some true) (ws : List Jvm.Cond) (x1 : Addr) (x2 : Addr) (i1 : Int32) (h0 : Heap) (n0 : Nat) (O0 : Old Z n0 h0) (P0 : Exa Z h0 x1 "com/example/meter_to_month/metertomonth/ledger/BillingPeriod") (P1 : Fld Z h0 x1 "com/example/meter_to_month/metertomonth/ledger/BillingPeriod" "unit" "Lcom/example/meter_to_month/metertomonth/ledger/BillingPeriod$Unit;" .null) (P2 : Fld Z h0 x1 "com/example/meter_to_month/metertomonth/ledger/BillingPeriod" "count" "I" (.int (0 : Int32))) (G3 : n0 ≤ x1) (H5 : ¬ (i1 < (1 : Int32))) :
    own_MetW l Z (⟨"com/example/meter_to_month/metertomonth/ledger/BillingPeriod", "<init>", "(Lcom/example/meter_to_month/metertomonth/ledger/BillingPeriod$Unit;I)V"⟩ : MethodName) (Jvm.Cond.code (⟨"com/example/meter_to_month/metertomonth/ledger/BillingPeriod", "<init>", "(Lcom/example/meter_to_month/metertomonth/ledger/BillingPeriod$Unit;I)V"⟩ : MethodName) prog_4_method_1_code 3 none) ws ({ frames := 2, cells := 2, slots := 20, locals := 24 } : Room) #[(.ref x1), (.ref x2), (.int i1)] h0 (fun v h L => (v = none ∧ Fr n0 L ∧ Keep h0 h [x1] ∧ Exa Z h x1 "com/example/meter_to_month/metertomonth/ledger/BillingPeriod" ∧ Fld Z h x1 "com/example/meter_to_month/metertomonth/ledger/BillingPeriod" "unit" "Lcom/example/meter_to_month/metertomonth/ledger/BillingPeriod$Unit;" (.ref x2) ∧ Fld Z h x1 "com/example/meter_to_month/metertomonth/ledger/BillingPeriod" "count" "I" (.int i1))) := by
  refine own_metW (own := "com/example/meter_to_month/metertomonth/ledger/BillingPeriod") (plainFor_of_name pn6) rfl ?_
  intro p e s m below meth c s₁ hx hby hml hown hnm hret hlk hZ e0 X0 hS0
  refine own_cast (g' := (mkF m 0 #[.val (.ref x1), .val (.ref x2), .val (.int i1)] [])) (by first | (simp [entryFrame, mkF, argsToLocals, Value.category]; done) | rfl) ?_
  refine own_step (fun _ k => XS.aloadN X0.here hx rfl (hb hby d2_0) rfl rfl k) ?_
  show own_Wp p e below _ s₁ (mkF m 1 #[.val (.ref x1), .val (.ref x2), .val (.int i1)] [(.ref x1)])
  obtain ⟨_, T1, L1, X1, hQ1, st1⟩ := own_callN X0 hx hZ rfl hown (hw _ (List.mem_of_getElem? (i := 17) rfl)) (hw _ (List.mem_of_getElem? (i := 18) rfl)) (hw _ (List.mem_of_getElem? (i := 20) rfl)) (hw _ (List.mem_of_getElem? (i := 21) rfl)) (by decide) (rm3_1 l Z a0 hw hA [] x1 h0 n0 O0) (b := x1) (W := 0) (by decide) (by decide) [] rfl (lenOf pd3 rfl) (Ls := #[.val (.ref x1), .val (.ref x2), .val (.int i1)]) (by rw [hml]; rfl) (rest := []) (Nat.le_of_eq rfl) (hb hby d2_1) e0 (by decide) (by decide)
  refine st1 _ ?_
  obtain ⟨rfl, N1q, e1⟩ := hQ1
  have N1 := Fr.app (Fr.nil n0) N1q
  show own_Wp p e below _ T1 (mkF m 4 #[.val (.ref x1), .val (.ref x2), .val (.int i1)] [])
  refine own_step (fun _ k => XS.aloadN X1.here hx rfl (hb hby d2_4) rfl rfl k) ?_
  show own_Wp p e below _ T1 (mkF m 5 #[.val (.ref x1), .val (.ref x2), .val (.int i1)] [(.ref x2)])
  obtain ⟨b2, T2, h2, k2, X2, e2, E2, hS2, hk2, hZ2, hown2, st2⟩ := ldcS X1 hx hZ hown (hw _ (List.mem_of_getElem? (i := 25) rfl)) (fun d hd => hw d (own_satoms d hd)) e1 hS0 (Nat.zero_le _) (g := (mkF m 5 #[.val (.ref x1), .val (.ref x2), .val (.int i1)] [(.ref x2)])) rfl (hb hby d2_5) (n := 16) (by decide) (by decide) (by decide) (by decide)
  refine own_step st2 ?_
  have O2 := O0.ext E2
  have K2 : Keep h0 h2 [x1] := (Keep.refl h0 [x1]).ext E2
  show own_Wp p e below _ T2 (mkF m 7 #[.val (.ref x1), .val (.ref x2), .val (.int i1)] [(.ref b2), (.ref x2)])
  obtain ⟨_, T3, L3, X3, hQ3, st3⟩ := own_callS X2 hx hZ2 hown2 (hw _ (List.mem_of_getElem? (i := 33) rfl)) (hw _ (List.mem_of_getElem? (i := 34) rfl)) (hw _ (List.mem_of_getElem? (i := 35) rfl)) (hw _ (List.mem_of_getElem? (i := 36) rfl)) (by decide) (rm5_2 l Z a0 hw hA [] x2 b2 h2 n0 O2) (W := 0) (by decide) (by decide) [(.ref x2), (.ref b2)] rfl (lenOf pd5 rfl) (Ls := #[.val (.ref x1), .val (.ref x2), .val (.int i1)]) (by rw [hml]; rfl) (rest := []) (Nat.le_of_eq rfl) (hb hby d2_7) e2 (by decide) (by decide)
  refine st3 _ ?_
  obtain ⟨rfl, N3q, e3⟩ := hQ3
  have N3 := Fr.app N1 N3q
  show own_Wp p e below _ T3 (mkF m 10 #[.val (.ref x1), .val (.ref x2), .val (.int i1)] [(.ref x2)])
  refine own_step (fun _ k => XS.pop X3.here hx rfl (hb hby d2_10) rfl rfl k) ?_
  show own_Wp p e below _ T3 (mkF m 11 #[.val (.ref x1), .val (.ref x2), .val (.int i1)] [])
  refine own_step (fun _ k => XS.iloadN X3.here hx rfl (hb hby d2_11) rfl k) ?_
  show own_Wp p e below _ T3 (mkF m 12 #[.val (.ref x1), .val (.ref x2), .val (.int i1)] [(.int i1)])
  refine own_step (fun _ k => XS.iconst X3.here hx rfl (hb hby d2_12) k) ?_
  show own_Wp p e below _ T3 (mkF m 13 #[.val (.ref x1), .val (.ref x2), .val (.int i1)] [(.int (1 : Int32)), (.int i1)])
  refine own_step (fun _ k => XS.icmpYes X3.here hx rfl (pc0 := 13) (pc' := 34) rfl (hb hby d2_13) rfl (flt H5).2.1 (by decide) (by decide) k) ?_
  show own_Wp p e below _ T3 (mkF m 34 #[.val (.ref x1), .val (.ref x2), .val (.int i1)] [])
  refine own_step (fun _ k => XS.aloadN X3.here hx rfl (hb hby d2_34) rfl rfl k) ?_
  show own_Wp p e below _ T3 (mkF m 35 #[.val (.ref x1), .val (.ref x2), .val (.int i1)] [(.ref x1)])
  refine own_step (fun _ k => XS.aloadN X3.here hx rfl (hb hby d2_35) rfl rfl k) ?_
  show own_Wp p e below _ T3 (mkF m 36 #[.val (.ref x1), .val (.ref x2), .val (.int i1)] [(.ref x2), (.ref x1)])
  have f4 := (P1.ext E2)
  have f5 := (P0.ext E2)
  obtain ⟨T6, h6, X6, e6, W6, st6⟩ := putF X3 hx hZ2 hown2 (host := "") (Or.inl (hw _ (List.mem_of_getElem? (i := 37) rfl))) Via.refl e3 f4 f5 (Or.inr ⟨(hw _ (List.mem_of_getElem? (i := 38) rfl)), rfl, hnm⟩) (hw _ (List.mem_of_getElem? (i := 12) rfl)) (ty := (.object "com/example/meter_to_month/metertomonth/ledger/BillingPeriod$Unit")) (by decide) rfl rfl (g := (mkF m 36 #[.val (.ref x1), .val (.ref x2), .val (.int i1)] [(.ref x2), (.ref x1)])) rfl rfl (hb hby d2_36)
  refine own_step st6 ?_
  have N6 := Fr.snoc X6 N3 G3
  have O6 := O2.wr W6 G3
  have K6 : Keep h0 h6 [x1] := K2.wr W6 (Or.inl (by simp))
  have Fw6 := f4.same W6
  show own_Wp p e below _ T6 (mkF m 39 #[.val (.ref x1), .val (.ref x2), .val (.int i1)] [])
  refine own_step (fun _ k => XS.aloadN X6.here hx rfl (hb hby d2_39) rfl rfl k) ?_
  show own_Wp p e below _ T6 (mkF m 40 #[.val (.ref x1), .val (.ref x2), .val (.int i1)] [(.ref x1)])
  refine own_step (fun _ k => XS.iloadN X6.here hx rfl (hb hby d2_40) rfl k) ?_
  show own_Wp p e below _ T6 (mkF m 41 #[.val (.ref x1), .val (.ref x2), .val (.int i1)] [(.int i1), (.ref x1)])
  have f7 := ((P2.ext E2).other W6 (Or.inr (slot_ne (Or.inr (hw _ (List.mem_of_getElem? (i := 40) rfl))) (Or.inr (hw _ (List.mem_of_getElem? (i := 38) rfl))) (by decide) (t := .int) (t' := (.object "com/example/meter_to_month/metertomonth/ledger/BillingPeriod$Unit")) (by decide) (by decide))))
  have f8 := (f5.wr W6)
  obtain ⟨T9, h9, X9, e9, W9, st9⟩ := putF X6 hx hZ2 hown2 (host := "") (Or.inl (hw _ (List.mem_of_getElem? (i := 39) rfl))) Via.refl e6 f7 f8 (Or.inr ⟨(hw _ (List.mem_of_getElem? (i := 40) rfl)), rfl, hnm⟩) (hw _ (List.mem_of_getElem? (i := 12) rfl)) (ty := .int) (by decide) rfl rfl (g := (mkF m 41 #[.val (.ref x1), .val (.ref x2), .val (.int i1)] [(.int i1), (.ref x1)])) rfl rfl (hb hby d2_41)
  refine own_step st9 ?_
  have N9 := Fr.snoc X9 N6 G3
  have O9 := O6.wr W9 G3
  have K9 : Keep h0 h9 [x1] := K6.wr W9 (Or.inl (by simp))
  have Fw9 := f7.same W9
  show own_Wp p e below _ T9 (mkF m 44 #[.val (.ref x1), .val (.ref x2), .val (.int i1)] [])
  have f10 := (f8.wr W9)
  have f11 := (Fw6.other W9 (Or.inr (slot_ne (Or.inr (hw _ (List.mem_of_getElem? (i := 38) rfl))) (Or.inr (hw _ (List.mem_of_getElem? (i := 40) rfl))) (by decide) (t := (.object "com/example/meter_to_month/metertomonth/ledger/BillingPeriod$Unit")) (t' := .int) (by decide) (by decide))))
  exact own_retVW X9 hS2 (by rw [e9]; exact (Nat.le_trans (Nat.le_trans hk2 (Keep.of_wr W6).1) (Keep.of_wr W9).1)) hx hret hlk (hb hby d2_44) (by decide) (by decide) (by rw [e9]; exact ⟨rfl, N9, K9, f10, f11, Fw9⟩)

set_option maxRecDepth 65536 in
set_option maxHeartbeats 40000000 in
theorem rm8_8 (l : Launch) (Z : State) (a0 : Array Value) (hw : ∀ d ∈ tables_1, d.before a0 Z = true) (hA : ∀ d ∈ own_flat narrow_1, d.value a0 Z none Z [] = some true) (ws : List Jvm.Cond) (x1 : Addr) (i1 : Int32) (h0 : Heap) (n0 : Nat) (O0 : Old Z n0 h0) (P2 : Fld Z h0 x1 "com/example/meter_to_month/metertomonth/ledger/BillingPeriod" "count" "I" (.int i1)) :
    own_Met l Z (⟨"com/example/meter_to_month/metertomonth/ledger/BillingPeriod", "count", "()I"⟩ : MethodName) (Jvm.Cond.code (⟨"com/example/meter_to_month/metertomonth/ledger/BillingPeriod", "count", "()I"⟩ : MethodName) prog_4_method_7_code 1 (some .int)) ws ({ frames := 0, cells := 0, slots := 0, locals := 0 } : Room) #[(.ref x1)] h0 (fun v h L => (v = some (.int i1) ∧ Fr n0 L ∧ h = h0)) := by
  refine own_met (own := "com/example/meter_to_month/metertomonth/ledger/BillingPeriod") (plainFor_of_name pn6) rfl ?_
  intro p e s m below meth c s₁ hx hby hml hown hnm hret hlk hZ e0 X0
  refine own_cast (g' := (mkF m 0 #[.val (.ref x1)] [])) (by first | (simp [entryFrame, mkF, argsToLocals, Value.category]; done) | rfl) ?_
  refine own_step (fun _ k => XS.aloadN X0.here hx rfl (hb hby d8_0) rfl rfl k) ?_
  show own_Wp p e below _ s₁ (mkF m 1 #[.val (.ref x1)] [(.ref x1)])
  obtain ⟨T1, X1, e1, st1⟩ := getF X0 hx hZ hown (host := "") (Or.inl (hw _ (List.mem_of_getElem? (i := 39) rfl))) Via.refl e0 P2 (g := (mkF m 1 #[.val (.ref x1)] [(.ref x1)])) rfl rfl (hb hby d8_1)
  refine own_step st1 ?_
  show own_Wp p e below _ T1 (mkF m 4 #[.val (.ref x1)] [(.int i1)])
  exact own_retI X1 hx hret hlk (hb hby d8_4) (by decide) (by decide) (by rw [e1]; exact ⟨rfl, (Fr.nil n0), rfl⟩)

set_option maxRecDepth 65536 in
set_option maxHeartbeats 40000000 in
theorem rm7_9 (l : Launch) (Z : State) (a0 : Array Value) (hw : ∀ d ∈ tables_1, d.before a0 Z = true) (hA : ∀ d ∈ own_flat narrow_1, d.value a0 Z none Z [] = some true) (ws : List Jvm.Cond) (x1 : Addr) (h0 : Heap) (n0 : Nat) (O0 : Old Z n0 h0) (P1 : Fld Z h0 x1 "com/example/meter_to_month/metertomonth/ledger/BillingPeriod" "unit" "Lcom/example/meter_to_month/metertomonth/ledger/BillingPeriod$Unit;" (.ref (w1_YEAR Z))) :
    own_Met l Z (⟨"com/example/meter_to_month/metertomonth/ledger/BillingPeriod", "unit", "()Lcom/example/meter_to_month/metertomonth/ledger/BillingPeriod$Unit;"⟩ : MethodName) (Jvm.Cond.code (⟨"com/example/meter_to_month/metertomonth/ledger/BillingPeriod", "unit", "()Lcom/example/meter_to_month/metertomonth/ledger/BillingPeriod$Unit;"⟩ : MethodName) prog_4_method_6_code 1 (some (.object "com/example/meter_to_month/metertomonth/ledger/BillingPeriod$Unit"))) ws ({ frames := 0, cells := 0, slots := 0, locals := 0 } : Room) #[(.ref x1)] h0 (fun v h L => (v = some (.ref (w1_YEAR Z)) ∧ Fr n0 L ∧ h = h0)) := by
  refine own_met (own := "com/example/meter_to_month/metertomonth/ledger/BillingPeriod") (plainFor_of_name pn6) rfl ?_
  intro p e s m below meth c s₁ hx hby hml hown hnm hret hlk hZ e0 X0
  refine own_cast (g' := (mkF m 0 #[.val (.ref x1)] [])) (by first | (simp [entryFrame, mkF, argsToLocals, Value.category]; done) | rfl) ?_
  refine own_step (fun _ k => XS.aloadN X0.here hx rfl (hb hby d7_0) rfl rfl k) ?_
  show own_Wp p e below _ s₁ (mkF m 1 #[.val (.ref x1)] [(.ref x1)])
  obtain ⟨T1, X1, e1, st1⟩ := getF X0 hx hZ hown (host := "") (Or.inl (hw _ (List.mem_of_getElem? (i := 37) rfl))) Via.refl e0 P1 (g := (mkF m 1 #[.val (.ref x1)] [(.ref x1)])) rfl rfl (hb hby d7_1)
  refine own_step st1 ?_
  show own_Wp p e below _ T1 (mkF m 4 #[.val (.ref x1)] [(.ref (w1_YEAR Z))])
  exact own_retA X1 hx hret rfl rfl hlk (hb hby d7_4) (by decide) (by decide) (by rw [e1]; exact ⟨rfl, (Fr.nil n0), rfl⟩)

set_option maxRecDepth 65536 in
set_option maxHeartbeats 40000000 in
theorem rm6_10 (l : Launch) (Z : State) (a0 : Array Value) (hw : ∀ d ∈ tables_1, d.before a0 Z = true) (hA : ∀ d ∈ own_flat narrow_1, d.value a0 Z none Z [] = some true) (ws : List Jvm.Cond) (x1 : Addr) (x2 : Addr) (h0 : Heap) (n0 : Nat) (O0 : Old Z n0 h0) (D0 : Fld Z Z.heap x1 "com/example/meter_to_month/metertomonth/ledger/ResourceKind" "renewal" "Lcom/example/meter_to_month/metertomonth/ledger/BillingPeriod;" (.ref (w6_renewal Z))) :
    own_Met l Z (⟨"com/example/meter_to_month/metertomonth/ledger/ResourceKind", "renewalOf", "(Lcom/example/meter_to_month/metertomonth/ledger/BillingPeriod;)Lcom/example/meter_to_month/metertomonth/ledger/BillingPeriod;"⟩ : MethodName) (Jvm.Cond.code (⟨"com/example/meter_to_month/metertomonth/ledger/ResourceKind", "renewalOf", "(Lcom/example/meter_to_month/metertomonth/ledger/BillingPeriod;)Lcom/example/meter_to_month/metertomonth/ledger/BillingPeriod;"⟩ : MethodName) prog_15_method_7_code 2 (some (.object "com/example/meter_to_month/metertomonth/ledger/BillingPeriod"))) ws ({ frames := 0, cells := 0, slots := 0, locals := 0 } : Room) #[(.ref x1), (.ref x2)] h0 (fun v h L => (v = some (.ref (w6_renewal Z)) ∧ Fr n0 L ∧ h = h0)) := by
  refine own_met (own := "com/example/meter_to_month/metertomonth/ledger/ResourceKind") (plainFor_of_name pn8) rfl ?_
  intro p e s m below meth c s₁ hx hby hml hown hnm hret hlk hZ e0 X0
  refine own_cast (g' := (mkF m 0 #[.val (.ref x1), .val (.ref x2)] [])) (by first | (simp [entryFrame, mkF, argsToLocals, Value.category]; done) | rfl) ?_
  refine own_step (fun _ k => XS.aloadN X0.here hx rfl (hb hby d6_0) rfl rfl k) ?_
  show own_Wp p e below _ s₁ (mkF m 1 #[.val (.ref x1), .val (.ref x2)] [(.ref x1)])
  obtain ⟨T1, X1, e1, st1⟩ := getF X0 hx hZ hown (host := "") (Or.inl (hw _ (List.mem_of_getElem? (i := 46) rfl))) Via.refl e0 (D0.ext O0.2) (g := (mkF m 1 #[.val (.ref x1), .val (.ref x2)] [(.ref x1)])) rfl rfl (hb hby d6_1)
  refine own_step st1 ?_
  show own_Wp p e below _ T1 (mkF m 4 #[.val (.ref x1), .val (.ref x2)] [(.ref (w6_renewal Z))])
  refine own_step (fun _ k => XS.ifnonnullYes X1.here hx rfl (pc0 := 4) (pc' := 11) rfl (hb hby d6_4) rfl (by decide) (by decide) k) ?_
  show own_Wp p e below _ T1 (mkF m 11 #[.val (.ref x1), .val (.ref x2)] [])
  refine own_step (fun _ k => XS.aloadN X1.here hx rfl (hb hby d6_11) rfl rfl k) ?_
  show own_Wp p e below _ T1 (mkF m 12 #[.val (.ref x1), .val (.ref x2)] [(.ref x1)])
  obtain ⟨T2, X2, e2, st2⟩ := getF X1 hx hZ hown (host := "") (Or.inl (hw _ (List.mem_of_getElem? (i := 46) rfl))) Via.refl e1 (D0.ext O0.2) (g := (mkF m 12 #[.val (.ref x1), .val (.ref x2)] [(.ref x1)])) rfl rfl (hb hby d6_12)
  refine own_step st2 ?_
  show own_Wp p e below _ T2 (mkF m 15 #[.val (.ref x1), .val (.ref x2)] [(.ref (w6_renewal Z))])
  exact own_retA X2 hx hret rfl rfl hlk (hb hby d6_15) (by decide) (by decide) (by rw [e2]; exact ⟨rfl, (Fr.nil n0), rfl⟩)

set_option maxRecDepth 65536 in
set_option maxHeartbeats 40000000 in
theorem rm7_11 (l : Launch) (Z : State) (a0 : Array Value) (hw : ∀ d ∈ tables_1, d.before a0 Z = true) (hA : ∀ d ∈ own_flat narrow_1, d.value a0 Z none Z [] = some true) (ws : List Jvm.Cond) (x1 : Addr) (h0 : Heap) (n0 : Nat) (O0 : Old Z n0 h0) (D0 : Fld Z Z.heap x1 "com/example/meter_to_month/metertomonth/ledger/BillingPeriod" "unit" "Lcom/example/meter_to_month/metertomonth/ledger/BillingPeriod$Unit;" (.ref (w3_MONTH Z))) :
    own_Met l Z (⟨"com/example/meter_to_month/metertomonth/ledger/BillingPeriod", "unit", "()Lcom/example/meter_to_month/metertomonth/ledger/BillingPeriod$Unit;"⟩ : MethodName) (Jvm.Cond.code (⟨"com/example/meter_to_month/metertomonth/ledger/BillingPeriod", "unit", "()Lcom/example/meter_to_month/metertomonth/ledger/BillingPeriod$Unit;"⟩ : MethodName) prog_4_method_6_code 1 (some (.object "com/example/meter_to_month/metertomonth/ledger/BillingPeriod$Unit"))) ws ({ frames := 0, cells := 0, slots := 0, locals := 0 } : Room) #[(.ref x1)] h0 (fun v h L => (v = some (.ref (w3_MONTH Z)) ∧ Fr n0 L ∧ h = h0)) := by
  refine own_met (own := "com/example/meter_to_month/metertomonth/ledger/BillingPeriod") (plainFor_of_name pn6) rfl ?_
  intro p e s m below meth c s₁ hx hby hml hown hnm hret hlk hZ e0 X0
  refine own_cast (g' := (mkF m 0 #[.val (.ref x1)] [])) (by first | (simp [entryFrame, mkF, argsToLocals, Value.category]; done) | rfl) ?_
  refine own_step (fun _ k => XS.aloadN X0.here hx rfl (hb hby d7_0) rfl rfl k) ?_
  show own_Wp p e below _ s₁ (mkF m 1 #[.val (.ref x1)] [(.ref x1)])
  obtain ⟨T1, X1, e1, st1⟩ := getF X0 hx hZ hown (host := "") (Or.inl (hw _ (List.mem_of_getElem? (i := 37) rfl))) Via.refl e0 (D0.ext O0.2) (g := (mkF m 1 #[.val (.ref x1)] [(.ref x1)])) rfl rfl (hb hby d7_1)
  refine own_step st1 ?_
  show own_Wp p e below _ T1 (mkF m 4 #[.val (.ref x1)] [(.ref (w3_MONTH Z))])
  exact own_retA X1 hx hret rfl rfl hlk (hb hby d7_4) (by decide) (by decide) (by rw [e1]; exact ⟨rfl, (Fr.nil n0), rfl⟩)

set_option maxRecDepth 65536 in
set_option maxHeartbeats 40000000 in
theorem rm8_12 (l : Launch) (Z : State) (a0 : Array Value) (hw : ∀ d ∈ tables_1, d.before a0 Z = true) (hA : ∀ d ∈ own_flat narrow_1, d.value a0 Z none Z [] = some true) (ws : List Jvm.Cond) (x1 : Addr) (h0 : Heap) (n0 : Nat) (O0 : Old Z n0 h0) (D0 : Fld Z Z.heap x1 "com/example/meter_to_month/metertomonth/ledger/BillingPeriod" "count" "I" (.int (1 : Int32))) :
    own_Met l Z (⟨"com/example/meter_to_month/metertomonth/ledger/BillingPeriod", "count", "()I"⟩ : MethodName) (Jvm.Cond.code (⟨"com/example/meter_to_month/metertomonth/ledger/BillingPeriod", "count", "()I"⟩ : MethodName) prog_4_method_7_code 1 (some .int)) ws ({ frames := 0, cells := 0, slots := 0, locals := 0 } : Room) #[(.ref x1)] h0 (fun v h L => (v = some (.int (1 : Int32)) ∧ Fr n0 L ∧ h = h0)) := by
  refine own_met (own := "com/example/meter_to_month/metertomonth/ledger/BillingPeriod") (plainFor_of_name pn6) rfl ?_
  intro p e s m below meth c s₁ hx hby hml hown hnm hret hlk hZ e0 X0
  refine own_cast (g' := (mkF m 0 #[.val (.ref x1)] [])) (by first | (simp [entryFrame, mkF, argsToLocals, Value.category]; done) | rfl) ?_
  refine own_step (fun _ k => XS.aloadN X0.here hx rfl (hb hby d8_0) rfl rfl k) ?_
  show own_Wp p e below _ s₁ (mkF m 1 #[.val (.ref x1)] [(.ref x1)])
  obtain ⟨T1, X1, e1, st1⟩ := getF X0 hx hZ hown (host := "") (Or.inl (hw _ (List.mem_of_getElem? (i := 39) rfl))) Via.refl e0 (D0.ext O0.2) (g := (mkF m 1 #[.val (.ref x1)] [(.ref x1)])) rfl rfl (hb hby d8_1)
  refine own_step st1 ?_
  show own_Wp p e below _ T1 (mkF m 4 #[.val (.ref x1)] [(.int (1 : Int32))])
  exact own_retI X1 hx hret hlk (hb hby d8_4) (by decide) (by decide) (by rw [e1]; exact ⟨rfl, (Fr.nil n0), rfl⟩)

set_option maxRecDepth 65536 in
set_option maxHeartbeats 40000000 in
theorem rm0 (l : Launch) (Z : State) (a0 : Array Value) (hw : ∀ d ∈ tables_1, d.before a0 Z = true) (hA : ∀ d ∈ own_flat narrow_1, d.value a0 Z none Z [] = some true) (ws : List Jvm.Cond) (p0 : Int32) (p1 : Int32) (p2 : Int32) (h0 : Heap) (n0 : Nat) (O0 : Old Z n0 h0) :
    own_MetW l Z x (Jvm.Cond.code x code maxLocals ret) ws room_1 #[(.int p0), (.int p1), (.int p2)] h0 (fun v h L => v = some (.int (1 : Int32)) ∧ Fr n0 L) := by
  refine own_metW (own := "com/example/meter_to_month/metertomonth/ledger/ResourceKindRenewalOfPinLaw") (plainFor_of_name pn0) rfl ?_
  intro p e s m below meth c s₁ hx hby hml hown hnm hret hlk hZ e0 X0 hS0
  refine own_cast (g' := (mkF m 0 #[.val (.int p0), .val (.int p1), .val (.int p2), .unset, .unset, .unset, .unset, .unset] [])) (by first | (simp [entryFrame, mkF, argsToLocals, Value.category, maxLocals]; done) | rfl) ?_
  show own_Wp p e below _ s₁ (mkF m 0 #[.val (.int p0), .val (.int p1), .val (.int p2), .unset, .unset, .unset, .unset, .unset] [])
  refine own_step (fun _ k => XS.iloadN X0.here hx rfl (hb hby at_0) rfl k) ?_
  show own_Wp p e below _ s₁ (mkF m 1 #[.val (.int p0), .val (.int p1), .val (.int p2), .unset, .unset, .unset, .unset, .unset] [(.int p0)])
  obtain ⟨_, T1, L1, X1, hQ1, st1⟩ := own_callS X0 hx hZ hown (hw _ (List.mem_of_getElem? (i := 0) rfl)) (hw _ (List.mem_of_getElem? (i := 1) rfl)) (hw _ (List.mem_of_getElem? (i := 2) rfl)) (hw _ (List.mem_of_getElem? (i := 3) rfl)) (by decide) (rm1_0 l Z a0 hw hA [] p0 h0 n0 O0) (W := 0) (by decide) (by decide) [(.int p0)] rfl (lenOf pd1 rfl) (Ls := #[.val (.int p0), .val (.int p1), .val (.int p2), .unset, .unset, .unset, .unset, .unset]) (by rw [hml]; rfl) (rest := []) (Nat.le_of_eq rfl) (hb hby at_1) e0 (by decide) (by decide)
  refine st1 _ ?_
  rcases hQ1 with ⟨hq1a_0, rfl, N1aq, e1a⟩ | ⟨hq1b_0, rfl, N1bq, e1b⟩ | ⟨hq1c_0, rfl, N1cq, e1c⟩ | ⟨hq1d_0, rfl, N1dq, e1d⟩
  · skip
    have N1a := Fr.app (Fr.nil n0) N1aq
    show own_Wp p e below _ T1 (mkF m 4 #[.val (.int p0), .val (.int p1), .val (.int p2), .unset, .unset, .unset, .unset, .unset] [(.ref (w0_SEARCH_CLUSTER Z))])
    refine own_step (fun _ k => XS.astoreN X1.here hx rfl (hb hby at_4) rfl rfl (l' := #[.val (.int p0), .val (.int p1), .val (.int p2), .val (.ref (w0_SEARCH_CLUSTER Z)), .unset, .unset, .unset, .unset]) rfl k) ?_
    show own_Wp p e below _ T1 (mkF m 5 #[.val (.int p0), .val (.int p1), .val (.int p2), .val (.ref (w0_SEARCH_CLUSTER Z)), .unset, .unset, .unset, .unset] [])
    refine own_step (fun _ k => XS.iloadN X1.here hx rfl (hb hby at_5) rfl k) ?_
    show own_Wp p e below _ T1 (mkF m 6 #[.val (.int p0), .val (.int p1), .val (.int p2), .val (.ref (w0_SEARCH_CLUSTER Z)), .unset, .unset, .unset, .unset] [(.int p1)])
    refine own_step (fun _ k => XS.iconst X1.here hx rfl (hb hby at_6) k) ?_
    show own_Wp p e below _ T1 (mkF m 7 #[.val (.int p0), .val (.int p1), .val (.int p2), .val (.ref (w0_SEARCH_CLUSTER Z)), .unset, .unset, .unset, .unset] [(.int (1 : Int32)), (.int p1)])
    refine own_step (fun _ k => XS.iand X1.here hx rfl (hb hby at_7) rfl k) ?_
    show own_Wp p e below _ T1 (mkF m 8 #[.val (.int p0), .val (.int p1), .val (.int p2), .val (.ref (w0_SEARCH_CLUSTER Z)), .unset, .unset, .unset, .unset] [(.int (p1 &&& (1 : Int32)))])
    by_cases hc2 : (p1 &&& (1 : Int32)) = (0 : Int32)
    · skip
      refine own_step (fun _ k => XS.ifYes X1.here hx rfl (pc0 := 8) (pc' := 17) rfl (hb hby at_8) rfl ((if0 _ _).trans (teq hc2).1) (by decide) (by decide) k) ?_
      show own_Wp p e below _ T1 (mkF m 17 #[.val (.int p0), .val (.int p1), .val (.int p2), .val (.ref (w0_SEARCH_CLUSTER Z)), .unset, .unset, .unset, .unset] [])
      obtain ⟨T3, X3, e3, st3⟩ := getS2 X1 hx hZ hown (host := "") (Or.inl (hw _ (List.mem_of_getElem? (i := 60) rfl))) Via.refl e1a ((st_w3_MONTH hw hA).ext O0.2) (g := (mkF m 17 #[.val (.int p0), .val (.int p1), .val (.int p2), .val (.ref (w0_SEARCH_CLUSTER Z)), .unset, .unset, .unset, .unset] [])) rfl (hb hby at_17)
      refine own_step st3 ?_
      show own_Wp p e below _ T3 (mkF m 20 #[.val (.int p0), .val (.int p1), .val (.int p2), .val (.ref (w0_SEARCH_CLUSTER Z)), .unset, .unset, .unset, .unset] [(.ref (w3_MONTH Z))])
      refine own_step (fun _ k => XS.astore X3.here hx rfl (hb hby at_20) rfl rfl (l' := #[.val (.int p0), .val (.int p1), .val (.int p2), .val (.ref (w0_SEARCH_CLUSTER Z)), .val (.ref (w3_MONTH Z)), .unset, .unset, .unset]) rfl k) ?_
      show own_Wp p e below _ T3 (mkF m 22 #[.val (.int p0), .val (.int p1), .val (.int p2), .val (.ref (w0_SEARCH_CLUSTER Z)), .val (.ref (w3_MONTH Z)), .unset, .unset, .unset] [])
      refine own_step (fun _ k => XS.iloadN X3.here hx rfl (hb hby at_22) rfl k) ?_
      show own_Wp p e below _ T3 (mkF m 23 #[.val (.int p0), .val (.int p1), .val (.int p2), .val (.ref (w0_SEARCH_CLUSTER Z)), .val (.ref (w3_MONTH Z)), .unset, .unset, .unset] [(.int p2)])
      refine own_step (X3.ldcInt hx hown (mvT hZ (hw _ (List.mem_of_getElem? (i := 10) rfl))) (g := (mkF m 23 #[.val (.int p0), .val (.int p1), .val (.int p2), .val (.ref (w0_SEARCH_CLUSTER Z)), .val (.ref (w3_MONTH Z)), .unset, .unset, .unset] [(.int p2)])) rfl (hb hby at_23)) ?_
      show own_Wp p e below _ T3 (mkF m 25 #[.val (.int p0), .val (.int p1), .val (.int p2), .val (.ref (w0_SEARCH_CLUSTER Z)), .val (.ref (w3_MONTH Z)), .unset, .unset, .unset] [(.int (2147483647 : Int32)), (.int p2)])
      refine own_step (fun _ k => XS.iand X3.here hx rfl (hb hby at_25) rfl k) ?_
      show own_Wp p e below _ T3 (mkF m 26 #[.val (.int p0), .val (.int p1), .val (.int p2), .val (.ref (w0_SEARCH_CLUSTER Z)), .val (.ref (w3_MONTH Z)), .unset, .unset, .unset] [(.int (p2 &&& (2147483647 : Int32)))])
      refine own_step (fun _ k => XS.istore X3.here hx rfl (hb hby at_26) rfl (l' := #[.val (.int p0), .val (.int p1), .val (.int p2), .val (.ref (w0_SEARCH_CLUSTER Z)), .val (.ref (w3_MONTH Z)), .val (.int (p2 &&& (2147483647 : Int32))), .unset, .unset]) rfl k) ?_
      show own_Wp p e below _ T3 (mkF m 28 #[.val (.int p0), .val (.int p1), .val (.int p2), .val (.ref (w0_SEARCH_CLUSTER Z)), .val (.ref (w3_MONTH Z)), .val (.int (p2 &&& (2147483647 : Int32))), .unset, .unset] [])
      refine own_step (fun _ k => XS.iload X3.here hx rfl (hb hby at_28) rfl k) ?_
      show own_Wp p e below _ T3 (mkF m 30 #[.val (.int p0), .val (.int p1), .val (.int p2), .val (.ref (w0_SEARCH_CLUSTER Z)), .val (.ref (w3_MONTH Z)), .val (.int (p2 &&& (2147483647 : Int32))), .unset, .unset] [(.int (p2 &&& (2147483647 : Int32)))])
      by_cases hc4 : (p2 &&& (2147483647 : Int32)) = (0 : Int32)
      · skip
        refine own_step (fun _ k => XS.ifNo X3.here hx rfl (hb hby at_30) rfl ((if0 _ _).trans (teq hc4).2) k) ?_
        show own_Wp p e below _ T3 (mkF m 33 #[.val (.int p0), .val (.int p1), .val (.int p2), .val (.ref (w0_SEARCH_CLUSTER Z)), .val (.ref (w3_MONTH Z)), .val (.int (p2 &&& (2147483647 : Int32))), .unset, .unset] [])
        refine own_step (fun _ k => XS.iconst X3.here hx rfl (hb hby at_33) k) ?_
        show own_Wp p e below _ T3 (mkF m 34 #[.val (.int p0), .val (.int p1), .val (.int p2), .val (.ref (w0_SEARCH_CLUSTER Z)), .val (.ref (w3_MONTH Z)), .val (.int (p2 &&& (2147483647 : Int32))), .unset, .unset] [(.int (1 : Int32))])
        refine own_step (fun _ k => XS.istore X3.here hx rfl (hb hby at_34) rfl (l' := #[.val (.int p0), .val (.int p1), .val (.int p2), .val (.ref (w0_SEARCH_CLUSTER Z)), .val (.ref (w3_MONTH Z)), .val (.int (1 : Int32)), .unset, .unset]) rfl k) ?_
        show own_Wp p e below _ T3 (mkF m 36 #[.val (.int p0), .val (.int p1), .val (.int p2), .val (.ref (w0_SEARCH_CLUSTER Z)), .val (.ref (w3_MONTH Z)), .val (.int (1 : Int32)), .unset, .unset] [])
        obtain ⟨T5, h5, X5, e5, E5, A5, D5, -, st5⟩ := newO X3 hx hZ hown (hw _ (List.mem_of_getElem? (i := 11) rfl)) (hw _ (List.mem_of_getElem? (i := 12) rfl)) (hw _ (List.mem_of_getElem? (i := 13) rfl)) e3 (g := (mkF m 36 #[.val (.int p0), .val (.int p1), .val (.int p2), .val (.ref (w0_SEARCH_CLUSTER Z)), .val (.ref (w3_MONTH Z)), .val (.int (1 : Int32)), .unset, .unset] [])) rfl (hb hby at_36) (by decide) (by decide)
        obtain ⟨b5, z5⟩ : ∃ z, z = h0.size := ⟨_, rfl⟩
        rw [← z5] at A5 D5 st5
        refine own_step st5 ?_
        have g5 : n0 ≤ b5 := Nat.le_trans (O0.1 ▸ O0.2.1) (Nat.le_of_eq z5.symm)
        have y5 : h0.size ≤ b5 := Nat.le_trans (Nat.le_refl _) (Nat.le_of_eq z5.symm)
        have O5 := O0.ext E5
        have K5 : Keep h0 h5 [] := (Keep.refl h0 []).ext E5
        have F5_38 : Fld Z h5 b5 "com/example/meter_to_month/metertomonth/ledger/BillingPeriod" "unit" "Lcom/example/meter_to_month/metertomonth/ledger/BillingPeriod$Unit;" .null := D5 (Or.inr (hw _ (List.mem_of_getElem? (i := 38) rfl))) (ty := (.object "com/example/meter_to_month/metertomonth/ledger/BillingPeriod$Unit")) (by decide)
        have F5_40 : Fld Z h5 b5 "com/example/meter_to_month/metertomonth/ledger/BillingPeriod" "count" "I" (.int (0 : Int32)) := D5 (Or.inr (hw _ (List.mem_of_getElem? (i := 40) rfl))) (ty := .int) (by decide)
        show own_Wp p e below _ T5 (mkF m 39 #[.val (.int p0), .val (.int p1), .val (.int p2), .val (.ref (w0_SEARCH_CLUSTER Z)), .val (.ref (w3_MONTH Z)), .val (.int (1 : Int32)), .unset, .unset] [(.ref b5)])
        refine own_step (fun _ k => XS.dup X5.here hx rfl (hb hby at_39) rfl rfl k) ?_
        show own_Wp p e below _ T5 (mkF m 40 #[.val (.int p0), .val (.int p1), .val (.int p2), .val (.ref (w0_SEARCH_CLUSTER Z)), .val (.ref (w3_MONTH Z)), .val (.int (1 : Int32)), .unset, .unset] [(.ref b5), (.ref b5)])
        refine own_step (fun _ k => XS.aload X5.here hx rfl (hb hby at_40) rfl rfl k) ?_
        show own_Wp p e below _ T5 (mkF m 42 #[.val (.int p0), .val (.int p1), .val (.int p2), .val (.ref (w0_SEARCH_CLUSTER Z)), .val (.ref (w3_MONTH Z)), .val (.int (1 : Int32)), .unset, .unset] [(.ref (w3_MONTH Z)), (.ref b5), (.ref b5)])
        refine own_step (fun _ k => XS.iload X5.here hx rfl (hb hby at_42) rfl k) ?_
        show own_Wp p e below _ T5 (mkF m 44 #[.val (.int p0), .val (.int p1), .val (.int p2), .val (.ref (w0_SEARCH_CLUSTER Z)), .val (.ref (w3_MONTH Z)), .val (.int (1 : Int32)), .unset, .unset] [(.int (1 : Int32)), (.ref (w3_MONTH Z)), (.ref b5), (.ref b5)])
        obtain ⟨_, T6, L6, X6, hS6, hZ6, hown6, hQ6, st6⟩ := own_callNW X5 hx hZ hS0 (Nat.zero_le _) rfl hown (hw _ (List.mem_of_getElem? (i := 14) rfl)) (hw _ (List.mem_of_getElem? (i := 15) rfl)) (hw _ (List.mem_of_getElem? (i := 13) rfl)) (hw _ (List.mem_of_getElem? (i := 16) rfl)) (by decide) (rm2_3 l Z a0 hw hA [] b5 (w3_MONTH Z) h5 n0 O5 A5 F5_38 F5_40 g5) (b := b5) (W := 1) (by decide) (by decide) [(.ref (w3_MONTH Z)), (.int (1 : Int32))] rfl (lenOf pd7 rfl) (Ls := #[.val (.int p0), .val (.int p1), .val (.int p2), .val (.ref (w0_SEARCH_CLUSTER Z)), .val (.ref (w3_MONTH Z)), .val (.int (1 : Int32)), .unset, .unset]) (by rw [hml]; rfl) (rest := [(.ref b5)]) (Nat.le_of_eq rfl) (hb hby at_44) e5 (by decide) (by decide)
        refine st6 _ ?_
        obtain ⟨rfl, N6q, K6q, F6_0, F6_1, F6_2⟩ := hQ6
        have N6 := Fr.app N1a N6q
        have O6 := O5.keep K6q (allS g5 all0)
        have K6 : Keep h0 T6.heap [] := Keep.trans K5 K6q (allS (Or.inr y5) all0)
        show own_Wp p e below _ T6 (mkF m 47 #[.val (.int p0), .val (.int p1), .val (.int p2), .val (.ref (w0_SEARCH_CLUSTER Z)), .val (.ref (w3_MONTH Z)), .val (.int (1 : Int32)), .unset, .unset] [(.ref b5)])
        refine own_step (fun _ k => XS.astore X6.here hx rfl (hb hby at_47) rfl rfl (l' := #[.val (.int p0), .val (.int p1), .val (.int p2), .val (.ref (w0_SEARCH_CLUSTER Z)), .val (.ref (w3_MONTH Z)), .val (.int (1 : Int32)), .val (.ref b5), .unset]) rfl k) ?_
        show own_Wp p e below _ T6 (mkF m 49 #[.val (.int p0), .val (.int p1), .val (.int p2), .val (.ref (w0_SEARCH_CLUSTER Z)), .val (.ref (w3_MONTH Z)), .val (.int (1 : Int32)), .val (.ref b5), .unset] [])
        refine own_step (fun _ k => XS.aloadN X6.here hx rfl (hb hby at_49) rfl rfl k) ?_
        show own_Wp p e below _ T6 (mkF m 50 #[.val (.int p0), .val (.int p1), .val (.int p2), .val (.ref (w0_SEARCH_CLUSTER Z)), .val (.ref (w3_MONTH Z)), .val (.int (1 : Int32)), .val (.ref b5), .unset] [(.ref (w0_SEARCH_CLUSTER Z))])
        refine own_step (fun _ k => XS.aload X6.here hx rfl (hb hby at_50) rfl rfl k) ?_
        show own_Wp p e below _ T6 (mkF m 52 #[.val (.int p0), .val (.int p1), .val (.int p2), .val (.ref (w0_SEARCH_CLUSTER Z)), .val (.ref (w3_MONTH Z)), .val (.int (1 : Int32)), .val (.ref b5), .unset] [(.ref b5), (.ref (w0_SEARCH_CLUSTER Z))])
        obtain ⟨_, T7, L7, X7, hQ7, st7⟩ := own_callV X6 hx hZ6 hown6 (hw _ (List.mem_of_getElem? (i := 41) rfl)) (hw _ (List.mem_of_getElem? (i := 42) rfl)) (notFace_of_selects (args := #[]) (mvT hZ6 (hw _ (List.mem_of_getElem? (i := 44) rfl)))) (hw _ (List.mem_of_getElem? (i := 44) rfl)) (hw _ (List.mem_of_getElem? (i := 43) rfl)) (hw _ (List.mem_of_getElem? (i := 5) rfl)) (hw _ (List.mem_of_getElem? (i := 45) rfl)) (by decide) ((ex_w0_SEARCH_CLUSTER hw hA).ext O6.2) (rm6_4 l Z a0 hw hA [] (w0_SEARCH_CLUSTER Z) b5 T6.heap n0 O6 (fl0 hw hA)) (W := 0) (by decide) (by decide) [(.ref b5)] rfl (lenOf pd9 rfl) (Ls := #[.val (.int p0), .val (.int p1), .val (.int p2), .val (.ref (w0_SEARCH_CLUSTER Z)), .val (.ref (w3_MONTH Z)), .val (.int (1 : Int32)), .val (.ref b5), .unset]) (by rw [hml]; rfl) (rest := []) (Nat.le_of_eq rfl) (hb hby at_52) rfl (by decide) (by decide)
        refine st7 _ ?_
        obtain ⟨rfl, N7q, e7⟩ := hQ7
        have N7 := Fr.app N6 N7q
        show own_Wp p e below _ T7 (mkF m 55 #[.val (.int p0), .val (.int p1), .val (.int p2), .val (.ref (w0_SEARCH_CLUSTER Z)), .val (.ref (w3_MONTH Z)), .val (.int (1 : Int32)), .val (.ref b5), .unset] [(.ref b5)])
        refine own_step (fun _ k => XS.astore X7.here hx rfl (hb hby at_55) rfl rfl (l' := #[.val (.int p0), .val (.int p1), .val (.int p2), .val (.ref (w0_SEARCH_CLUSTER Z)), .val (.ref (w3_MONTH Z)), .val (.int (1 : Int32)), .val (.ref b5), .val (.ref b5)]) rfl k) ?_
        show own_Wp p e below _ T7 (mkF m 57 #[.val (.int p0), .val (.int p1), .val (.int p2), .val (.ref (w0_SEARCH_CLUSTER Z)), .val (.ref (w3_MONTH Z)), .val (.int (1 : Int32)), .val (.ref b5), .val (.ref b5)] [])
        refine own_step (fun _ k => XS.aload X7.here hx rfl (hb hby at_57) rfl rfl k) ?_
        show own_Wp p e below _ T7 (mkF m 59 #[.val (.int p0), .val (.int p1), .val (.int p2), .val (.ref (w0_SEARCH_CLUSTER Z)), .val (.ref (w3_MONTH Z)), .val (.int (1 : Int32)), .val (.ref b5), .val (.ref b5)] [(.ref b5)])
        refine own_step (fun _ k => XS.ifnonnullYes X7.here hx rfl (pc0 := 59) (pc' := 64) rfl (hb hby at_59) rfl (by decide) (by decide) k) ?_
        show own_Wp p e below _ T7 (mkF m 64 #[.val (.int p0), .val (.int p1), .val (.int p2), .val (.ref (w0_SEARCH_CLUSTER Z)), .val (.ref (w3_MONTH Z)), .val (.int (1 : Int32)), .val (.ref b5), .val (.ref b5)] [])
        refine own_step (fun _ k => XS.iloadN X7.here hx rfl (hb hby at_64) rfl k) ?_
        show own_Wp p e below _ T7 (mkF m 65 #[.val (.int p0), .val (.int p1), .val (.int p2), .val (.ref (w0_SEARCH_CLUSTER Z)), .val (.ref (w3_MONTH Z)), .val (.int (1 : Int32)), .val (.ref b5), .val (.ref b5)] [(.int p0)])
        refine own_step (fun _ k => XS.iconst X7.here hx rfl (hb hby at_65) k) ?_
        show own_Wp p e below _ T7 (mkF m 66 #[.val (.int p0), .val (.int p1), .val (.int p2), .val (.ref (w0_SEARCH_CLUSTER Z)), .val (.ref (w3_MONTH Z)), .val (.int (1 : Int32)), .val (.ref b5), .val (.ref b5)] [(.int (3 : Int32)), (.int p0)])
        refine own_step (fun _ k => XS.iand X7.here hx rfl (hb hby at_66) rfl k) ?_
        show own_Wp p e below _ T7 (mkF m 67 #[.val (.int p0), .val (.int p1), .val (.int p2), .val (.ref (w0_SEARCH_CLUSTER Z)), .val (.ref (w3_MONTH Z)), .val (.int (1 : Int32)), .val (.ref b5), .val (.ref b5)] [(.int (p0 &&& (3 : Int32)))])
        refine own_step (fun _ k => XS.iconst X7.here hx rfl (hb hby at_67) k) ?_
        show own_Wp p e below _ T7 (mkF m 68 #[.val (.int p0), .val (.int p1), .val (.int p2), .val (.ref (w0_SEARCH_CLUSTER Z)), .val (.ref (w3_MONTH Z)), .val (.int (1 : Int32)), .val (.ref b5), .val (.ref b5)] [(.int (2 : Int32)), (.int (p0 &&& (3 : Int32)))])
        refine own_step (fun _ k => XS.icmpYes X7.here hx rfl (pc0 := 68) (pc' := 97) rfl (hb hby at_68) rfl (feq (by rw [hq1a_0]; decide)).2 (by decide) (by decide) k) ?_
        show own_Wp p e below _ T7 (mkF m 97 #[.val (.int p0), .val (.int p1), .val (.int p2), .val (.ref (w0_SEARCH_CLUSTER Z)), .val (.ref (w3_MONTH Z)), .val (.int (1 : Int32)), .val (.ref b5), .val (.ref b5)] [])
        refine own_step (fun _ k => XS.aload X7.here hx rfl (hb hby at_97) rfl rfl k) ?_
        show own_Wp p e below _ T7 (mkF m 99 #[.val (.int p0), .val (.int p1), .val (.int p2), .val (.ref (w0_SEARCH_CLUSTER Z)), .val (.ref (w3_MONTH Z)), .val (.int (1 : Int32)), .val (.ref b5), .val (.ref b5)] [(.ref b5)])
        obtain ⟨_, T8, L8, X8, hQ8, st8⟩ := own_callV X7 hx hZ6 hown6 (hw _ (List.mem_of_getElem? (i := 48) rfl)) (hw _ (List.mem_of_getElem? (i := 49) rfl)) (notFace_of_selects (args := #[]) (mvT hZ6 (hw _ (List.mem_of_getElem? (i := 51) rfl)))) (hw _ (List.mem_of_getElem? (i := 51) rfl)) (hw _ (List.mem_of_getElem? (i := 50) rfl)) (hw _ (List.mem_of_getElem? (i := 13) rfl)) (hw _ (List.mem_of_getElem? (i := 52) rfl)) (by decide) F6_0 (rm7_5 l Z a0 hw hA [] b5 T6.heap n0 O6 F6_1) (W := 0) (by decide) (by decide) [] rfl (lenOf pd10 rfl) (Ls := #[.val (.int p0), .val (.int p1), .val (.int p2), .val (.ref (w0_SEARCH_CLUSTER Z)), .val (.ref (w3_MONTH Z)), .val (.int (1 : Int32)), .val (.ref b5), .val (.ref b5)]) (by rw [hml]; rfl) (rest := []) (Nat.le_of_eq rfl) (hb hby at_99) e7 (by decide) (by decide)
        refine st8 _ ?_
        obtain ⟨rfl, N8q, e8⟩ := hQ8
        have N8 := Fr.app N7 N8q
        show own_Wp p e below _ T8 (mkF m 102 #[.val (.int p0), .val (.int p1), .val (.int p2), .val (.ref (w0_SEARCH_CLUSTER Z)), .val (.ref (w3_MONTH Z)), .val (.int (1 : Int32)), .val (.ref b5), .val (.ref b5)] [(.ref (w3_MONTH Z))])
        refine own_step (fun _ k => XS.aload X8.here hx rfl (hb hby at_102) rfl rfl k) ?_
        show own_Wp p e below _ T8 (mkF m 104 #[.val (.int p0), .val (.int p1), .val (.int p2), .val (.ref (w0_SEARCH_CLUSTER Z)), .val (.ref (w3_MONTH Z)), .val (.int (1 : Int32)), .val (.ref b5), .val (.ref b5)] [(.ref (w3_MONTH Z)), (.ref (w3_MONTH Z))])
        refine own_step (fun _ k => Jvm.RoadKit.acmp (g := (mkF m 104 #[.val (.int p0), .val (.int p1), .val (.int p2), .val (.ref (w0_SEARCH_CLUSTER Z)), .val (.ref (w3_MONTH Z)), .val (.int (1 : Int32)), .val (.ref b5), .val (.ref b5)] [(.ref (w3_MONTH Z)), (.ref (w3_MONTH Z))])) X8 hx rfl rfl rfl (pc0 := 104) (pc' := 107) (same := true) rfl (hb hby at_104) rfl (decide_eq_true rfl) (by decide) (by decide) k) ?_
        show own_Wp p e below _ T8 (mkF m 107 #[.val (.int p0), .val (.int p1), .val (.int p2), .val (.ref (w0_SEARCH_CLUSTER Z)), .val (.ref (w3_MONTH Z)), .val (.int (1 : Int32)), .val (.ref b5), .val (.ref b5)] [])
        refine own_step (fun _ k => XS.aload X8.here hx rfl (hb hby at_107) rfl rfl k) ?_
        show own_Wp p e below _ T8 (mkF m 109 #[.val (.int p0), .val (.int p1), .val (.int p2), .val (.ref (w0_SEARCH_CLUSTER Z)), .val (.ref (w3_MONTH Z)), .val (.int (1 : Int32)), .val (.ref b5), .val (.ref b5)] [(.ref b5)])
        obtain ⟨_, T9, L9, X9, hQ9, st9⟩ := own_callV X8 hx hZ6 hown6 (hw _ (List.mem_of_getElem? (i := 53) rfl)) (hw _ (List.mem_of_getElem? (i := 54) rfl)) (notFace_of_selects (args := #[]) (mvT hZ6 (hw _ (List.mem_of_getElem? (i := 56) rfl)))) (hw _ (List.mem_of_getElem? (i := 56) rfl)) (hw _ (List.mem_of_getElem? (i := 55) rfl)) (hw _ (List.mem_of_getElem? (i := 13) rfl)) (hw _ (List.mem_of_getElem? (i := 57) rfl)) (by decide) F6_0 (rm8_6 l Z a0 hw hA [] b5 T6.heap n0 O6 F6_2) (W := 0) (by decide) (by decide) [] rfl (lenOf pd11 rfl) (Ls := #[.val (.int p0), .val (.int p1), .val (.int p2), .val (.ref (w0_SEARCH_CLUSTER Z)), .val (.ref (w3_MONTH Z)), .val (.int (1 : Int32)), .val (.ref b5), .val (.ref b5)]) (by rw [hml]; rfl) (rest := []) (Nat.le_of_eq rfl) (hb hby at_109) e8 (by decide) (by decide)
        refine st9 _ ?_
        obtain ⟨rfl, N9q, e9⟩ := hQ9
        have N9 := Fr.app N8 N9q
        show own_Wp p e below _ T9 (mkF m 112 #[.val (.int p0), .val (.int p1), .val (.int p2), .val (.ref (w0_SEARCH_CLUSTER Z)), .val (.ref (w3_MONTH Z)), .val (.int (1 : Int32)), .val (.ref b5), .val (.ref b5)] [(.int (1 : Int32))])
        refine own_step (fun _ k => XS.iload X9.here hx rfl (hb hby at_112) rfl k) ?_
        show own_Wp p e below _ T9 (mkF m 114 #[.val (.int p0), .val (.int p1), .val (.int p2), .val (.ref (w0_SEARCH_CLUSTER Z)), .val (.ref (w3_MONTH Z)), .val (.int (1 : Int32)), .val (.ref b5), .val (.ref b5)] [(.int (1 : Int32)), (.int (1 : Int32))])
        refine own_step (fun _ k => XS.icmpNo X9.here hx rfl (hb hby at_114) rfl (by decide) k) ?_
        show own_Wp p e below _ T9 (mkF m 117 #[.val (.int p0), .val (.int p1), .val (.int p2), .val (.ref (w0_SEARCH_CLUSTER Z)), .val (.ref (w3_MONTH Z)), .val (.int (1 : Int32)), .val (.ref b5), .val (.ref b5)] [])
        refine own_step (fun _ k => XS.iconst X9.here hx rfl (hb hby at_117) k) ?_
        show own_Wp p e below _ T9 (mkF m 118 #[.val (.int p0), .val (.int p1), .val (.int p2), .val (.ref (w0_SEARCH_CLUSTER Z)), .val (.ref (w3_MONTH Z)), .val (.int (1 : Int32)), .val (.ref b5), .val (.ref b5)] [(.int (1 : Int32))])
        refine own_step (fun _ k => XS.goto X9.here hx rfl (pc0 := 118) (pc' := 122) rfl (hb hby at_118) (by decide) (by decide) k) ?_
        show own_Wp p e below _ T9 (mkF m 122 #[.val (.int p0), .val (.int p1), .val (.int p2), .val (.ref (w0_SEARCH_CLUSTER Z)), .val (.ref (w3_MONTH Z)), .val (.int (1 : Int32)), .val (.ref b5), .val (.ref b5)] [(.int (1 : Int32))])
        exact own_retNW X9 hS6 (by rw [e9]; exact (Nat.le_refl _)) hx (t := .boolean) hret (by simp) hlk (hb hby at_122) (by decide) (by decide) ⟨rfl, N9⟩
      · skip
        refine own_step (fun _ k => XS.ifYes X3.here hx rfl (pc0 := 30) (pc' := 36) rfl (hb hby at_30) rfl ((if0 _ _).trans (feq hc4).2) (by decide) (by decide) k) ?_
        show own_Wp p e below _ T3 (mkF m 36 #[.val (.int p0), .val (.int p1), .val (.int p2), .val (.ref (w0_SEARCH_CLUSTER Z)), .val (.ref (w3_MONTH Z)), .val (.int (p2 &&& (2147483647 : Int32))), .unset, .unset] [])
        have hpos : ¬ ((p2 &&& (2147483647 : Int32)) < (1 : Int32)) := own_pos hc4
        obtain ⟨T10, h10, X10, e10, E10, A10, D10, -, st10⟩ := newO X3 hx hZ hown (hw _ (List.mem_of_getElem? (i := 11) rfl)) (hw _ (List.mem_of_getElem? (i := 12) rfl)) (hw _ (List.mem_of_getElem? (i := 13) rfl)) e3 (g := (mkF m 36 #[.val (.int p0), .val (.int p1), .val (.int p2), .val (.ref (w0_SEARCH_CLUSTER Z)), .val (.ref (w3_MONTH Z)), .val (.int (p2 &&& (2147483647 : Int32))), .unset, .unset] [])) rfl (hb hby at_36) (by decide) (by decide)
        obtain ⟨b10, z10⟩ : ∃ z, z = h0.size := ⟨_, rfl⟩
        rw [← z10] at A10 D10 st10
        refine own_step st10 ?_
        have g10 : n0 ≤ b10 := Nat.le_trans (O0.1 ▸ O0.2.1) (Nat.le_of_eq z10.symm)
        have y10 : h0.size ≤ b10 := Nat.le_trans (Nat.le_refl _) (Nat.le_of_eq z10.symm)
        have O10 := O0.ext E10
        have K10 : Keep h0 h10 [] := (Keep.refl h0 []).ext E10
        have F10_38 : Fld Z h10 b10 "com/example/meter_to_month/metertomonth/ledger/BillingPeriod" "unit" "Lcom/example/meter_to_month/metertomonth/ledger/BillingPeriod$Unit;" .null := D10 (Or.inr (hw _ (List.mem_of_getElem? (i := 38) rfl))) (ty := (.object "com/example/meter_to_month/metertomonth/ledger/BillingPeriod$Unit")) (by decide)
        have F10_40 : Fld Z h10 b10 "com/example/meter_to_month/metertomonth/ledger/BillingPeriod" "count" "I" (.int (0 : Int32)) := D10 (Or.inr (hw _ (List.mem_of_getElem? (i := 40) rfl))) (ty := .int) (by decide)
        show own_Wp p e below _ T10 (mkF m 39 #[.val (.int p0), .val (.int p1), .val (.int p2), .val (.ref (w0_SEARCH_CLUSTER Z)), .val (.ref (w3_MONTH Z)), .val (.int (p2 &&& (2147483647 : Int32))), .unset, .unset] [(.ref b10)])
        refine own_step (fun _ k => XS.dup X10.here hx rfl (hb hby at_39) rfl rfl k) ?_
        show own_Wp p e below _ T10 (mkF m 40 #[.val (.int p0), .val (.int p1), .val (.int p2), .val (.ref (w0_SEARCH_CLUSTER Z)), .val (.ref (w3_MONTH Z)), .val (.int (p2 &&& (2147483647 : Int32))), .unset, .unset] [(.ref b10), (.ref b10)])
        refine own_step (fun _ k => XS.aload X10.here hx rfl (hb hby at_40) rfl rfl k) ?_
        show own_Wp p e below _ T10 (mkF m 42 #[.val (.int p0), .val (.int p1), .val (.int p2), .val (.ref (w0_SEARCH_CLUSTER Z)), .val (.ref (w3_MONTH Z)), .val (.int (p2 &&& (2147483647 : Int32))), .unset, .unset] [(.ref (w3_MONTH Z)), (.ref b10), (.ref b10)])
        refine own_step (fun _ k => XS.iload X10.here hx rfl (hb hby at_42) rfl k) ?_
        show own_Wp p e below _ T10 (mkF m 44 #[.val (.int p0), .val (.int p1), .val (.int p2), .val (.ref (w0_SEARCH_CLUSTER Z)), .val (.ref (w3_MONTH Z)), .val (.int (p2 &&& (2147483647 : Int32))), .unset, .unset] [(.int (p2 &&& (2147483647 : Int32))), (.ref (w3_MONTH Z)), (.ref b10), (.ref b10)])
        obtain ⟨_, T11, L11, X11, hS11, hZ11, hown11, hQ11, st11⟩ := own_callNW X10 hx hZ hS0 (Nat.zero_le _) rfl hown (hw _ (List.mem_of_getElem? (i := 14) rfl)) (hw _ (List.mem_of_getElem? (i := 15) rfl)) (hw _ (List.mem_of_getElem? (i := 13) rfl)) (hw _ (List.mem_of_getElem? (i := 16) rfl)) (by decide) (rm2_7 l Z a0 hw hA [] b10 (w3_MONTH Z) (p2 &&& (2147483647 : Int32)) h10 n0 O10 A10 F10_38 F10_40 g10 hpos) (b := b10) (W := 1) (by decide) (by decide) [(.ref (w3_MONTH Z)), (.int (p2 &&& (2147483647 : Int32)))] rfl (lenOf pd7 rfl) (Ls := #[.val (.int p0), .val (.int p1), .val (.int p2), .val (.ref (w0_SEARCH_CLUSTER Z)), .val (.ref (w3_MONTH Z)), .val (.int (p2 &&& (2147483647 : Int32))), .unset, .unset]) (by rw [hml]; rfl) (rest := [(.ref b10)]) (Nat.le_of_eq rfl) (hb hby at_44) e10 (by decide) (by decide)
        refine st11 _ ?_
        obtain ⟨rfl, N11q, K11q, F11_0, F11_1, F11_2⟩ := hQ11
        have N11 := Fr.app N1a N11q
        have O11 := O10.keep K11q (allS g10 all0)
        have K11 : Keep h0 T11.heap [] := Keep.trans K10 K11q (allS (Or.inr y10) all0)
        show own_Wp p e below _ T11 (mkF m 47 #[.val (.int p0), .val (.int p1), .val (.int p2), .val (.ref (w0_SEARCH_CLUSTER Z)), .val (.ref (w3_MONTH Z)), .val (.int (p2 &&& (2147483647 : Int32))), .unset, .unset] [(.ref b10)])
        refine own_step (fun _ k => XS.astore X11.here hx rfl (hb hby at_47) rfl rfl (l' := #[.val (.int p0), .val (.int p1), .val (.int p2), .val (.ref (w0_SEARCH_CLUSTER Z)), .val (.ref (w3_MONTH Z)), .val (.int (p2 &&& (2147483647 : Int32))), .val (.ref b10), .unset]) rfl k) ?_
        show own_Wp p e below _ T11 (mkF m 49 #[.val (.int p0), .val (.int p1), .val (.int p2), .val (.ref (w0_SEARCH_CLUSTER Z)), .val (.ref (w3_MONTH Z)), .val (.int (p2 &&& (2147483647 : Int32))), .val (.ref b10), .unset] [])
        refine own_step (fun _ k => XS.aloadN X11.here hx rfl (hb hby at_49) rfl rfl k) ?_
        show own_Wp p e below _ T11 (mkF m 50 #[.val (.int p0), .val (.int p1), .val (.int p2), .val (.ref (w0_SEARCH_CLUSTER Z)), .val (.ref (w3_MONTH Z)), .val (.int (p2 &&& (2147483647 : Int32))), .val (.ref b10), .unset] [(.ref (w0_SEARCH_CLUSTER Z))])
        refine own_step (fun _ k => XS.aload X11.here hx rfl (hb hby at_50) rfl rfl k) ?_
        show own_Wp p e below _ T11 (mkF m 52 #[.val (.int p0), .val (.int p1), .val (.int p2), .val (.ref (w0_SEARCH_CLUSTER Z)), .val (.ref (w3_MONTH Z)), .val (.int (p2 &&& (2147483647 : Int32))), .val (.ref b10), .unset] [(.ref b10), (.ref (w0_SEARCH_CLUSTER Z))])
        obtain ⟨_, T12, L12, X12, hQ12, st12⟩ := own_callV X11 hx hZ11 hown11 (hw _ (List.mem_of_getElem? (i := 41) rfl)) (hw _ (List.mem_of_getElem? (i := 42) rfl)) (notFace_of_selects (args := #[]) (mvT hZ11 (hw _ (List.mem_of_getElem? (i := 44) rfl)))) (hw _ (List.mem_of_getElem? (i := 44) rfl)) (hw _ (List.mem_of_getElem? (i := 43) rfl)) (hw _ (List.mem_of_getElem? (i := 5) rfl)) (hw _ (List.mem_of_getElem? (i := 45) rfl)) (by decide) ((ex_w0_SEARCH_CLUSTER hw hA).ext O11.2) (rm6_4 l Z a0 hw hA [] (w0_SEARCH_CLUSTER Z) b10 T11.heap n0 O11 (fl0 hw hA)) (W := 0) (by decide) (by decide) [(.ref b10)] rfl (lenOf pd9 rfl) (Ls := #[.val (.int p0), .val (.int p1), .val (.int p2), .val (.ref (w0_SEARCH_CLUSTER Z)), .val (.ref (w3_MONTH Z)), .val (.int (p2 &&& (2147483647 : Int32))), .val (.ref b10), .unset]) (by rw [hml]; rfl) (rest := []) (Nat.le_of_eq rfl) (hb hby at_52) rfl (by decide) (by decide)
        refine st12 _ ?_
        obtain ⟨rfl, N12q, e12⟩ := hQ12
        have N12 := Fr.app N11 N12q
        show own_Wp p e below _ T12 (mkF m 55 #[.val (.int p0), .val (.int p1), .val (.int p2), .val (.ref (w0_SEARCH_CLUSTER Z)), .val (.ref (w3_MONTH Z)), .val (.int (p2 &&& (2147483647 : Int32))), .val (.ref b10), .unset] [(.ref b10)])
        refine own_step (fun _ k => XS.astore X12.here hx rfl (hb hby at_55) rfl rfl (l' := #[.val (.int p0), .val (.int p1), .val (.int p2), .val (.ref (w0_SEARCH_CLUSTER Z)), .val (.ref (w3_MONTH Z)), .val (.int (p2 &&& (2147483647 : Int32))), .val (.ref b10), .val (.ref b10)]) rfl k) ?_
        show own_Wp p e below _ T12 (mkF m 57 #[.val (.int p0), .val (.int p1), .val (.int p2), .val (.ref (w0_SEARCH_CLUSTER Z)), .val (.ref (w3_MONTH Z)), .val (.int (p2 &&& (2147483647 : Int32))), .val (.ref b10), .val (.ref b10)] [])
        refine own_step (fun _ k => XS.aload X12.here hx rfl (hb hby at_57) rfl rfl k) ?_
        show own_Wp p e below _ T12 (mkF m 59 #[.val (.int p0), .val (.int p1), .val (.int p2), .val (.ref (w0_SEARCH_CLUSTER Z)), .val (.ref (w3_MONTH Z)), .val (.int (p2 &&& (2147483647 : Int32))), .val (.ref b10), .val (.ref b10)] [(.ref b10)])
        refine own_step (fun _ k => XS.ifnonnullYes X12.here hx rfl (pc0 := 59) (pc' := 64) rfl (hb hby at_59) rfl (by decide) (by decide) k) ?_
        show own_Wp p e below _ T12 (mkF m 64 #[.val (.int p0), .val (.int p1), .val (.int p2), .val (.ref (w0_SEARCH_CLUSTER Z)), .val (.ref (w3_MONTH Z)), .val (.int (p2 &&& (2147483647 : Int32))), .val (.ref b10), .val (.ref b10)] [])
        refine own_step (fun _ k => XS.iloadN X12.here hx rfl (hb hby at_64) rfl k) ?_
        show own_Wp p e below _ T12 (mkF m 65 #[.val (.int p0), .val (.int p1), .val (.int p2), .val (.ref (w0_SEARCH_CLUSTER Z)), .val (.ref (w3_MONTH Z)), .val (.int (p2 &&& (2147483647 : Int32))), .val (.ref b10), .val (.ref b10)] [(.int p0)])
        refine own_step (fun _ k => XS.iconst X12.here hx rfl (hb hby at_65) k) ?_
        show own_Wp p e below _ T12 (mkF m 66 #[.val (.int p0), .val (.int p1), .val (.int p2), .val (.ref (w0_SEARCH_CLUSTER Z)), .val (.ref (w3_MONTH Z)), .val (.int (p2 &&& (2147483647 : Int32))), .val (.ref b10), .val (.ref b10)] [(.int (3 : Int32)), (.int p0)])
        refine own_step (fun _ k => XS.iand X12.here hx rfl (hb hby at_66) rfl k) ?_
        show own_Wp p e below _ T12 (mkF m 67 #[.val (.int p0), .val (.int p1), .val (.int p2), .val (.ref (w0_SEARCH_CLUSTER Z)), .val (.ref (w3_MONTH Z)), .val (.int (p2 &&& (2147483647 : Int32))), .val (.ref b10), .val (.ref b10)] [(.int (p0 &&& (3 : Int32)))])
        refine own_step (fun _ k => XS.iconst X12.here hx rfl (hb hby at_67) k) ?_
        show own_Wp p e below _ T12 (mkF m 68 #[.val (.int p0), .val (.int p1), .val (.int p2), .val (.ref (w0_SEARCH_CLUSTER Z)), .val (.ref (w3_MONTH Z)), .val (.int (p2 &&& (2147483647 : Int32))), .val (.ref b10), .val (.ref b10)] [(.int (2 : Int32)), (.int (p0 &&& (3 : Int32)))])
        refine own_step (fun _ k => XS.icmpYes X12.here hx rfl (pc0 := 68) (pc' := 97) rfl (hb hby at_68) rfl (feq (by rw [hq1a_0]; decide)).2 (by decide) (by decide) k) ?_
        show own_Wp p e below _ T12 (mkF m 97 #[.val (.int p0), .val (.int p1), .val (.int p2), .val (.ref (w0_SEARCH_CLUSTER Z)), .val (.ref (w3_MONTH Z)), .val (.int (p2 &&& (2147483647 : Int32))), .val (.ref b10), .val (.ref b10)] [])
        refine own_step (fun _ k => XS.aload X12.here hx rfl (hb hby at_97) rfl rfl k) ?_
        show own_Wp p e below _ T12 (mkF m 99 #[.val (.int p0), .val (.int p1), .val (.int p2), .val (.ref (w0_SEARCH_CLUSTER Z)), .val (.ref (w3_MONTH Z)), .val (.int (p2 &&& (2147483647 : Int32))), .val (.ref b10), .val (.ref b10)] [(.ref b10)])
        obtain ⟨_, T13, L13, X13, hQ13, st13⟩ := own_callV X12 hx hZ11 hown11 (hw _ (List.mem_of_getElem? (i := 48) rfl)) (hw _ (List.mem_of_getElem? (i := 49) rfl)) (notFace_of_selects (args := #[]) (mvT hZ11 (hw _ (List.mem_of_getElem? (i := 51) rfl)))) (hw _ (List.mem_of_getElem? (i := 51) rfl)) (hw _ (List.mem_of_getElem? (i := 50) rfl)) (hw _ (List.mem_of_getElem? (i := 13) rfl)) (hw _ (List.mem_of_getElem? (i := 52) rfl)) (by decide) F11_0 (rm7_5 l Z a0 hw hA [] b10 T11.heap n0 O11 F11_1) (W := 0) (by decide) (by decide) [] rfl (lenOf pd10 rfl) (Ls := #[.val (.int p0), .val (.int p1), .val (.int p2), .val (.ref (w0_SEARCH_CLUSTER Z)), .val (.ref (w3_MONTH Z)), .val (.int (p2 &&& (2147483647 : Int32))), .val (.ref b10), .val (.ref b10)]) (by rw [hml]; rfl) (rest := []) (Nat.le_of_eq rfl) (hb hby at_99) e12 (by decide) (by decide)
        refine st13 _ ?_
        obtain ⟨rfl, N13q, e13⟩ := hQ13
        have N13 := Fr.app N12 N13q
        show own_Wp p e below _ T13 (mkF m 102 #[.val (.int p0), .val (.int p1), .val (.int p2), .val (.ref (w0_SEARCH_CLUSTER Z)), .val (.ref (w3_MONTH Z)), .val (.int (p2 &&& (2147483647 : Int32))), .val (.ref b10), .val (.ref b10)] [(.ref (w3_MONTH Z))])
        refine own_step (fun _ k => XS.aload X13.here hx rfl (hb hby at_102) rfl rfl k) ?_
        show own_Wp p e below _ T13 (mkF m 104 #[.val (.int p0), .val (.int p1), .val (.int p2), .val (.ref (w0_SEARCH_CLUSTER Z)), .val (.ref (w3_MONTH Z)), .val (.int (p2 &&& (2147483647 : Int32))), .val (.ref b10), .val (.ref b10)] [(.ref (w3_MONTH Z)), (.ref (w3_MONTH Z))])
        refine own_step (fun _ k => Jvm.RoadKit.acmp (g := (mkF m 104 #[.val (.int p0), .val (.int p1), .val (.int p2), .val (.ref (w0_SEARCH_CLUSTER Z)), .val (.ref (w3_MONTH Z)), .val (.int (p2 &&& (2147483647 : Int32))), .val (.ref b10), .val (.ref b10)] [(.ref (w3_MONTH Z)), (.ref (w3_MONTH Z))])) X13 hx rfl rfl rfl (pc0 := 104) (pc' := 107) (same := true) rfl (hb hby at_104) rfl (decide_eq_true rfl) (by decide) (by decide) k) ?_
        show own_Wp p e below _ T13 (mkF m 107 #[.val (.int p0), .val (.int p1), .val (.int p2), .val (.ref (w0_SEARCH_CLUSTER Z)), .val (.ref (w3_MONTH Z)), .val (.int (p2 &&& (2147483647 : Int32))), .val (.ref b10), .val (.ref b10)] [])
        refine own_step (fun _ k => XS.aload X13.here hx rfl (hb hby at_107) rfl rfl k) ?_
        show own_Wp p e below _ T13 (mkF m 109 #[.val (.int p0), .val (.int p1), .val (.int p2), .val (.ref (w0_SEARCH_CLUSTER Z)), .val (.ref (w3_MONTH Z)), .val (.int (p2 &&& (2147483647 : Int32))), .val (.ref b10), .val (.ref b10)] [(.ref b10)])
        obtain ⟨_, T14, L14, X14, hQ14, st14⟩ := own_callV X13 hx hZ11 hown11 (hw _ (List.mem_of_getElem? (i := 53) rfl)) (hw _ (List.mem_of_getElem? (i := 54) rfl)) (notFace_of_selects (args := #[]) (mvT hZ11 (hw _ (List.mem_of_getElem? (i := 56) rfl)))) (hw _ (List.mem_of_getElem? (i := 56) rfl)) (hw _ (List.mem_of_getElem? (i := 55) rfl)) (hw _ (List.mem_of_getElem? (i := 13) rfl)) (hw _ (List.mem_of_getElem? (i := 57) rfl)) (by decide) F11_0 (rm8_8 l Z a0 hw hA [] b10 (p2 &&& (2147483647 : Int32)) T11.heap n0 O11 F11_2) (W := 0) (by decide) (by decide) [] rfl (lenOf pd11 rfl) (Ls := #[.val (.int p0), .val (.int p1), .val (.int p2), .val (.ref (w0_SEARCH_CLUSTER Z)), .val (.ref (w3_MONTH Z)), .val (.int (p2 &&& (2147483647 : Int32))), .val (.ref b10), .val (.ref b10)]) (by rw [hml]; rfl) (rest := []) (Nat.le_of_eq rfl) (hb hby at_109) e13 (by decide) (by decide)
        refine st14 _ ?_
        obtain ⟨rfl, N14q, e14⟩ := hQ14
        have N14 := Fr.app N13 N14q
        show own_Wp p e below _ T14 (mkF m 112 #[.val (.int p0), .val (.int p1), .val (.int p2), .val (.ref (w0_SEARCH_CLUSTER Z)), .val (.ref (w3_MONTH Z)), .val (.int (p2 &&& (2147483647 : Int32))), .val (.ref b10), .val (.ref b10)] [(.int (p2 &&& (2147483647 : Int32)))])
        refine own_step (fun _ k => XS.iload X14.here hx rfl (hb hby at_112) rfl k) ?_
        show own_Wp p e below _ T14 (mkF m 114 #[.val (.int p0), .val (.int p1), .val (.int p2), .val (.ref (w0_SEARCH_CLUSTER Z)), .val (.ref (w3_MONTH Z)), .val (.int (p2 &&& (2147483647 : Int32))), .val (.ref b10), .val (.ref b10)] [(.int (p2 &&& (2147483647 : Int32))), (.int (p2 &&& (2147483647 : Int32)))])
        refine own_step (fun _ k => XS.icmpNo X14.here hx rfl (hb hby at_114) rfl (teq (rfl : (p2 &&& (2147483647 : Int32)) = (p2 &&& (2147483647 : Int32)))).2 k) ?_
        show own_Wp p e below _ T14 (mkF m 117 #[.val (.int p0), .val (.int p1), .val (.int p2), .val (.ref (w0_SEARCH_CLUSTER Z)), .val (.ref (w3_MONTH Z)), .val (.int (p2 &&& (2147483647 : Int32))), .val (.ref b10), .val (.ref b10)] [])
        refine own_step (fun _ k => XS.iconst X14.here hx rfl (hb hby at_117) k) ?_
        show own_Wp p e below _ T14 (mkF m 118 #[.val (.int p0), .val (.int p1), .val (.int p2), .val (.ref (w0_SEARCH_CLUSTER Z)), .val (.ref (w3_MONTH Z)), .val (.int (p2 &&& (2147483647 : Int32))), .val (.ref b10), .val (.ref b10)] [(.int (1 : Int32))])
        refine own_step (fun _ k => XS.goto X14.here hx rfl (pc0 := 118) (pc' := 122) rfl (hb hby at_118) (by decide) (by decide) k) ?_
        show own_Wp p e below _ T14 (mkF m 122 #[.val (.int p0), .val (.int p1), .val (.int p2), .val (.ref (w0_SEARCH_CLUSTER Z)), .val (.ref (w3_MONTH Z)), .val (.int (p2 &&& (2147483647 : Int32))), .val (.ref b10), .val (.ref b10)] [(.int (1 : Int32))])
        exact own_retNW X14 hS11 (by rw [e14]; exact (Nat.le_refl _)) hx (t := .boolean) hret (by simp) hlk (hb hby at_122) (by decide) (by decide) ⟨rfl, N14⟩
    · skip
      refine own_step (fun _ k => XS.ifNo X1.here hx rfl (hb hby at_8) rfl ((if0 _ _).trans (feq hc2).1) k) ?_
      show own_Wp p e below _ T1 (mkF m 11 #[.val (.int p0), .val (.int p1), .val (.int p2), .val (.ref (w0_SEARCH_CLUSTER Z)), .unset, .unset, .unset, .unset] [])
      obtain ⟨T15, X15, e15, st15⟩ := getS2 X1 hx hZ hown (host := "") (Or.inl (hw _ (List.mem_of_getElem? (i := 7) rfl))) Via.refl e1a ((st_w1_YEAR hw hA).ext O0.2) (g := (mkF m 11 #[.val (.int p0), .val (.int p1), .val (.int p2), .val (.ref (w0_SEARCH_CLUSTER Z)), .unset, .unset, .unset, .unset] [])) rfl (hb hby at_11)
      refine own_step st15 ?_
      show own_Wp p e below _ T15 (mkF m 14 #[.val (.int p0), .val (.int p1), .val (.int p2), .val (.ref (w0_SEARCH_CLUSTER Z)), .unset, .unset, .unset, .unset] [(.ref (w1_YEAR Z))])
      refine own_step (fun _ k => XS.goto X15.here hx rfl (pc0 := 14) (pc' := 20) rfl (hb hby at_14) (by decide) (by decide) k) ?_
      show own_Wp p e below _ T15 (mkF m 20 #[.val (.int p0), .val (.int p1), .val (.int p2), .val (.ref (w0_SEARCH_CLUSTER Z)), .unset, .unset, .unset, .unset] [(.ref (w1_YEAR Z))])
      refine own_step (fun _ k => XS.astore X15.here hx rfl (hb hby at_20) rfl rfl (l' := #[.val (.int p0), .val (.int p1), .val (.int p2), .val (.ref (w0_SEARCH_CLUSTER Z)), .val (.ref (w1_YEAR Z)), .unset, .unset, .unset]) rfl k) ?_
      show own_Wp p e below _ T15 (mkF m 22 #[.val (.int p0), .val (.int p1), .val (.int p2), .val (.ref (w0_SEARCH_CLUSTER Z)), .val (.ref (w1_YEAR Z)), .unset, .unset, .unset] [])
      refine own_step (fun _ k => XS.iloadN X15.here hx rfl (hb hby at_22) rfl k) ?_
      show own_Wp p e below _ T15 (mkF m 23 #[.val (.int p0), .val (.int p1), .val (.int p2), .val (.ref (w0_SEARCH_CLUSTER Z)), .val (.ref (w1_YEAR Z)), .unset, .unset, .unset] [(.int p2)])
      refine own_step (X15.ldcInt hx hown (mvT hZ (hw _ (List.mem_of_getElem? (i := 10) rfl))) (g := (mkF m 23 #[.val (.int p0), .val (.int p1), .val (.int p2), .val (.ref (w0_SEARCH_CLUSTER Z)), .val (.ref (w1_YEAR Z)), .unset, .unset, .unset] [(.int p2)])) rfl (hb hby at_23)) ?_
      show own_Wp p e below _ T15 (mkF m 25 #[.val (.int p0), .val (.int p1), .val (.int p2), .val (.ref (w0_SEARCH_CLUSTER Z)), .val (.ref (w1_YEAR Z)), .unset, .unset, .unset] [(.int (2147483647 : Int32)), (.int p2)])
      refine own_step (fun _ k => XS.iand X15.here hx rfl (hb hby at_25) rfl k) ?_
      show own_Wp p e below _ T15 (mkF m 26 #[.val (.int p0), .val (.int p1), .val (.int p2), .val (.ref (w0_SEARCH_CLUSTER Z)), .val (.ref (w1_YEAR Z)), .unset, .unset, .unset] [(.int (p2 &&& (2147483647 : Int32)))])
      refine own_step (fun _ k => XS.istore X15.here hx rfl (hb hby at_26) rfl (l' := #[.val (.int p0), .val (.int p1), .val (.int p2), .val (.ref (w0_SEARCH_CLUSTER Z)), .val (.ref (w1_YEAR Z)), .val (.int (p2 &&& (2147483647 : Int32))), .unset, .unset]) rfl k) ?_
      show own_Wp p e below _ T15 (mkF m 28 #[.val (.int p0), .val (.int p1), .val (.int p2), .val (.ref (w0_SEARCH_CLUSTER Z)), .val (.ref (w1_YEAR Z)), .val (.int (p2 &&& (2147483647 : Int32))), .unset, .unset] [])
      refine own_step (fun _ k => XS.iload X15.here hx rfl (hb hby at_28) rfl k) ?_
      show own_Wp p e below _ T15 (mkF m 30 #[.val (.int p0), .val (.int p1), .val (.int p2), .val (.ref (w0_SEARCH_CLUSTER Z)), .val (.ref (w1_YEAR Z)), .val (.int (p2 &&& (2147483647 : Int32))), .unset, .unset] [(.int (p2 &&& (2147483647 : Int32)))])
      by_cases hc16 : (p2 &&& (2147483647 : Int32)) = (0 : Int32)
      · skip
        refine own_step (fun _ k => XS.ifNo X15.here hx rfl (hb hby at_30) rfl ((if0 _ _).trans (teq hc16).2) k) ?_
        show own_Wp p e below _ T15 (mkF m 33 #[.val (.int p0), .val (.int p1), .val (.int p2), .val (.ref (w0_SEARCH_CLUSTER Z)), .val (.ref (w1_YEAR Z)), .val (.int (p2 &&& (2147483647 : Int32))), .unset, .unset] [])
        refine own_step (fun _ k => XS.iconst X15.here hx rfl (hb hby at_33) k) ?_
        show own_Wp p e below _ T15 (mkF m 34 #[.val (.int p0), .val (.int p1), .val (.int p2), .val (.ref (w0_SEARCH_CLUSTER Z)), .val (.ref (w1_YEAR Z)), .val (.int (p2 &&& (2147483647 : Int32))), .unset, .unset] [(.int (1 : Int32))])
        refine own_step (fun _ k => XS.istore X15.here hx rfl (hb hby at_34) rfl (l' := #[.val (.int p0), .val (.int p1), .val (.int p2), .val (.ref (w0_SEARCH_CLUSTER Z)), .val (.ref (w1_YEAR Z)), .val (.int (1 : Int32)), .unset, .unset]) rfl k) ?_
        show own_Wp p e below _ T15 (mkF m 36 #[.val (.int p0), .val (.int p1), .val (.int p2), .val (.ref (w0_SEARCH_CLUSTER Z)), .val (.ref (w1_YEAR Z)), .val (.int (1 : Int32)), .unset, .unset] [])
        obtain ⟨T17, h17, X17, e17, E17, A17, D17, -, st17⟩ := newO X15 hx hZ hown (hw _ (List.mem_of_getElem? (i := 11) rfl)) (hw _ (List.mem_of_getElem? (i := 12) rfl)) (hw _ (List.mem_of_getElem? (i := 13) rfl)) e15 (g := (mkF m 36 #[.val (.int p0), .val (.int p1), .val (.int p2), .val (.ref (w0_SEARCH_CLUSTER Z)), .val (.ref (w1_YEAR Z)), .val (.int (1 : Int32)), .unset, .unset] [])) rfl (hb hby at_36) (by decide) (by decide)
        obtain ⟨b17, z17⟩ : ∃ z, z = h0.size := ⟨_, rfl⟩
        rw [← z17] at A17 D17 st17
        refine own_step st17 ?_
        have g17 : n0 ≤ b17 := Nat.le_trans (O0.1 ▸ O0.2.1) (Nat.le_of_eq z17.symm)
        have y17 : h0.size ≤ b17 := Nat.le_trans (Nat.le_refl _) (Nat.le_of_eq z17.symm)
        have O17 := O0.ext E17
        have K17 : Keep h0 h17 [] := (Keep.refl h0 []).ext E17
        have F17_38 : Fld Z h17 b17 "com/example/meter_to_month/metertomonth/ledger/BillingPeriod" "unit" "Lcom/example/meter_to_month/metertomonth/ledger/BillingPeriod$Unit;" .null := D17 (Or.inr (hw _ (List.mem_of_getElem? (i := 38) rfl))) (ty := (.object "com/example/meter_to_month/metertomonth/ledger/BillingPeriod$Unit")) (by decide)
        have F17_40 : Fld Z h17 b17 "com/example/meter_to_month/metertomonth/ledger/BillingPeriod" "count" "I" (.int (0 : Int32)) := D17 (Or.inr (hw _ (List.mem_of_getElem? (i := 40) rfl))) (ty := .int) (by decide)
        show own_Wp p e below _ T17 (mkF m 39 #[.val (.int p0), .val (.int p1), .val (.int p2), .val (.ref (w0_SEARCH_CLUSTER Z)), .val (.ref (w1_YEAR Z)), .val (.int (1 : Int32)), .unset, .unset] [(.ref b17)])
        refine own_step (fun _ k => XS.dup X17.here hx rfl (hb hby at_39) rfl rfl k) ?_
        show own_Wp p e below _ T17 (mkF m 40 #[.val (.int p0), .val (.int p1), .val (.int p2), .val (.ref (w0_SEARCH_CLUSTER Z)), .val (.ref (w1_YEAR Z)), .val (.int (1 : Int32)), .unset, .unset] [(.ref b17), (.ref b17)])
        refine own_step (fun _ k => XS.aload X17.here hx rfl (hb hby at_40) rfl rfl k) ?_
        show own_Wp p e below _ T17 (mkF m 42 #[.val (.int p0), .val (.int p1), .val (.int p2), .val (.ref (w0_SEARCH_CLUSTER Z)), .val (.ref (w1_YEAR Z)), .val (.int (1 : Int32)), .unset, .unset] [(.ref (w1_YEAR Z)), (.ref b17), (.ref b17)])
        refine own_step (fun _ k => XS.iload X17.here hx rfl (hb hby at_42) rfl k) ?_
        show own_Wp p e below _ T17 (mkF m 44 #[.val (.int p0), .val (.int p1), .val (.int p2), .val (.ref (w0_SEARCH_CLUSTER Z)), .val (.ref (w1_YEAR Z)), .val (.int (1 : Int32)), .unset, .unset] [(.int (1 : Int32)), (.ref (w1_YEAR Z)), (.ref b17), (.ref b17)])
        obtain ⟨_, T18, L18, X18, hS18, hZ18, hown18, hQ18, st18⟩ := own_callNW X17 hx hZ hS0 (Nat.zero_le _) rfl hown (hw _ (List.mem_of_getElem? (i := 14) rfl)) (hw _ (List.mem_of_getElem? (i := 15) rfl)) (hw _ (List.mem_of_getElem? (i := 13) rfl)) (hw _ (List.mem_of_getElem? (i := 16) rfl)) (by decide) (rm2_3 l Z a0 hw hA [] b17 (w1_YEAR Z) h17 n0 O17 A17 F17_38 F17_40 g17) (b := b17) (W := 1) (by decide) (by decide) [(.ref (w1_YEAR Z)), (.int (1 : Int32))] rfl (lenOf pd7 rfl) (Ls := #[.val (.int p0), .val (.int p1), .val (.int p2), .val (.ref (w0_SEARCH_CLUSTER Z)), .val (.ref (w1_YEAR Z)), .val (.int (1 : Int32)), .unset, .unset]) (by rw [hml]; rfl) (rest := [(.ref b17)]) (Nat.le_of_eq rfl) (hb hby at_44) e17 (by decide) (by decide)
        refine st18 _ ?_
        obtain ⟨rfl, N18q, K18q, F18_0, F18_1, F18_2⟩ := hQ18
        have N18 := Fr.app N1a N18q
        have O18 := O17.keep K18q (allS g17 all0)
        have K18 : Keep h0 T18.heap [] := Keep.trans K17 K18q (allS (Or.inr y17) all0)
        show own_Wp p e below _ T18 (mkF m 47 #[.val (.int p0), .val (.int p1), .val (.int p2), .val (.ref (w0_SEARCH_CLUSTER Z)), .val (.ref (w1_YEAR Z)), .val (.int (1 : Int32)), .unset, .unset] [(.ref b17)])
        refine own_step (fun _ k => XS.astore X18.here hx rfl (hb hby at_47) rfl rfl (l' := #[.val (.int p0), .val (.int p1), .val (.int p2), .val (.ref (w0_SEARCH_CLUSTER Z)), .val (.ref (w1_YEAR Z)), .val (.int (1 : Int32)), .val (.ref b17), .unset]) rfl k) ?_
        show own_Wp p e below _ T18 (mkF m 49 #[.val (.int p0), .val (.int p1), .val (.int p2), .val (.ref (w0_SEARCH_CLUSTER Z)), .val (.ref (w1_YEAR Z)), .val (.int (1 : Int32)), .val (.ref b17), .unset] [])
        refine own_step (fun _ k => XS.aloadN X18.here hx rfl (hb hby at_49) rfl rfl k) ?_
        show own_Wp p e below _ T18 (mkF m 50 #[.val (.int p0), .val (.int p1), .val (.int p2), .val (.ref (w0_SEARCH_CLUSTER Z)), .val (.ref (w1_YEAR Z)), .val (.int (1 : Int32)), .val (.ref b17), .unset] [(.ref (w0_SEARCH_CLUSTER Z))])
        refine own_step (fun _ k => XS.aload X18.here hx rfl (hb hby at_50) rfl rfl k) ?_
        show own_Wp p e below _ T18 (mkF m 52 #[.val (.int p0), .val (.int p1), .val (.int p2), .val (.ref (w0_SEARCH_CLUSTER Z)), .val (.ref (w1_YEAR Z)), .val (.int (1 : Int32)), .val (.ref b17), .unset] [(.ref b17), (.ref (w0_SEARCH_CLUSTER Z))])
        obtain ⟨_, T19, L19, X19, hQ19, st19⟩ := own_callV X18 hx hZ18 hown18 (hw _ (List.mem_of_getElem? (i := 41) rfl)) (hw _ (List.mem_of_getElem? (i := 42) rfl)) (notFace_of_selects (args := #[]) (mvT hZ18 (hw _ (List.mem_of_getElem? (i := 44) rfl)))) (hw _ (List.mem_of_getElem? (i := 44) rfl)) (hw _ (List.mem_of_getElem? (i := 43) rfl)) (hw _ (List.mem_of_getElem? (i := 5) rfl)) (hw _ (List.mem_of_getElem? (i := 45) rfl)) (by decide) ((ex_w0_SEARCH_CLUSTER hw hA).ext O18.2) (rm6_4 l Z a0 hw hA [] (w0_SEARCH_CLUSTER Z) b17 T18.heap n0 O18 (fl0 hw hA)) (W := 0) (by decide) (by decide) [(.ref b17)] rfl (lenOf pd9 rfl) (Ls := #[.val (.int p0), .val (.int p1), .val (.int p2), .val (.ref (w0_SEARCH_CLUSTER Z)), .val (.ref (w1_YEAR Z)), .val (.int (1 : Int32)), .val (.ref b17), .unset]) (by rw [hml]; rfl) (rest := []) (Nat.le_of_eq rfl) (hb hby at_52) rfl (by decide) (by decide)
        refine st19 _ ?_
        obtain ⟨rfl, N19q, e19⟩ := hQ19
        have N19 := Fr.app N18 N19q
        show own_Wp p e below _ T19 (mkF m 55 #[.val (.int p0), .val (.int p1), .val (.int p2), .val (.ref (w0_SEARCH_CLUSTER Z)), .val (.ref (w1_YEAR Z)), .val (.int (1 : Int32)), .val (.ref b17), .unset] [(.ref b17)])
        refine own_step (fun _ k => XS.astore X19.here hx rfl (hb hby at_55) rfl rfl (l' := #[.val (.int p0), .val (.int p1), .val (.int p2), .val (.ref (w0_SEARCH_CLUSTER Z)), .val (.ref (w1_YEAR Z)), .val (.int (1 : Int32)), .val (.ref b17), .val (.ref b17)]) rfl k) ?_
        show own_Wp p e below _ T19 (mkF m 57 #[.val (.int p0), .val (.int p1), .val (.int p2), .val (.ref (w0_SEARCH_CLUSTER Z)), .val (.ref (w1_YEAR Z)), .val (.int (1 : Int32)), .val (.ref b17), .val (.ref b17)] [])
        refine own_step (fun _ k => XS.aload X19.here hx rfl (hb hby at_57) rfl rfl k) ?_
        show own_Wp p e below _ T19 (mkF m 59 #[.val (.int p0), .val (.int p1), .val (.int p2), .val (.ref (w0_SEARCH_CLUSTER Z)), .val (.ref (w1_YEAR Z)), .val (.int (1 : Int32)), .val (.ref b17), .val (.ref b17)] [(.ref b17)])
        refine own_step (fun _ k => XS.ifnonnullYes X19.here hx rfl (pc0 := 59) (pc' := 64) rfl (hb hby at_59) rfl (by decide) (by decide) k) ?_
        show own_Wp p e below _ T19 (mkF m 64 #[.val (.int p0), .val (.int p1), .val (.int p2), .val (.ref (w0_SEARCH_CLUSTER Z)), .val (.ref (w1_YEAR Z)), .val (.int (1 : Int32)), .val (.ref b17), .val (.ref b17)] [])
        refine own_step (fun _ k => XS.iloadN X19.here hx rfl (hb hby at_64) rfl k) ?_
        show own_Wp p e below _ T19 (mkF m 65 #[.val (.int p0), .val (.int p1), .val (.int p2), .val (.ref (w0_SEARCH_CLUSTER Z)), .val (.ref (w1_YEAR Z)), .val (.int (1 : Int32)), .val (.ref b17), .val (.ref b17)] [(.int p0)])
        refine own_step (fun _ k => XS.iconst X19.here hx rfl (hb hby at_65) k) ?_
        show own_Wp p e below _ T19 (mkF m 66 #[.val (.int p0), .val (.int p1), .val (.int p2), .val (.ref (w0_SEARCH_CLUSTER Z)), .val (.ref (w1_YEAR Z)), .val (.int (1 : Int32)), .val (.ref b17), .val (.ref b17)] [(.int (3 : Int32)), (.int p0)])
        refine own_step (fun _ k => XS.iand X19.here hx rfl (hb hby at_66) rfl k) ?_
        show own_Wp p e below _ T19 (mkF m 67 #[.val (.int p0), .val (.int p1), .val (.int p2), .val (.ref (w0_SEARCH_CLUSTER Z)), .val (.ref (w1_YEAR Z)), .val (.int (1 : Int32)), .val (.ref b17), .val (.ref b17)] [(.int (p0 &&& (3 : Int32)))])
        refine own_step (fun _ k => XS.iconst X19.here hx rfl (hb hby at_67) k) ?_
        show own_Wp p e below _ T19 (mkF m 68 #[.val (.int p0), .val (.int p1), .val (.int p2), .val (.ref (w0_SEARCH_CLUSTER Z)), .val (.ref (w1_YEAR Z)), .val (.int (1 : Int32)), .val (.ref b17), .val (.ref b17)] [(.int (2 : Int32)), (.int (p0 &&& (3 : Int32)))])
        refine own_step (fun _ k => XS.icmpYes X19.here hx rfl (pc0 := 68) (pc' := 97) rfl (hb hby at_68) rfl (feq (by rw [hq1a_0]; decide)).2 (by decide) (by decide) k) ?_
        show own_Wp p e below _ T19 (mkF m 97 #[.val (.int p0), .val (.int p1), .val (.int p2), .val (.ref (w0_SEARCH_CLUSTER Z)), .val (.ref (w1_YEAR Z)), .val (.int (1 : Int32)), .val (.ref b17), .val (.ref b17)] [])
        refine own_step (fun _ k => XS.aload X19.here hx rfl (hb hby at_97) rfl rfl k) ?_
        show own_Wp p e below _ T19 (mkF m 99 #[.val (.int p0), .val (.int p1), .val (.int p2), .val (.ref (w0_SEARCH_CLUSTER Z)), .val (.ref (w1_YEAR Z)), .val (.int (1 : Int32)), .val (.ref b17), .val (.ref b17)] [(.ref b17)])
        obtain ⟨_, T20, L20, X20, hQ20, st20⟩ := own_callV X19 hx hZ18 hown18 (hw _ (List.mem_of_getElem? (i := 48) rfl)) (hw _ (List.mem_of_getElem? (i := 49) rfl)) (notFace_of_selects (args := #[]) (mvT hZ18 (hw _ (List.mem_of_getElem? (i := 51) rfl)))) (hw _ (List.mem_of_getElem? (i := 51) rfl)) (hw _ (List.mem_of_getElem? (i := 50) rfl)) (hw _ (List.mem_of_getElem? (i := 13) rfl)) (hw _ (List.mem_of_getElem? (i := 52) rfl)) (by decide) F18_0 (rm7_9 l Z a0 hw hA [] b17 T18.heap n0 O18 F18_1) (W := 0) (by decide) (by decide) [] rfl (lenOf pd10 rfl) (Ls := #[.val (.int p0), .val (.int p1), .val (.int p2), .val (.ref (w0_SEARCH_CLUSTER Z)), .val (.ref (w1_YEAR Z)), .val (.int (1 : Int32)), .val (.ref b17), .val (.ref b17)]) (by rw [hml]; rfl) (rest := []) (Nat.le_of_eq rfl) (hb hby at_99) e19 (by decide) (by decide)
        refine st20 _ ?_
        obtain ⟨rfl, N20q, e20⟩ := hQ20
        have N20 := Fr.app N19 N20q
        show own_Wp p e below _ T20 (mkF m 102 #[.val (.int p0), .val (.int p1), .val (.int p2), .val (.ref (w0_SEARCH_CLUSTER Z)), .val (.ref (w1_YEAR Z)), .val (.int (1 : Int32)), .val (.ref b17), .val (.ref b17)] [(.ref (w1_YEAR Z))])
        refine own_step (fun _ k => XS.aload X20.here hx rfl (hb hby at_102) rfl rfl k) ?_
        show own_Wp p e below _ T20 (mkF m 104 #[.val (.int p0), .val (.int p1), .val (.int p2), .val (.ref (w0_SEARCH_CLUSTER Z)), .val (.ref (w1_YEAR Z)), .val (.int (1 : Int32)), .val (.ref b17), .val (.ref b17)] [(.ref (w1_YEAR Z)), (.ref (w1_YEAR Z))])
        refine own_step (fun _ k => Jvm.RoadKit.acmp (g := (mkF m 104 #[.val (.int p0), .val (.int p1), .val (.int p2), .val (.ref (w0_SEARCH_CLUSTER Z)), .val (.ref (w1_YEAR Z)), .val (.int (1 : Int32)), .val (.ref b17), .val (.ref b17)] [(.ref (w1_YEAR Z)), (.ref (w1_YEAR Z))])) X20 hx rfl rfl rfl (pc0 := 104) (pc' := 107) (same := true) rfl (hb hby at_104) rfl (decide_eq_true rfl) (by decide) (by decide) k) ?_
        show own_Wp p e below _ T20 (mkF m 107 #[.val (.int p0), .val (.int p1), .val (.int p2), .val (.ref (w0_SEARCH_CLUSTER Z)), .val (.ref (w1_YEAR Z)), .val (.int (1 : Int32)), .val (.ref b17), .val (.ref b17)] [])
        refine own_step (fun _ k => XS.aload X20.here hx rfl (hb hby at_107) rfl rfl k) ?_
        show own_Wp p e below _ T20 (mkF m 109 #[.val (.int p0), .val (.int p1), .val (.int p2), .val (.ref (w0_SEARCH_CLUSTER Z)), .val (.ref (w1_YEAR Z)), .val (.int (1 : Int32)), .val (.ref b17), .val (.ref b17)] [(.ref b17)])
        obtain ⟨_, T21, L21, X21, hQ21, st21⟩ := own_callV X20 hx hZ18 hown18 (hw _ (List.mem_of_getElem? (i := 53) rfl)) (hw _ (List.mem_of_getElem? (i := 54) rfl)) (notFace_of_selects (args := #[]) (mvT hZ18 (hw _ (List.mem_of_getElem? (i := 56) rfl)))) (hw _ (List.mem_of_getElem? (i := 56) rfl)) (hw _ (List.mem_of_getElem? (i := 55) rfl)) (hw _ (List.mem_of_getElem? (i := 13) rfl)) (hw _ (List.mem_of_getElem? (i := 57) rfl)) (by decide) F18_0 (rm8_6 l Z a0 hw hA [] b17 T18.heap n0 O18 F18_2) (W := 0) (by decide) (by decide) [] rfl (lenOf pd11 rfl) (Ls := #[.val (.int p0), .val (.int p1), .val (.int p2), .val (.ref (w0_SEARCH_CLUSTER Z)), .val (.ref (w1_YEAR Z)), .val (.int (1 : Int32)), .val (.ref b17), .val (.ref b17)]) (by rw [hml]; rfl) (rest := []) (Nat.le_of_eq rfl) (hb hby at_109) e20 (by decide) (by decide)
        refine st21 _ ?_
        obtain ⟨rfl, N21q, e21⟩ := hQ21
        have N21 := Fr.app N20 N21q
        show own_Wp p e below _ T21 (mkF m 112 #[.val (.int p0), .val (.int p1), .val (.int p2), .val (.ref (w0_SEARCH_CLUSTER Z)), .val (.ref (w1_YEAR Z)), .val (.int (1 : Int32)), .val (.ref b17), .val (.ref b17)] [(.int (1 : Int32))])
        refine own_step (fun _ k => XS.iload X21.here hx rfl (hb hby at_112) rfl k) ?_
        show own_Wp p e below _ T21 (mkF m 114 #[.val (.int p0), .val (.int p1), .val (.int p2), .val (.ref (w0_SEARCH_CLUSTER Z)), .val (.ref (w1_YEAR Z)), .val (.int (1 : Int32)), .val (.ref b17), .val (.ref b17)] [(.int (1 : Int32)), (.int (1 : Int32))])
        refine own_step (fun _ k => XS.icmpNo X21.here hx rfl (hb hby at_114) rfl (by decide) k) ?_
        show own_Wp p e below _ T21 (mkF m 117 #[.val (.int p0), .val (.int p1), .val (.int p2), .val (.ref (w0_SEARCH_CLUSTER Z)), .val (.ref (w1_YEAR Z)), .val (.int (1 : Int32)), .val (.ref b17), .val (.ref b17)] [])
        refine own_step (fun _ k => XS.iconst X21.here hx rfl (hb hby at_117) k) ?_
        show own_Wp p e below _ T21 (mkF m 118 #[.val (.int p0), .val (.int p1), .val (.int p2), .val (.ref (w0_SEARCH_CLUSTER Z)), .val (.ref (w1_YEAR Z)), .val (.int (1 : Int32)), .val (.ref b17), .val (.ref b17)] [(.int (1 : Int32))])
        refine own_step (fun _ k => XS.goto X21.here hx rfl (pc0 := 118) (pc' := 122) rfl (hb hby at_118) (by decide) (by decide) k) ?_
        show own_Wp p e below _ T21 (mkF m 122 #[.val (.int p0), .val (.int p1), .val (.int p2), .val (.ref (w0_SEARCH_CLUSTER Z)), .val (.ref (w1_YEAR Z)), .val (.int (1 : Int32)), .val (.ref b17), .val (.ref b17)] [(.int (1 : Int32))])
        exact own_retNW X21 hS18 (by rw [e21]; exact (Nat.le_refl _)) hx (t := .boolean) hret (by simp) hlk (hb hby at_122) (by decide) (by decide) ⟨rfl, N21⟩
      · skip
        refine own_step (fun _ k => XS.ifYes X15.here hx rfl (pc0 := 30) (pc' := 36) rfl (hb hby at_30) rfl ((if0 _ _).trans (feq hc16).2) (by decide) (by decide) k) ?_
        show own_Wp p e below _ T15 (mkF m 36 #[.val (.int p0), .val (.int p1), .val (.int p2), .val (.ref (w0_SEARCH_CLUSTER Z)), .val (.ref (w1_YEAR Z)), .val (.int (p2 &&& (2147483647 : Int32))), .unset, .unset] [])
        have hpos : ¬ ((p2 &&& (2147483647 : Int32)) < (1 : Int32)) := own_pos hc16
        obtain ⟨T22, h22, X22, e22, E22, A22, D22, -, st22⟩ := newO X15 hx hZ hown (hw _ (List.mem_of_getElem? (i := 11) rfl)) (hw _ (List.mem_of_getElem? (i := 12) rfl)) (hw _ (List.mem_of_getElem? (i := 13) rfl)) e15 (g := (mkF m 36 #[.val (.int p0), .val (.int p1), .val (.int p2), .val (.ref (w0_SEARCH_CLUSTER Z)), .val (.ref (w1_YEAR Z)), .val (.int (p2 &&& (2147483647 : Int32))), .unset, .unset] [])) rfl (hb hby at_36) (by decide) (by decide)
        obtain ⟨b22, z22⟩ : ∃ z, z = h0.size := ⟨_, rfl⟩
        rw [← z22] at A22 D22 st22
        refine own_step st22 ?_
        have g22 : n0 ≤ b22 := Nat.le_trans (O0.1 ▸ O0.2.1) (Nat.le_of_eq z22.symm)
        have y22 : h0.size ≤ b22 := Nat.le_trans (Nat.le_refl _) (Nat.le_of_eq z22.symm)
        have O22 := O0.ext E22
        have K22 : Keep h0 h22 [] := (Keep.refl h0 []).ext E22
        have F22_38 : Fld Z h22 b22 "com/example/meter_to_month/metertomonth/ledger/BillingPeriod" "unit" "Lcom/example/meter_to_month/metertomonth/ledger/BillingPeriod$Unit;" .null := D22 (Or.inr (hw _ (List.mem_of_getElem? (i := 38) rfl))) (ty := (.object "com/example/meter_to_month/metertomonth/ledger/BillingPeriod$Unit")) (by decide)
        have F22_40 : Fld Z h22 b22 "com/example/meter_to_month/metertomonth/ledger/BillingPeriod" "count" "I" (.int (0 : Int32)) := D22 (Or.inr (hw _ (List.mem_of_getElem? (i := 40) rfl))) (ty := .int) (by decide)
        show own_Wp p e below _ T22 (mkF m 39 #[.val (.int p0), .val (.int p1), .val (.int p2), .val (.ref (w0_SEARCH_CLUSTER Z)), .val (.ref (w1_YEAR Z)), .val (.int (p2 &&& (2147483647 : Int32))), .unset, .unset] [(.ref b22)])
        refine own_step (fun _ k => XS.dup X22.here hx rfl (hb hby at_39) rfl rfl k) ?_
        show own_Wp p e below _ T22 (mkF m 40 #[.val (.int p0), .val (.int p1), .val (.int p2), .val (.ref (w0_SEARCH_CLUSTER Z)), .val (.ref (w1_YEAR Z)), .val (.int (p2 &&& (2147483647 : Int32))), .unset, .unset] [(.ref b22), (.ref b22)])
        refine own_step (fun _ k => XS.aload X22.here hx rfl (hb hby at_40) rfl rfl k) ?_
        show own_Wp p e below _ T22 (mkF m 42 #[.val (.int p0), .val (.int p1), .val (.int p2), .val (.ref (w0_SEARCH_CLUSTER Z)), .val (.ref (w1_YEAR Z)), .val (.int (p2 &&& (2147483647 : Int32))), .unset, .unset] [(.ref (w1_YEAR Z)), (.ref b22), (.ref b22)])
        refine own_step (fun _ k => XS.iload X22.here hx rfl (hb hby at_42) rfl k) ?_
        show own_Wp p e below _ T22 (mkF m 44 #[.val (.int p0), .val (.int p1), .val (.int p2), .val (.ref (w0_SEARCH_CLUSTER Z)), .val (.ref (w1_YEAR Z)), .val (.int (p2 &&& (2147483647 : Int32))), .unset, .unset] [(.int (p2 &&& (2147483647 : Int32))), (.ref (w1_YEAR Z)), (.ref b22), (.ref b22)])
        obtain ⟨_, T23, L23, X23, hS23, hZ23, hown23, hQ23, st23⟩ := own_callNW X22 hx hZ hS0 (Nat.zero_le _) rfl hown (hw _ (List.mem_of_getElem? (i := 14) rfl)) (hw _ (List.mem_of_getElem? (i := 15) rfl)) (hw _ (List.mem_of_getElem? (i := 13) rfl)) (hw _ (List.mem_of_getElem? (i := 16) rfl)) (by decide) (rm2_7 l Z a0 hw hA [] b22 (w1_YEAR Z) (p2 &&& (2147483647 : Int32)) h22 n0 O22 A22 F22_38 F22_40 g22 hpos) (b := b22) (W := 1) (by decide) (by decide) [(.ref (w1_YEAR Z)), (.int (p2 &&& (2147483647 : Int32)))] rfl (lenOf pd7 rfl) (Ls := #[.val (.int p0), .val (.int p1), .val (.int p2), .val (.ref (w0_SEARCH_CLUSTER Z)), .val (.ref (w1_YEAR Z)), .val (.int (p2 &&& (2147483647 : Int32))), .unset, .unset]) (by rw [hml]; rfl) (rest := [(.ref b22)]) (Nat.le_of_eq rfl) (hb hby at_44) e22 (by decide) (by decide)
        refine st23 _ ?_
        obtain ⟨rfl, N23q, K23q, F23_0, F23_1, F23_2⟩ := hQ23
        have N23 := Fr.app N1a N23q
        have O23 := O22.keep K23q (allS g22 all0)
        have K23 : Keep h0 T23.heap [] := Keep.trans K22 K23q (allS (Or.inr y22) all0)
        show own_Wp p e below _ T23 (mkF m 47 #[.val (.int p0), .val (.int p1), .val (.int p2), .val (.ref (w0_SEARCH_CLUSTER Z)), .val (.ref (w1_YEAR Z)), .val (.int (p2 &&& (2147483647 : Int32))), .unset, .unset] [(.ref b22)])
        refine own_step (fun _ k => XS.astore X23.here hx rfl (hb hby at_47) rfl rfl (l' := #[.val (.int p0), .val (.int p1), .val (.int p2), .val (.ref (w0_SEARCH_CLUSTER Z)), .val (.ref (w1_YEAR Z)), .val (.int (p2 &&& (2147483647 : Int32))), .val (.ref b22), .unset]) rfl k) ?_
        show own_Wp p e below _ T23 (mkF m 49 #[.val (.int p0), .val (.int p1), .val (.int p2), .val (.ref (w0_SEARCH_CLUSTER Z)), .val (.ref (w1_YEAR Z)), .val (.int (p2 &&& (2147483647 : Int32))), .val (.ref b22), .unset] [])
        refine own_step (fun _ k => XS.aloadN X23.here hx rfl (hb hby at_49) rfl rfl k) ?_
        show own_Wp p e below _ T23 (mkF m 50 #[.val (.int p0), .val (.int p1), .val (.int p2), .val (.ref (w0_SEARCH_CLUSTER Z)), .val (.ref (w1_YEAR Z)), .val (.int (p2 &&& (2147483647 : Int32))), .val (.ref b22), .unset] [(.ref (w0_SEARCH_CLUSTER Z))])
        refine own_step (fun _ k => XS.aload X23.here hx rfl (hb hby at_50) rfl rfl k) ?_
        show own_Wp p e below _ T23 (mkF m 52 #[.val (.int p0), .val (.int p1), .val (.int p2), .val (.ref (w0_SEARCH_CLUSTER Z)), .val (.ref (w1_YEAR Z)), .val (.int (p2 &&& (2147483647 : Int32))), .val (.ref b22), .unset] [(.ref b22), (.ref (w0_SEARCH_CLUSTER Z))])
        obtain ⟨_, T24, L24, X24, hQ24, st24⟩ := own_callV X23 hx hZ23 hown23 (hw _ (List.mem_of_getElem? (i := 41) rfl)) (hw _ (List.mem_of_getElem? (i := 42) rfl)) (notFace_of_selects (args := #[]) (mvT hZ23 (hw _ (List.mem_of_getElem? (i := 44) rfl)))) (hw _ (List.mem_of_getElem? (i := 44) rfl)) (hw _ (List.mem_of_getElem? (i := 43) rfl)) (hw _ (List.mem_of_getElem? (i := 5) rfl)) (hw _ (List.mem_of_getElem? (i := 45) rfl)) (by decide) ((ex_w0_SEARCH_CLUSTER hw hA).ext O23.2) (rm6_4 l Z a0 hw hA [] (w0_SEARCH_CLUSTER Z) b22 T23.heap n0 O23 (fl0 hw hA)) (W := 0) (by decide) (by decide) [(.ref b22)] rfl (lenOf pd9 rfl) (Ls := #[.val (.int p0), .val (.int p1), .val (.int p2), .val (.ref (w0_SEARCH_CLUSTER Z)), .val (.ref (w1_YEAR Z)), .val (.int (p2 &&& (2147483647 : Int32))), .val (.ref b22), .unset]) (by rw [hml]; rfl) (rest := []) (Nat.le_of_eq rfl) (hb hby at_52) rfl (by decide) (by decide)
        refine st24 _ ?_
        obtain ⟨rfl, N24q, e24⟩ := hQ24
        have N24 := Fr.app N23 N24q
        show own_Wp p e below _ T24 (mkF m 55 #[.val (.int p0), .val (.int p1), .val (.int p2), .val (.ref (w0_SEARCH_CLUSTER Z)), .val (.ref (w1_YEAR Z)), .val (.int (p2 &&& (2147483647 : Int32))), .val (.ref b22), .unset] [(.ref b22)])
        refine own_step (fun _ k => XS.astore X24.here hx rfl (hb hby at_55) rfl rfl (l' := #[.val (.int p0), .val (.int p1), .val (.int p2), .val (.ref (w0_SEARCH_CLUSTER Z)), .val (.ref (w1_YEAR Z)), .val (.int (p2 &&& (2147483647 : Int32))), .val (.ref b22), .val (.ref b22)]) rfl k) ?_
        show own_Wp p e below _ T24 (mkF m 57 #[.val (.int p0), .val (.int p1), .val (.int p2), .val (.ref (w0_SEARCH_CLUSTER Z)), .val (.ref (w1_YEAR Z)), .val (.int (p2 &&& (2147483647 : Int32))), .val (.ref b22), .val (.ref b22)] [])
        refine own_step (fun _ k => XS.aload X24.here hx rfl (hb hby at_57) rfl rfl k) ?_
        show own_Wp p e below _ T24 (mkF m 59 #[.val (.int p0), .val (.int p1), .val (.int p2), .val (.ref (w0_SEARCH_CLUSTER Z)), .val (.ref (w1_YEAR Z)), .val (.int (p2 &&& (2147483647 : Int32))), .val (.ref b22), .val (.ref b22)] [(.ref b22)])
        refine own_step (fun _ k => XS.ifnonnullYes X24.here hx rfl (pc0 := 59) (pc' := 64) rfl (hb hby at_59) rfl (by decide) (by decide) k) ?_
        show own_Wp p e below _ T24 (mkF m 64 #[.val (.int p0), .val (.int p1), .val (.int p2), .val (.ref (w0_SEARCH_CLUSTER Z)), .val (.ref (w1_YEAR Z)), .val (.int (p2 &&& (2147483647 : Int32))), .val (.ref b22), .val (.ref b22)] [])
        refine own_step (fun _ k => XS.iloadN X24.here hx rfl (hb hby at_64) rfl k) ?_
        show own_Wp p e below _ T24 (mkF m 65 #[.val (.int p0), .val (.int p1), .val (.int p2), .val (.ref (w0_SEARCH_CLUSTER Z)), .val (.ref (w1_YEAR Z)), .val (.int (p2 &&& (2147483647 : Int32))), .val (.ref b22), .val (.ref b22)] [(.int p0)])
        refine own_step (fun _ k => XS.iconst X24.here hx rfl (hb hby at_65) k) ?_
        show own_Wp p e below _ T24 (mkF m 66 #[.val (.int p0), .val (.int p1), .val (.int p2), .val (.ref (w0_SEARCH_CLUSTER Z)), .val (.ref (w1_YEAR Z)), .val (.int (p2 &&& (2147483647 : Int32))), .val (.ref b22), .val (.ref b22)] [(.int (3 : Int32)), (.int p0)])
        refine own_step (fun _ k => XS.iand X24.here hx rfl (hb hby at_66) rfl k) ?_
        show own_Wp p e below _ T24 (mkF m 67 #[.val (.int p0), .val (.int p1), .val (.int p2), .val (.ref (w0_SEARCH_CLUSTER Z)), .val (.ref (w1_YEAR Z)), .val (.int (p2 &&& (2147483647 : Int32))), .val (.ref b22), .val (.ref b22)] [(.int (p0 &&& (3 : Int32)))])
        refine own_step (fun _ k => XS.iconst X24.here hx rfl (hb hby at_67) k) ?_
        show own_Wp p e below _ T24 (mkF m 68 #[.val (.int p0), .val (.int p1), .val (.int p2), .val (.ref (w0_SEARCH_CLUSTER Z)), .val (.ref (w1_YEAR Z)), .val (.int (p2 &&& (2147483647 : Int32))), .val (.ref b22), .val (.ref b22)] [(.int (2 : Int32)), (.int (p0 &&& (3 : Int32)))])
        refine own_step (fun _ k => XS.icmpYes X24.here hx rfl (pc0 := 68) (pc' := 97) rfl (hb hby at_68) rfl (feq (by rw [hq1a_0]; decide)).2 (by decide) (by decide) k) ?_
        show own_Wp p e below _ T24 (mkF m 97 #[.val (.int p0), .val (.int p1), .val (.int p2), .val (.ref (w0_SEARCH_CLUSTER Z)), .val (.ref (w1_YEAR Z)), .val (.int (p2 &&& (2147483647 : Int32))), .val (.ref b22), .val (.ref b22)] [])
        refine own_step (fun _ k => XS.aload X24.here hx rfl (hb hby at_97) rfl rfl k) ?_
        show own_Wp p e below _ T24 (mkF m 99 #[.val (.int p0), .val (.int p1), .val (.int p2), .val (.ref (w0_SEARCH_CLUSTER Z)), .val (.ref (w1_YEAR Z)), .val (.int (p2 &&& (2147483647 : Int32))), .val (.ref b22), .val (.ref b22)] [(.ref b22)])
        obtain ⟨_, T25, L25, X25, hQ25, st25⟩ := own_callV X24 hx hZ23 hown23 (hw _ (List.mem_of_getElem? (i := 48) rfl)) (hw _ (List.mem_of_getElem? (i := 49) rfl)) (notFace_of_selects (args := #[]) (mvT hZ23 (hw _ (List.mem_of_getElem? (i := 51) rfl)))) (hw _ (List.mem_of_getElem? (i := 51) rfl)) (hw _ (List.mem_of_getElem? (i := 50) rfl)) (hw _ (List.mem_of_getElem? (i := 13) rfl)) (hw _ (List.mem_of_getElem? (i := 52) rfl)) (by decide) F23_0 (rm7_9 l Z a0 hw hA [] b22 T23.heap n0 O23 F23_1) (W := 0) (by decide) (by decide) [] rfl (lenOf pd10 rfl) (Ls := #[.val (.int p0), .val (.int p1), .val (.int p2), .val (.ref (w0_SEARCH_CLUSTER Z)), .val (.ref (w1_YEAR Z)), .val (.int (p2 &&& (2147483647 : Int32))), .val (.ref b22), .val (.ref b22)]) (by rw [hml]; rfl) (rest := []) (Nat.le_of_eq rfl) (hb hby at_99) e24 (by decide) (by decide)
        refine st25 _ ?_
        obtain ⟨rfl, N25q, e25⟩ := hQ25
        have N25 := Fr.app N24 N25q
        show own_Wp p e below _ T25 (mkF m 102 #[.val (.int p0), .val (.int p1), .val (.int p2), .val (.ref (w0_SEARCH_CLUSTER Z)), .val (.ref (w1_YEAR Z)), .val (.int (p2 &&& (2147483647 : Int32))), .val (.ref b22), .val (.ref b22)] [(.ref (w1_YEAR Z))])
        refine own_step (fun _ k => XS.aload X25.here hx rfl (hb hby at_102) rfl rfl k) ?_
        show own_Wp p e below _ T25 (mkF m 104 #[.val (.int p0), .val (.int p1), .val (.int p2), .val (.ref (w0_SEARCH_CLUSTER Z)), .val (.ref (w1_YEAR Z)), .val (.int (p2 &&& (2147483647 : Int32))), .val (.ref b22), .val (.ref b22)] [(.ref (w1_YEAR Z)), (.ref (w1_YEAR Z))])
        refine own_step (fun _ k => Jvm.RoadKit.acmp (g := (mkF m 104 #[.val (.int p0), .val (.int p1), .val (.int p2), .val (.ref (w0_SEARCH_CLUSTER Z)), .val (.ref (w1_YEAR Z)), .val (.int (p2 &&& (2147483647 : Int32))), .val (.ref b22), .val (.ref b22)] [(.ref (w1_YEAR Z)), (.ref (w1_YEAR Z))])) X25 hx rfl rfl rfl (pc0 := 104) (pc' := 107) (same := true) rfl (hb hby at_104) rfl (decide_eq_true rfl) (by decide) (by decide) k) ?_
        show own_Wp p e below _ T25 (mkF m 107 #[.val (.int p0), .val (.int p1), .val (.int p2), .val (.ref (w0_SEARCH_CLUSTER Z)), .val (.ref (w1_YEAR Z)), .val (.int (p2 &&& (2147483647 : Int32))), .val (.ref b22), .val (.ref b22)] [])
        refine own_step (fun _ k => XS.aload X25.here hx rfl (hb hby at_107) rfl rfl k) ?_
        show own_Wp p e below _ T25 (mkF m 109 #[.val (.int p0), .val (.int p1), .val (.int p2), .val (.ref (w0_SEARCH_CLUSTER Z)), .val (.ref (w1_YEAR Z)), .val (.int (p2 &&& (2147483647 : Int32))), .val (.ref b22), .val (.ref b22)] [(.ref b22)])
        obtain ⟨_, T26, L26, X26, hQ26, st26⟩ := own_callV X25 hx hZ23 hown23 (hw _ (List.mem_of_getElem? (i := 53) rfl)) (hw _ (List.mem_of_getElem? (i := 54) rfl)) (notFace_of_selects (args := #[]) (mvT hZ23 (hw _ (List.mem_of_getElem? (i := 56) rfl)))) (hw _ (List.mem_of_getElem? (i := 56) rfl)) (hw _ (List.mem_of_getElem? (i := 55) rfl)) (hw _ (List.mem_of_getElem? (i := 13) rfl)) (hw _ (List.mem_of_getElem? (i := 57) rfl)) (by decide) F23_0 (rm8_8 l Z a0 hw hA [] b22 (p2 &&& (2147483647 : Int32)) T23.heap n0 O23 F23_2) (W := 0) (by decide) (by decide) [] rfl (lenOf pd11 rfl) (Ls := #[.val (.int p0), .val (.int p1), .val (.int p2), .val (.ref (w0_SEARCH_CLUSTER Z)), .val (.ref (w1_YEAR Z)), .val (.int (p2 &&& (2147483647 : Int32))), .val (.ref b22), .val (.ref b22)]) (by rw [hml]; rfl) (rest := []) (Nat.le_of_eq rfl) (hb hby at_109) e25 (by decide) (by decide)
        refine st26 _ ?_
        obtain ⟨rfl, N26q, e26⟩ := hQ26
        have N26 := Fr.app N25 N26q
        show own_Wp p e below _ T26 (mkF m 112 #[.val (.int p0), .val (.int p1), .val (.int p2), .val (.ref (w0_SEARCH_CLUSTER Z)), .val (.ref (w1_YEAR Z)), .val (.int (p2 &&& (2147483647 : Int32))), .val (.ref b22), .val (.ref b22)] [(.int (p2 &&& (2147483647 : Int32)))])
        refine own_step (fun _ k => XS.iload X26.here hx rfl (hb hby at_112) rfl k) ?_
        show own_Wp p e below _ T26 (mkF m 114 #[.val (.int p0), .val (.int p1), .val (.int p2), .val (.ref (w0_SEARCH_CLUSTER Z)), .val (.ref (w1_YEAR Z)), .val (.int (p2 &&& (2147483647 : Int32))), .val (.ref b22), .val (.ref b22)] [(.int (p2 &&& (2147483647 : Int32))), (.int (p2 &&& (2147483647 : Int32)))])
        refine own_step (fun _ k => XS.icmpNo X26.here hx rfl (hb hby at_114) rfl (teq (rfl : (p2 &&& (2147483647 : Int32)) = (p2 &&& (2147483647 : Int32)))).2 k) ?_
        show own_Wp p e below _ T26 (mkF m 117 #[.val (.int p0), .val (.int p1), .val (.int p2), .val (.ref (w0_SEARCH_CLUSTER Z)), .val (.ref (w1_YEAR Z)), .val (.int (p2 &&& (2147483647 : Int32))), .val (.ref b22), .val (.ref b22)] [])
        refine own_step (fun _ k => XS.iconst X26.here hx rfl (hb hby at_117) k) ?_
        show own_Wp p e below _ T26 (mkF m 118 #[.val (.int p0), .val (.int p1), .val (.int p2), .val (.ref (w0_SEARCH_CLUSTER Z)), .val (.ref (w1_YEAR Z)), .val (.int (p2 &&& (2147483647 : Int32))), .val (.ref b22), .val (.ref b22)] [(.int (1 : Int32))])
        refine own_step (fun _ k => XS.goto X26.here hx rfl (pc0 := 118) (pc' := 122) rfl (hb hby at_118) (by decide) (by decide) k) ?_
        show own_Wp p e below _ T26 (mkF m 122 #[.val (.int p0), .val (.int p1), .val (.int p2), .val (.ref (w0_SEARCH_CLUSTER Z)), .val (.ref (w1_YEAR Z)), .val (.int (p2 &&& (2147483647 : Int32))), .val (.ref b22), .val (.ref b22)] [(.int (1 : Int32))])
        exact own_retNW X26 hS23 (by rw [e26]; exact (Nat.le_refl _)) hx (t := .boolean) hret (by simp) hlk (hb hby at_122) (by decide) (by decide) ⟨rfl, N26⟩
  · skip
    have N1b := Fr.app (Fr.nil n0) N1bq
    show own_Wp p e below _ T1 (mkF m 4 #[.val (.int p0), .val (.int p1), .val (.int p2), .unset, .unset, .unset, .unset, .unset] [(.ref (w2_DATABASE_INSTANCE Z))])
    refine own_step (fun _ k => XS.astoreN X1.here hx rfl (hb hby at_4) rfl rfl (l' := #[.val (.int p0), .val (.int p1), .val (.int p2), .val (.ref (w2_DATABASE_INSTANCE Z)), .unset, .unset, .unset, .unset]) rfl k) ?_
    show own_Wp p e below _ T1 (mkF m 5 #[.val (.int p0), .val (.int p1), .val (.int p2), .val (.ref (w2_DATABASE_INSTANCE Z)), .unset, .unset, .unset, .unset] [])
    refine own_step (fun _ k => XS.iloadN X1.here hx rfl (hb hby at_5) rfl k) ?_
    show own_Wp p e below _ T1 (mkF m 6 #[.val (.int p0), .val (.int p1), .val (.int p2), .val (.ref (w2_DATABASE_INSTANCE Z)), .unset, .unset, .unset, .unset] [(.int p1)])
    refine own_step (fun _ k => XS.iconst X1.here hx rfl (hb hby at_6) k) ?_
    show own_Wp p e below _ T1 (mkF m 7 #[.val (.int p0), .val (.int p1), .val (.int p2), .val (.ref (w2_DATABASE_INSTANCE Z)), .unset, .unset, .unset, .unset] [(.int (1 : Int32)), (.int p1)])
    refine own_step (fun _ k => XS.iand X1.here hx rfl (hb hby at_7) rfl k) ?_
    show own_Wp p e below _ T1 (mkF m 8 #[.val (.int p0), .val (.int p1), .val (.int p2), .val (.ref (w2_DATABASE_INSTANCE Z)), .unset, .unset, .unset, .unset] [(.int (p1 &&& (1 : Int32)))])
    by_cases hc27 : (p1 &&& (1 : Int32)) = (0 : Int32)
    · skip
      refine own_step (fun _ k => XS.ifYes X1.here hx rfl (pc0 := 8) (pc' := 17) rfl (hb hby at_8) rfl ((if0 _ _).trans (teq hc27).1) (by decide) (by decide) k) ?_
      show own_Wp p e below _ T1 (mkF m 17 #[.val (.int p0), .val (.int p1), .val (.int p2), .val (.ref (w2_DATABASE_INSTANCE Z)), .unset, .unset, .unset, .unset] [])
      obtain ⟨T28, X28, e28, st28⟩ := getS2 X1 hx hZ hown (host := "") (Or.inl (hw _ (List.mem_of_getElem? (i := 60) rfl))) Via.refl e1b ((st_w3_MONTH hw hA).ext O0.2) (g := (mkF m 17 #[.val (.int p0), .val (.int p1), .val (.int p2), .val (.ref (w2_DATABASE_INSTANCE Z)), .unset, .unset, .unset, .unset] [])) rfl (hb hby at_17)
      refine own_step st28 ?_
      show own_Wp p e below _ T28 (mkF m 20 #[.val (.int p0), .val (.int p1), .val (.int p2), .val (.ref (w2_DATABASE_INSTANCE Z)), .unset, .unset, .unset, .unset] [(.ref (w3_MONTH Z))])
      refine own_step (fun _ k => XS.astore X28.here hx rfl (hb hby at_20) rfl rfl (l' := #[.val (.int p0), .val (.int p1), .val (.int p2), .val (.ref (w2_DATABASE_INSTANCE Z)), .val (.ref (w3_MONTH Z)), .unset, .unset, .unset]) rfl k) ?_
      show own_Wp p e below _ T28 (mkF m 22 #[.val (.int p0), .val (.int p1), .val (.int p2), .val (.ref (w2_DATABASE_INSTANCE Z)), .val (.ref (w3_MONTH Z)), .unset, .unset, .unset] [])
      refine own_step (fun _ k => XS.iloadN X28.here hx rfl (hb hby at_22) rfl k) ?_
      show own_Wp p e below _ T28 (mkF m 23 #[.val (.int p0), .val (.int p1), .val (.int p2), .val (.ref (w2_DATABASE_INSTANCE Z)), .val (.ref (w3_MONTH Z)), .unset, .unset, .unset] [(.int p2)])
      refine own_step (X28.ldcInt hx hown (mvT hZ (hw _ (List.mem_of_getElem? (i := 10) rfl))) (g := (mkF m 23 #[.val (.int p0), .val (.int p1), .val (.int p2), .val (.ref (w2_DATABASE_INSTANCE Z)), .val (.ref (w3_MONTH Z)), .unset, .unset, .unset] [(.int p2)])) rfl (hb hby at_23)) ?_
      show own_Wp p e below _ T28 (mkF m 25 #[.val (.int p0), .val (.int p1), .val (.int p2), .val (.ref (w2_DATABASE_INSTANCE Z)), .val (.ref (w3_MONTH Z)), .unset, .unset, .unset] [(.int (2147483647 : Int32)), (.int p2)])
      refine own_step (fun _ k => XS.iand X28.here hx rfl (hb hby at_25) rfl k) ?_
      show own_Wp p e below _ T28 (mkF m 26 #[.val (.int p0), .val (.int p1), .val (.int p2), .val (.ref (w2_DATABASE_INSTANCE Z)), .val (.ref (w3_MONTH Z)), .unset, .unset, .unset] [(.int (p2 &&& (2147483647 : Int32)))])
      refine own_step (fun _ k => XS.istore X28.here hx rfl (hb hby at_26) rfl (l' := #[.val (.int p0), .val (.int p1), .val (.int p2), .val (.ref (w2_DATABASE_INSTANCE Z)), .val (.ref (w3_MONTH Z)), .val (.int (p2 &&& (2147483647 : Int32))), .unset, .unset]) rfl k) ?_
      show own_Wp p e below _ T28 (mkF m 28 #[.val (.int p0), .val (.int p1), .val (.int p2), .val (.ref (w2_DATABASE_INSTANCE Z)), .val (.ref (w3_MONTH Z)), .val (.int (p2 &&& (2147483647 : Int32))), .unset, .unset] [])
      refine own_step (fun _ k => XS.iload X28.here hx rfl (hb hby at_28) rfl k) ?_
      show own_Wp p e below _ T28 (mkF m 30 #[.val (.int p0), .val (.int p1), .val (.int p2), .val (.ref (w2_DATABASE_INSTANCE Z)), .val (.ref (w3_MONTH Z)), .val (.int (p2 &&& (2147483647 : Int32))), .unset, .unset] [(.int (p2 &&& (2147483647 : Int32)))])
      by_cases hc29 : (p2 &&& (2147483647 : Int32)) = (0 : Int32)
      · skip
        refine own_step (fun _ k => XS.ifNo X28.here hx rfl (hb hby at_30) rfl ((if0 _ _).trans (teq hc29).2) k) ?_
        show own_Wp p e below _ T28 (mkF m 33 #[.val (.int p0), .val (.int p1), .val (.int p2), .val (.ref (w2_DATABASE_INSTANCE Z)), .val (.ref (w3_MONTH Z)), .val (.int (p2 &&& (2147483647 : Int32))), .unset, .unset] [])
        refine own_step (fun _ k => XS.iconst X28.here hx rfl (hb hby at_33) k) ?_
        show own_Wp p e below _ T28 (mkF m 34 #[.val (.int p0), .val (.int p1), .val (.int p2), .val (.ref (w2_DATABASE_INSTANCE Z)), .val (.ref (w3_MONTH Z)), .val (.int (p2 &&& (2147483647 : Int32))), .unset, .unset] [(.int (1 : Int32))])
        refine own_step (fun _ k => XS.istore X28.here hx rfl (hb hby at_34) rfl (l' := #[.val (.int p0), .val (.int p1), .val (.int p2), .val (.ref (w2_DATABASE_INSTANCE Z)), .val (.ref (w3_MONTH Z)), .val (.int (1 : Int32)), .unset, .unset]) rfl k) ?_
        show own_Wp p e below _ T28 (mkF m 36 #[.val (.int p0), .val (.int p1), .val (.int p2), .val (.ref (w2_DATABASE_INSTANCE Z)), .val (.ref (w3_MONTH Z)), .val (.int (1 : Int32)), .unset, .unset] [])
        obtain ⟨T30, h30, X30, e30, E30, A30, D30, -, st30⟩ := newO X28 hx hZ hown (hw _ (List.mem_of_getElem? (i := 11) rfl)) (hw _ (List.mem_of_getElem? (i := 12) rfl)) (hw _ (List.mem_of_getElem? (i := 13) rfl)) e28 (g := (mkF m 36 #[.val (.int p0), .val (.int p1), .val (.int p2), .val (.ref (w2_DATABASE_INSTANCE Z)), .val (.ref (w3_MONTH Z)), .val (.int (1 : Int32)), .unset, .unset] [])) rfl (hb hby at_36) (by decide) (by decide)
        obtain ⟨b30, z30⟩ : ∃ z, z = h0.size := ⟨_, rfl⟩
        rw [← z30] at A30 D30 st30
        refine own_step st30 ?_
        have g30 : n0 ≤ b30 := Nat.le_trans (O0.1 ▸ O0.2.1) (Nat.le_of_eq z30.symm)
        have y30 : h0.size ≤ b30 := Nat.le_trans (Nat.le_refl _) (Nat.le_of_eq z30.symm)
        have O30 := O0.ext E30
        have K30 : Keep h0 h30 [] := (Keep.refl h0 []).ext E30
        have F30_38 : Fld Z h30 b30 "com/example/meter_to_month/metertomonth/ledger/BillingPeriod" "unit" "Lcom/example/meter_to_month/metertomonth/ledger/BillingPeriod$Unit;" .null := D30 (Or.inr (hw _ (List.mem_of_getElem? (i := 38) rfl))) (ty := (.object "com/example/meter_to_month/metertomonth/ledger/BillingPeriod$Unit")) (by decide)
        have F30_40 : Fld Z h30 b30 "com/example/meter_to_month/metertomonth/ledger/BillingPeriod" "count" "I" (.int (0 : Int32)) := D30 (Or.inr (hw _ (List.mem_of_getElem? (i := 40) rfl))) (ty := .int) (by decide)
        show own_Wp p e below _ T30 (mkF m 39 #[.val (.int p0), .val (.int p1), .val (.int p2), .val (.ref (w2_DATABASE_INSTANCE Z)), .val (.ref (w3_MONTH Z)), .val (.int (1 : Int32)), .unset, .unset] [(.ref b30)])
        refine own_step (fun _ k => XS.dup X30.here hx rfl (hb hby at_39) rfl rfl k) ?_
        show own_Wp p e below _ T30 (mkF m 40 #[.val (.int p0), .val (.int p1), .val (.int p2), .val (.ref (w2_DATABASE_INSTANCE Z)), .val (.ref (w3_MONTH Z)), .val (.int (1 : Int32)), .unset, .unset] [(.ref b30), (.ref b30)])
        refine own_step (fun _ k => XS.aload X30.here hx rfl (hb hby at_40) rfl rfl k) ?_
        show own_Wp p e below _ T30 (mkF m 42 #[.val (.int p0), .val (.int p1), .val (.int p2), .val (.ref (w2_DATABASE_INSTANCE Z)), .val (.ref (w3_MONTH Z)), .val (.int (1 : Int32)), .unset, .unset] [(.ref (w3_MONTH Z)), (.ref b30), (.ref b30)])
        refine own_step (fun _ k => XS.iload X30.here hx rfl (hb hby at_42) rfl k) ?_
        show own_Wp p e below _ T30 (mkF m 44 #[.val (.int p0), .val (.int p1), .val (.int p2), .val (.ref (w2_DATABASE_INSTANCE Z)), .val (.ref (w3_MONTH Z)), .val (.int (1 : Int32)), .unset, .unset] [(.int (1 : Int32)), (.ref (w3_MONTH Z)), (.ref b30), (.ref b30)])
        obtain ⟨_, T31, L31, X31, hS31, hZ31, hown31, hQ31, st31⟩ := own_callNW X30 hx hZ hS0 (Nat.zero_le _) rfl hown (hw _ (List.mem_of_getElem? (i := 14) rfl)) (hw _ (List.mem_of_getElem? (i := 15) rfl)) (hw _ (List.mem_of_getElem? (i := 13) rfl)) (hw _ (List.mem_of_getElem? (i := 16) rfl)) (by decide) (rm2_3 l Z a0 hw hA [] b30 (w3_MONTH Z) h30 n0 O30 A30 F30_38 F30_40 g30) (b := b30) (W := 1) (by decide) (by decide) [(.ref (w3_MONTH Z)), (.int (1 : Int32))] rfl (lenOf pd7 rfl) (Ls := #[.val (.int p0), .val (.int p1), .val (.int p2), .val (.ref (w2_DATABASE_INSTANCE Z)), .val (.ref (w3_MONTH Z)), .val (.int (1 : Int32)), .unset, .unset]) (by rw [hml]; rfl) (rest := [(.ref b30)]) (Nat.le_of_eq rfl) (hb hby at_44) e30 (by decide) (by decide)
        refine st31 _ ?_
        obtain ⟨rfl, N31q, K31q, F31_0, F31_1, F31_2⟩ := hQ31
        have N31 := Fr.app N1b N31q
        have O31 := O30.keep K31q (allS g30 all0)
        have K31 : Keep h0 T31.heap [] := Keep.trans K30 K31q (allS (Or.inr y30) all0)
        show own_Wp p e below _ T31 (mkF m 47 #[.val (.int p0), .val (.int p1), .val (.int p2), .val (.ref (w2_DATABASE_INSTANCE Z)), .val (.ref (w3_MONTH Z)), .val (.int (1 : Int32)), .unset, .unset] [(.ref b30)])
        refine own_step (fun _ k => XS.astore X31.here hx rfl (hb hby at_47) rfl rfl (l' := #[.val (.int p0), .val (.int p1), .val (.int p2), .val (.ref (w2_DATABASE_INSTANCE Z)), .val (.ref (w3_MONTH Z)), .val (.int (1 : Int32)), .val (.ref b30), .unset]) rfl k) ?_
        show own_Wp p e below _ T31 (mkF m 49 #[.val (.int p0), .val (.int p1), .val (.int p2), .val (.ref (w2_DATABASE_INSTANCE Z)), .val (.ref (w3_MONTH Z)), .val (.int (1 : Int32)), .val (.ref b30), .unset] [])
        refine own_step (fun _ k => XS.aloadN X31.here hx rfl (hb hby at_49) rfl rfl k) ?_
        show own_Wp p e below _ T31 (mkF m 50 #[.val (.int p0), .val (.int p1), .val (.int p2), .val (.ref (w2_DATABASE_INSTANCE Z)), .val (.ref (w3_MONTH Z)), .val (.int (1 : Int32)), .val (.ref b30), .unset] [(.ref (w2_DATABASE_INSTANCE Z))])
        refine own_step (fun _ k => XS.aload X31.here hx rfl (hb hby at_50) rfl rfl k) ?_
        show own_Wp p e below _ T31 (mkF m 52 #[.val (.int p0), .val (.int p1), .val (.int p2), .val (.ref (w2_DATABASE_INSTANCE Z)), .val (.ref (w3_MONTH Z)), .val (.int (1 : Int32)), .val (.ref b30), .unset] [(.ref b30), (.ref (w2_DATABASE_INSTANCE Z))])
        obtain ⟨_, T32, L32, X32, hQ32, st32⟩ := own_callV X31 hx hZ31 hown31 (hw _ (List.mem_of_getElem? (i := 41) rfl)) (hw _ (List.mem_of_getElem? (i := 42) rfl)) (notFace_of_selects (args := #[]) (mvT hZ31 (hw _ (List.mem_of_getElem? (i := 44) rfl)))) (hw _ (List.mem_of_getElem? (i := 44) rfl)) (hw _ (List.mem_of_getElem? (i := 43) rfl)) (hw _ (List.mem_of_getElem? (i := 5) rfl)) (hw _ (List.mem_of_getElem? (i := 45) rfl)) (by decide) ((ex_w2_DATABASE_INSTANCE hw hA).ext O31.2) (rm6_4 l Z a0 hw hA [] (w2_DATABASE_INSTANCE Z) b30 T31.heap n0 O31 (fl1 hw hA)) (W := 0) (by decide) (by decide) [(.ref b30)] rfl (lenOf pd9 rfl) (Ls := #[.val (.int p0), .val (.int p1), .val (.int p2), .val (.ref (w2_DATABASE_INSTANCE Z)), .val (.ref (w3_MONTH Z)), .val (.int (1 : Int32)), .val (.ref b30), .unset]) (by rw [hml]; rfl) (rest := []) (Nat.le_of_eq rfl) (hb hby at_52) rfl (by decide) (by decide)
        refine st32 _ ?_
        obtain ⟨rfl, N32q, e32⟩ := hQ32
        have N32 := Fr.app N31 N32q
        show own_Wp p e below _ T32 (mkF m 55 #[.val (.int p0), .val (.int p1), .val (.int p2), .val (.ref (w2_DATABASE_INSTANCE Z)), .val (.ref (w3_MONTH Z)), .val (.int (1 : Int32)), .val (.ref b30), .unset] [(.ref b30)])
        refine own_step (fun _ k => XS.astore X32.here hx rfl (hb hby at_55) rfl rfl (l' := #[.val (.int p0), .val (.int p1), .val (.int p2), .val (.ref (w2_DATABASE_INSTANCE Z)), .val (.ref (w3_MONTH Z)), .val (.int (1 : Int32)), .val (.ref b30), .val (.ref b30)]) rfl k) ?_
        show own_Wp p e below _ T32 (mkF m 57 #[.val (.int p0), .val (.int p1), .val (.int p2), .val (.ref (w2_DATABASE_INSTANCE Z)), .val (.ref (w3_MONTH Z)), .val (.int (1 : Int32)), .val (.ref b30), .val (.ref b30)] [])
        refine own_step (fun _ k => XS.aload X32.here hx rfl (hb hby at_57) rfl rfl k) ?_
        show own_Wp p e below _ T32 (mkF m 59 #[.val (.int p0), .val (.int p1), .val (.int p2), .val (.ref (w2_DATABASE_INSTANCE Z)), .val (.ref (w3_MONTH Z)), .val (.int (1 : Int32)), .val (.ref b30), .val (.ref b30)] [(.ref b30)])
        refine own_step (fun _ k => XS.ifnonnullYes X32.here hx rfl (pc0 := 59) (pc' := 64) rfl (hb hby at_59) rfl (by decide) (by decide) k) ?_
        show own_Wp p e below _ T32 (mkF m 64 #[.val (.int p0), .val (.int p1), .val (.int p2), .val (.ref (w2_DATABASE_INSTANCE Z)), .val (.ref (w3_MONTH Z)), .val (.int (1 : Int32)), .val (.ref b30), .val (.ref b30)] [])
        refine own_step (fun _ k => XS.iloadN X32.here hx rfl (hb hby at_64) rfl k) ?_
        show own_Wp p e below _ T32 (mkF m 65 #[.val (.int p0), .val (.int p1), .val (.int p2), .val (.ref (w2_DATABASE_INSTANCE Z)), .val (.ref (w3_MONTH Z)), .val (.int (1 : Int32)), .val (.ref b30), .val (.ref b30)] [(.int p0)])
        refine own_step (fun _ k => XS.iconst X32.here hx rfl (hb hby at_65) k) ?_
        show own_Wp p e below _ T32 (mkF m 66 #[.val (.int p0), .val (.int p1), .val (.int p2), .val (.ref (w2_DATABASE_INSTANCE Z)), .val (.ref (w3_MONTH Z)), .val (.int (1 : Int32)), .val (.ref b30), .val (.ref b30)] [(.int (3 : Int32)), (.int p0)])
        refine own_step (fun _ k => XS.iand X32.here hx rfl (hb hby at_66) rfl k) ?_
        show own_Wp p e below _ T32 (mkF m 67 #[.val (.int p0), .val (.int p1), .val (.int p2), .val (.ref (w2_DATABASE_INSTANCE Z)), .val (.ref (w3_MONTH Z)), .val (.int (1 : Int32)), .val (.ref b30), .val (.ref b30)] [(.int (p0 &&& (3 : Int32)))])
        refine own_step (fun _ k => XS.iconst X32.here hx rfl (hb hby at_67) k) ?_
        show own_Wp p e below _ T32 (mkF m 68 #[.val (.int p0), .val (.int p1), .val (.int p2), .val (.ref (w2_DATABASE_INSTANCE Z)), .val (.ref (w3_MONTH Z)), .val (.int (1 : Int32)), .val (.ref b30), .val (.ref b30)] [(.int (2 : Int32)), (.int (p0 &&& (3 : Int32)))])
        refine own_step (fun _ k => XS.icmpYes X32.here hx rfl (pc0 := 68) (pc' := 97) rfl (hb hby at_68) rfl (feq (by rw [hq1b_0]; decide)).2 (by decide) (by decide) k) ?_
        show own_Wp p e below _ T32 (mkF m 97 #[.val (.int p0), .val (.int p1), .val (.int p2), .val (.ref (w2_DATABASE_INSTANCE Z)), .val (.ref (w3_MONTH Z)), .val (.int (1 : Int32)), .val (.ref b30), .val (.ref b30)] [])
        refine own_step (fun _ k => XS.aload X32.here hx rfl (hb hby at_97) rfl rfl k) ?_
        show own_Wp p e below _ T32 (mkF m 99 #[.val (.int p0), .val (.int p1), .val (.int p2), .val (.ref (w2_DATABASE_INSTANCE Z)), .val (.ref (w3_MONTH Z)), .val (.int (1 : Int32)), .val (.ref b30), .val (.ref b30)] [(.ref b30)])
        obtain ⟨_, T33, L33, X33, hQ33, st33⟩ := own_callV X32 hx hZ31 hown31 (hw _ (List.mem_of_getElem? (i := 48) rfl)) (hw _ (List.mem_of_getElem? (i := 49) rfl)) (notFace_of_selects (args := #[]) (mvT hZ31 (hw _ (List.mem_of_getElem? (i := 51) rfl)))) (hw _ (List.mem_of_getElem? (i := 51) rfl)) (hw _ (List.mem_of_getElem? (i := 50) rfl)) (hw _ (List.mem_of_getElem? (i := 13) rfl)) (hw _ (List.mem_of_getElem? (i := 52) rfl)) (by decide) F31_0 (rm7_5 l Z a0 hw hA [] b30 T31.heap n0 O31 F31_1) (W := 0) (by decide) (by decide) [] rfl (lenOf pd10 rfl) (Ls := #[.val (.int p0), .val (.int p1), .val (.int p2), .val (.ref (w2_DATABASE_INSTANCE Z)), .val (.ref (w3_MONTH Z)), .val (.int (1 : Int32)), .val (.ref b30), .val (.ref b30)]) (by rw [hml]; rfl) (rest := []) (Nat.le_of_eq rfl) (hb hby at_99) e32 (by decide) (by decide)
        refine st33 _ ?_
        obtain ⟨rfl, N33q, e33⟩ := hQ33
        have N33 := Fr.app N32 N33q
        show own_Wp p e below _ T33 (mkF m 102 #[.val (.int p0), .val (.int p1), .val (.int p2), .val (.ref (w2_DATABASE_INSTANCE Z)), .val (.ref (w3_MONTH Z)), .val (.int (1 : Int32)), .val (.ref b30), .val (.ref b30)] [(.ref (w3_MONTH Z))])
        refine own_step (fun _ k => XS.aload X33.here hx rfl (hb hby at_102) rfl rfl k) ?_
        show own_Wp p e below _ T33 (mkF m 104 #[.val (.int p0), .val (.int p1), .val (.int p2), .val (.ref (w2_DATABASE_INSTANCE Z)), .val (.ref (w3_MONTH Z)), .val (.int (1 : Int32)), .val (.ref b30), .val (.ref b30)] [(.ref (w3_MONTH Z)), (.ref (w3_MONTH Z))])
        refine own_step (fun _ k => Jvm.RoadKit.acmp (g := (mkF m 104 #[.val (.int p0), .val (.int p1), .val (.int p2), .val (.ref (w2_DATABASE_INSTANCE Z)), .val (.ref (w3_MONTH Z)), .val (.int (1 : Int32)), .val (.ref b30), .val (.ref b30)] [(.ref (w3_MONTH Z)), (.ref (w3_MONTH Z))])) X33 hx rfl rfl rfl (pc0 := 104) (pc' := 107) (same := true) rfl (hb hby at_104) rfl (decide_eq_true rfl) (by decide) (by decide) k) ?_
        show own_Wp p e below _ T33 (mkF m 107 #[.val (.int p0), .val (.int p1), .val (.int p2), .val (.ref (w2_DATABASE_INSTANCE Z)), .val (.ref (w3_MONTH Z)), .val (.int (1 : Int32)), .val (.ref b30), .val (.ref b30)] [])
        refine own_step (fun _ k => XS.aload X33.here hx rfl (hb hby at_107) rfl rfl k) ?_
        show own_Wp p e below _ T33 (mkF m 109 #[.val (.int p0), .val (.int p1), .val (.int p2), .val (.ref (w2_DATABASE_INSTANCE Z)), .val (.ref (w3_MONTH Z)), .val (.int (1 : Int32)), .val (.ref b30), .val (.ref b30)] [(.ref b30)])
        obtain ⟨_, T34, L34, X34, hQ34, st34⟩ := own_callV X33 hx hZ31 hown31 (hw _ (List.mem_of_getElem? (i := 53) rfl)) (hw _ (List.mem_of_getElem? (i := 54) rfl)) (notFace_of_selects (args := #[]) (mvT hZ31 (hw _ (List.mem_of_getElem? (i := 56) rfl)))) (hw _ (List.mem_of_getElem? (i := 56) rfl)) (hw _ (List.mem_of_getElem? (i := 55) rfl)) (hw _ (List.mem_of_getElem? (i := 13) rfl)) (hw _ (List.mem_of_getElem? (i := 57) rfl)) (by decide) F31_0 (rm8_6 l Z a0 hw hA [] b30 T31.heap n0 O31 F31_2) (W := 0) (by decide) (by decide) [] rfl (lenOf pd11 rfl) (Ls := #[.val (.int p0), .val (.int p1), .val (.int p2), .val (.ref (w2_DATABASE_INSTANCE Z)), .val (.ref (w3_MONTH Z)), .val (.int (1 : Int32)), .val (.ref b30), .val (.ref b30)]) (by rw [hml]; rfl) (rest := []) (Nat.le_of_eq rfl) (hb hby at_109) e33 (by decide) (by decide)
        refine st34 _ ?_
        obtain ⟨rfl, N34q, e34⟩ := hQ34
        have N34 := Fr.app N33 N34q
        show own_Wp p e below _ T34 (mkF m 112 #[.val (.int p0), .val (.int p1), .val (.int p2), .val (.ref (w2_DATABASE_INSTANCE Z)), .val (.ref (w3_MONTH Z)), .val (.int (1 : Int32)), .val (.ref b30), .val (.ref b30)] [(.int (1 : Int32))])
        refine own_step (fun _ k => XS.iload X34.here hx rfl (hb hby at_112) rfl k) ?_
        show own_Wp p e below _ T34 (mkF m 114 #[.val (.int p0), .val (.int p1), .val (.int p2), .val (.ref (w2_DATABASE_INSTANCE Z)), .val (.ref (w3_MONTH Z)), .val (.int (1 : Int32)), .val (.ref b30), .val (.ref b30)] [(.int (1 : Int32)), (.int (1 : Int32))])
        refine own_step (fun _ k => XS.icmpNo X34.here hx rfl (hb hby at_114) rfl (by decide) k) ?_
        show own_Wp p e below _ T34 (mkF m 117 #[.val (.int p0), .val (.int p1), .val (.int p2), .val (.ref (w2_DATABASE_INSTANCE Z)), .val (.ref (w3_MONTH Z)), .val (.int (1 : Int32)), .val (.ref b30), .val (.ref b30)] [])
        refine own_step (fun _ k => XS.iconst X34.here hx rfl (hb hby at_117) k) ?_
        show own_Wp p e below _ T34 (mkF m 118 #[.val (.int p0), .val (.int p1), .val (.int p2), .val (.ref (w2_DATABASE_INSTANCE Z)), .val (.ref (w3_MONTH Z)), .val (.int (1 : Int32)), .val (.ref b30), .val (.ref b30)] [(.int (1 : Int32))])
        refine own_step (fun _ k => XS.goto X34.here hx rfl (pc0 := 118) (pc' := 122) rfl (hb hby at_118) (by decide) (by decide) k) ?_
        show own_Wp p e below _ T34 (mkF m 122 #[.val (.int p0), .val (.int p1), .val (.int p2), .val (.ref (w2_DATABASE_INSTANCE Z)), .val (.ref (w3_MONTH Z)), .val (.int (1 : Int32)), .val (.ref b30), .val (.ref b30)] [(.int (1 : Int32))])
        exact own_retNW X34 hS31 (by rw [e34]; exact (Nat.le_refl _)) hx (t := .boolean) hret (by simp) hlk (hb hby at_122) (by decide) (by decide) ⟨rfl, N34⟩
      · skip
        refine own_step (fun _ k => XS.ifYes X28.here hx rfl (pc0 := 30) (pc' := 36) rfl (hb hby at_30) rfl ((if0 _ _).trans (feq hc29).2) (by decide) (by decide) k) ?_
        show own_Wp p e below _ T28 (mkF m 36 #[.val (.int p0), .val (.int p1), .val (.int p2), .val (.ref (w2_DATABASE_INSTANCE Z)), .val (.ref (w3_MONTH Z)), .val (.int (p2 &&& (2147483647 : Int32))), .unset, .unset] [])
        have hpos : ¬ ((p2 &&& (2147483647 : Int32)) < (1 : Int32)) := own_pos hc29
        obtain ⟨T35, h35, X35, e35, E35, A35, D35, -, st35⟩ := newO X28 hx hZ hown (hw _ (List.mem_of_getElem? (i := 11) rfl)) (hw _ (List.mem_of_getElem? (i := 12) rfl)) (hw _ (List.mem_of_getElem? (i := 13) rfl)) e28 (g := (mkF m 36 #[.val (.int p0), .val (.int p1), .val (.int p2), .val (.ref (w2_DATABASE_INSTANCE Z)), .val (.ref (w3_MONTH Z)), .val (.int (p2 &&& (2147483647 : Int32))), .unset, .unset] [])) rfl (hb hby at_36) (by decide) (by decide)
        obtain ⟨b35, z35⟩ : ∃ z, z = h0.size := ⟨_, rfl⟩
        rw [← z35] at A35 D35 st35
        refine own_step st35 ?_
        have g35 : n0 ≤ b35 := Nat.le_trans (O0.1 ▸ O0.2.1) (Nat.le_of_eq z35.symm)
        have y35 : h0.size ≤ b35 := Nat.le_trans (Nat.le_refl _) (Nat.le_of_eq z35.symm)
        have O35 := O0.ext E35
        have K35 : Keep h0 h35 [] := (Keep.refl h0 []).ext E35
        have F35_38 : Fld Z h35 b35 "com/example/meter_to_month/metertomonth/ledger/BillingPeriod" "unit" "Lcom/example/meter_to_month/metertomonth/ledger/BillingPeriod$Unit;" .null := D35 (Or.inr (hw _ (List.mem_of_getElem? (i := 38) rfl))) (ty := (.object "com/example/meter_to_month/metertomonth/ledger/BillingPeriod$Unit")) (by decide)
        have F35_40 : Fld Z h35 b35 "com/example/meter_to_month/metertomonth/ledger/BillingPeriod" "count" "I" (.int (0 : Int32)) := D35 (Or.inr (hw _ (List.mem_of_getElem? (i := 40) rfl))) (ty := .int) (by decide)
        show own_Wp p e below _ T35 (mkF m 39 #[.val (.int p0), .val (.int p1), .val (.int p2), .val (.ref (w2_DATABASE_INSTANCE Z)), .val (.ref (w3_MONTH Z)), .val (.int (p2 &&& (2147483647 : Int32))), .unset, .unset] [(.ref b35)])
        refine own_step (fun _ k => XS.dup X35.here hx rfl (hb hby at_39) rfl rfl k) ?_
        show own_Wp p e below _ T35 (mkF m 40 #[.val (.int p0), .val (.int p1), .val (.int p2), .val (.ref (w2_DATABASE_INSTANCE Z)), .val (.ref (w3_MONTH Z)), .val (.int (p2 &&& (2147483647 : Int32))), .unset, .unset] [(.ref b35), (.ref b35)])
        refine own_step (fun _ k => XS.aload X35.here hx rfl (hb hby at_40) rfl rfl k) ?_
        show own_Wp p e below _ T35 (mkF m 42 #[.val (.int p0), .val (.int p1), .val (.int p2), .val (.ref (w2_DATABASE_INSTANCE Z)), .val (.ref (w3_MONTH Z)), .val (.int (p2 &&& (2147483647 : Int32))), .unset, .unset] [(.ref (w3_MONTH Z)), (.ref b35), (.ref b35)])
        refine own_step (fun _ k => XS.iload X35.here hx rfl (hb hby at_42) rfl k) ?_
        show own_Wp p e below _ T35 (mkF m 44 #[.val (.int p0), .val (.int p1), .val (.int p2), .val (.ref (w2_DATABASE_INSTANCE Z)), .val (.ref (w3_MONTH Z)), .val (.int (p2 &&& (2147483647 : Int32))), .unset, .unset] [(.int (p2 &&& (2147483647 : Int32))), (.ref (w3_MONTH Z)), (.ref b35), (.ref b35)])
        obtain ⟨_, T36, L36, X36, hS36, hZ36, hown36, hQ36, st36⟩ := own_callNW X35 hx hZ hS0 (Nat.zero_le _) rfl hown (hw _ (List.mem_of_getElem? (i := 14) rfl)) (hw _ (List.mem_of_getElem? (i := 15) rfl)) (hw _ (List.mem_of_getElem? (i := 13) rfl)) (hw _ (List.mem_of_getElem? (i := 16) rfl)) (by decide) (rm2_7 l Z a0 hw hA [] b35 (w3_MONTH Z) (p2 &&& (2147483647 : Int32)) h35 n0 O35 A35 F35_38 F35_40 g35 hpos) (b := b35) (W := 1) (by decide) (by decide) [(.ref (w3_MONTH Z)), (.int (p2 &&& (2147483647 : Int32)))] rfl (lenOf pd7 rfl) (Ls := #[.val (.int p0), .val (.int p1), .val (.int p2), .val (.ref (w2_DATABASE_INSTANCE Z)), .val (.ref (w3_MONTH Z)), .val (.int (p2 &&& (2147483647 : Int32))), .unset, .unset]) (by rw [hml]; rfl) (rest := [(.ref b35)]) (Nat.le_of_eq rfl) (hb hby at_44) e35 (by decide) (by decide)
        refine st36 _ ?_
        obtain ⟨rfl, N36q, K36q, F36_0, F36_1, F36_2⟩ := hQ36
        have N36 := Fr.app N1b N36q
        have O36 := O35.keep K36q (allS g35 all0)
        have K36 : Keep h0 T36.heap [] := Keep.trans K35 K36q (allS (Or.inr y35) all0)
        show own_Wp p e below _ T36 (mkF m 47 #[.val (.int p0), .val (.int p1), .val (.int p2), .val (.ref (w2_DATABASE_INSTANCE Z)), .val (.ref (w3_MONTH Z)), .val (.int (p2 &&& (2147483647 : Int32))), .unset, .unset] [(.ref b35)])
        refine own_step (fun _ k => XS.astore X36.here hx rfl (hb hby at_47) rfl rfl (l' := #[.val (.int p0), .val (.int p1), .val (.int p2), .val (.ref (w2_DATABASE_INSTANCE Z)), .val (.ref (w3_MONTH Z)), .val (.int (p2 &&& (2147483647 : Int32))), .val (.ref b35), .unset]) rfl k) ?_
        show own_Wp p e below _ T36 (mkF m 49 #[.val (.int p0), .val (.int p1), .val (.int p2), .val (.ref (w2_DATABASE_INSTANCE Z)), .val (.ref (w3_MONTH Z)), .val (.int (p2 &&& (2147483647 : Int32))), .val (.ref b35), .unset] [])
        refine own_step (fun _ k => XS.aloadN X36.here hx rfl (hb hby at_49) rfl rfl k) ?_
        show own_Wp p e below _ T36 (mkF m 50 #[.val (.int p0), .val (.int p1), .val (.int p2), .val (.ref (w2_DATABASE_INSTANCE Z)), .val (.ref (w3_MONTH Z)), .val (.int (p2 &&& (2147483647 : Int32))), .val (.ref b35), .unset] [(.ref (w2_DATABASE_INSTANCE Z))])
        refine own_step (fun _ k => XS.aload X36.here hx rfl (hb hby at_50) rfl rfl k) ?_
        show own_Wp p e below _ T36 (mkF m 52 #[.val (.int p0), .val (.int p1), .val (.int p2), .val (.ref (w2_DATABASE_INSTANCE Z)), .val (.ref (w3_MONTH Z)), .val (.int (p2 &&& (2147483647 : Int32))), .val (.ref b35), .unset] [(.ref b35), (.ref (w2_DATABASE_INSTANCE Z))])
        obtain ⟨_, T37, L37, X37, hQ37, st37⟩ := own_callV X36 hx hZ36 hown36 (hw _ (List.mem_of_getElem? (i := 41) rfl)) (hw _ (List.mem_of_getElem? (i := 42) rfl)) (notFace_of_selects (args := #[]) (mvT hZ36 (hw _ (List.mem_of_getElem? (i := 44) rfl)))) (hw _ (List.mem_of_getElem? (i := 44) rfl)) (hw _ (List.mem_of_getElem? (i := 43) rfl)) (hw _ (List.mem_of_getElem? (i := 5) rfl)) (hw _ (List.mem_of_getElem? (i := 45) rfl)) (by decide) ((ex_w2_DATABASE_INSTANCE hw hA).ext O36.2) (rm6_4 l Z a0 hw hA [] (w2_DATABASE_INSTANCE Z) b35 T36.heap n0 O36 (fl1 hw hA)) (W := 0) (by decide) (by decide) [(.ref b35)] rfl (lenOf pd9 rfl) (Ls := #[.val (.int p0), .val (.int p1), .val (.int p2), .val (.ref (w2_DATABASE_INSTANCE Z)), .val (.ref (w3_MONTH Z)), .val (.int (p2 &&& (2147483647 : Int32))), .val (.ref b35), .unset]) (by rw [hml]; rfl) (rest := []) (Nat.le_of_eq rfl) (hb hby at_52) rfl (by decide) (by decide)
        refine st37 _ ?_
        obtain ⟨rfl, N37q, e37⟩ := hQ37
        have N37 := Fr.app N36 N37q
        show own_Wp p e below _ T37 (mkF m 55 #[.val (.int p0), .val (.int p1), .val (.int p2), .val (.ref (w2_DATABASE_INSTANCE Z)), .val (.ref (w3_MONTH Z)), .val (.int (p2 &&& (2147483647 : Int32))), .val (.ref b35), .unset] [(.ref b35)])
        refine own_step (fun _ k => XS.astore X37.here hx rfl (hb hby at_55) rfl rfl (l' := #[.val (.int p0), .val (.int p1), .val (.int p2), .val (.ref (w2_DATABASE_INSTANCE Z)), .val (.ref (w3_MONTH Z)), .val (.int (p2 &&& (2147483647 : Int32))), .val (.ref b35), .val (.ref b35)]) rfl k) ?_
        show own_Wp p e below _ T37 (mkF m 57 #[.val (.int p0), .val (.int p1), .val (.int p2), .val (.ref (w2_DATABASE_INSTANCE Z)), .val (.ref (w3_MONTH Z)), .val (.int (p2 &&& (2147483647 : Int32))), .val (.ref b35), .val (.ref b35)] [])
        refine own_step (fun _ k => XS.aload X37.here hx rfl (hb hby at_57) rfl rfl k) ?_
        show own_Wp p e below _ T37 (mkF m 59 #[.val (.int p0), .val (.int p1), .val (.int p2), .val (.ref (w2_DATABASE_INSTANCE Z)), .val (.ref (w3_MONTH Z)), .val (.int (p2 &&& (2147483647 : Int32))), .val (.ref b35), .val (.ref b35)] [(.ref b35)])
        refine own_step (fun _ k => XS.ifnonnullYes X37.here hx rfl (pc0 := 59) (pc' := 64) rfl (hb hby at_59) rfl (by decide) (by decide) k) ?_
        show own_Wp p e below _ T37 (mkF m 64 #[.val (.int p0), .val (.int p1), .val (.int p2), .val (.ref (w2_DATABASE_INSTANCE Z)), .val (.ref (w3_MONTH Z)), .val (.int (p2 &&& (2147483647 : Int32))), .val (.ref b35), .val (.ref b35)] [])
        refine own_step (fun _ k => XS.iloadN X37.here hx rfl (hb hby at_64) rfl k) ?_
        show own_Wp p e below _ T37 (mkF m 65 #[.val (.int p0), .val (.int p1), .val (.int p2), .val (.ref (w2_DATABASE_INSTANCE Z)), .val (.ref (w3_MONTH Z)), .val (.int (p2 &&& (2147483647 : Int32))), .val (.ref b35), .val (.ref b35)] [(.int p0)])
        refine own_step (fun _ k => XS.iconst X37.here hx rfl (hb hby at_65) k) ?_
        show own_Wp p e below _ T37 (mkF m 66 #[.val (.int p0), .val (.int p1), .val (.int p2), .val (.ref (w2_DATABASE_INSTANCE Z)), .val (.ref (w3_MONTH Z)), .val (.int (p2 &&& (2147483647 : Int32))), .val (.ref b35), .val (.ref b35)] [(.int (3 : Int32)), (.int p0)])
        refine own_step (fun _ k => XS.iand X37.here hx rfl (hb hby at_66) rfl k) ?_
        show own_Wp p e below _ T37 (mkF m 67 #[.val (.int p0), .val (.int p1), .val (.int p2), .val (.ref (w2_DATABASE_INSTANCE Z)), .val (.ref (w3_MONTH Z)), .val (.int (p2 &&& (2147483647 : Int32))), .val (.ref b35), .val (.ref b35)] [(.int (p0 &&& (3 : Int32)))])
        refine own_step (fun _ k => XS.iconst X37.here hx rfl (hb hby at_67) k) ?_
        show own_Wp p e below _ T37 (mkF m 68 #[.val (.int p0), .val (.int p1), .val (.int p2), .val (.ref (w2_DATABASE_INSTANCE Z)), .val (.ref (w3_MONTH Z)), .val (.int (p2 &&& (2147483647 : Int32))), .val (.ref b35), .val (.ref b35)] [(.int (2 : Int32)), (.int (p0 &&& (3 : Int32)))])
        refine own_step (fun _ k => XS.icmpYes X37.here hx rfl (pc0 := 68) (pc' := 97) rfl (hb hby at_68) rfl (feq (by rw [hq1b_0]; decide)).2 (by decide) (by decide) k) ?_
        show own_Wp p e below _ T37 (mkF m 97 #[.val (.int p0), .val (.int p1), .val (.int p2), .val (.ref (w2_DATABASE_INSTANCE Z)), .val (.ref (w3_MONTH Z)), .val (.int (p2 &&& (2147483647 : Int32))), .val (.ref b35), .val (.ref b35)] [])
        refine own_step (fun _ k => XS.aload X37.here hx rfl (hb hby at_97) rfl rfl k) ?_
        show own_Wp p e below _ T37 (mkF m 99 #[.val (.int p0), .val (.int p1), .val (.int p2), .val (.ref (w2_DATABASE_INSTANCE Z)), .val (.ref (w3_MONTH Z)), .val (.int (p2 &&& (2147483647 : Int32))), .val (.ref b35), .val (.ref b35)] [(.ref b35)])
        obtain ⟨_, T38, L38, X38, hQ38, st38⟩ := own_callV X37 hx hZ36 hown36 (hw _ (List.mem_of_getElem? (i := 48) rfl)) (hw _ (List.mem_of_getElem? (i := 49) rfl)) (notFace_of_selects (args := #[]) (mvT hZ36 (hw _ (List.mem_of_getElem? (i := 51) rfl)))) (hw _ (List.mem_of_getElem? (i := 51) rfl)) (hw _ (List.mem_of_getElem? (i := 50) rfl)) (hw _ (List.mem_of_getElem? (i := 13) rfl)) (hw _ (List.mem_of_getElem? (i := 52) rfl)) (by decide) F36_0 (rm7_5 l Z a0 hw hA [] b35 T36.heap n0 O36 F36_1) (W := 0) (by decide) (by decide) [] rfl (lenOf pd10 rfl) (Ls := #[.val (.int p0), .val (.int p1), .val (.int p2), .val (.ref (w2_DATABASE_INSTANCE Z)), .val (.ref (w3_MONTH Z)), .val (.int (p2 &&& (2147483647 : Int32))), .val (.ref b35), .val (.ref b35)]) (by rw [hml]; rfl) (rest := []) (Nat.le_of_eq rfl) (hb hby at_99) e37 (by decide) (by decide)
        refine st38 _ ?_
        obtain ⟨rfl, N38q, e38⟩ := hQ38
        have N38 := Fr.app N37 N38q
        show own_Wp p e below _ T38 (mkF m 102 #[.val (.int p0), .val (.int p1), .val (.int p2), .val (.ref (w2_DATABASE_INSTANCE Z)), .val (.ref (w3_MONTH Z)), .val (.int (p2 &&& (2147483647 : Int32))), .val (.ref b35), .val (.ref b35)] [(.ref (w3_MONTH Z))])
        refine own_step (fun _ k => XS.aload X38.here hx rfl (hb hby at_102) rfl rfl k) ?_
        show own_Wp p e below _ T38 (mkF m 104 #[.val (.int p0), .val (.int p1), .val (.int p2), .val (.ref (w2_DATABASE_INSTANCE Z)), .val (.ref (w3_MONTH Z)), .val (.int (p2 &&& (2147483647 : Int32))), .val (.ref b35), .val (.ref b35)] [(.ref (w3_MONTH Z)), (.ref (w3_MONTH Z))])
        refine own_step (fun _ k => Jvm.RoadKit.acmp (g := (mkF m 104 #[.val (.int p0), .val (.int p1), .val (.int p2), .val (.ref (w2_DATABASE_INSTANCE Z)), .val (.ref (w3_MONTH Z)), .val (.int (p2 &&& (2147483647 : Int32))), .val (.ref b35), .val (.ref b35)] [(.ref (w3_MONTH Z)), (.ref (w3_MONTH Z))])) X38 hx rfl rfl rfl (pc0 := 104) (pc' := 107) (same := true) rfl (hb hby at_104) rfl (decide_eq_true rfl) (by decide) (by decide) k) ?_
        show own_Wp p e below _ T38 (mkF m 107 #[.val (.int p0), .val (.int p1), .val (.int p2), .val (.ref (w2_DATABASE_INSTANCE Z)), .val (.ref (w3_MONTH Z)), .val (.int (p2 &&& (2147483647 : Int32))), .val (.ref b35), .val (.ref b35)] [])
        refine own_step (fun _ k => XS.aload X38.here hx rfl (hb hby at_107) rfl rfl k) ?_
        show own_Wp p e below _ T38 (mkF m 109 #[.val (.int p0), .val (.int p1), .val (.int p2), .val (.ref (w2_DATABASE_INSTANCE Z)), .val (.ref (w3_MONTH Z)), .val (.int (p2 &&& (2147483647 : Int32))), .val (.ref b35), .val (.ref b35)] [(.ref b35)])
        obtain ⟨_, T39, L39, X39, hQ39, st39⟩ := own_callV X38 hx hZ36 hown36 (hw _ (List.mem_of_getElem? (i := 53) rfl)) (hw _ (List.mem_of_getElem? (i := 54) rfl)) (notFace_of_selects (args := #[]) (mvT hZ36 (hw _ (List.mem_of_getElem? (i := 56) rfl)))) (hw _ (List.mem_of_getElem? (i := 56) rfl)) (hw _ (List.mem_of_getElem? (i := 55) rfl)) (hw _ (List.mem_of_getElem? (i := 13) rfl)) (hw _ (List.mem_of_getElem? (i := 57) rfl)) (by decide) F36_0 (rm8_8 l Z a0 hw hA [] b35 (p2 &&& (2147483647 : Int32)) T36.heap n0 O36 F36_2) (W := 0) (by decide) (by decide) [] rfl (lenOf pd11 rfl) (Ls := #[.val (.int p0), .val (.int p1), .val (.int p2), .val (.ref (w2_DATABASE_INSTANCE Z)), .val (.ref (w3_MONTH Z)), .val (.int (p2 &&& (2147483647 : Int32))), .val (.ref b35), .val (.ref b35)]) (by rw [hml]; rfl) (rest := []) (Nat.le_of_eq rfl) (hb hby at_109) e38 (by decide) (by decide)
        refine st39 _ ?_
        obtain ⟨rfl, N39q, e39⟩ := hQ39
        have N39 := Fr.app N38 N39q
        show own_Wp p e below _ T39 (mkF m 112 #[.val (.int p0), .val (.int p1), .val (.int p2), .val (.ref (w2_DATABASE_INSTANCE Z)), .val (.ref (w3_MONTH Z)), .val (.int (p2 &&& (2147483647 : Int32))), .val (.ref b35), .val (.ref b35)] [(.int (p2 &&& (2147483647 : Int32)))])
        refine own_step (fun _ k => XS.iload X39.here hx rfl (hb hby at_112) rfl k) ?_
        show own_Wp p e below _ T39 (mkF m 114 #[.val (.int p0), .val (.int p1), .val (.int p2), .val (.ref (w2_DATABASE_INSTANCE Z)), .val (.ref (w3_MONTH Z)), .val (.int (p2 &&& (2147483647 : Int32))), .val (.ref b35), .val (.ref b35)] [(.int (p2 &&& (2147483647 : Int32))), (.int (p2 &&& (2147483647 : Int32)))])
        refine own_step (fun _ k => XS.icmpNo X39.here hx rfl (hb hby at_114) rfl (teq (rfl : (p2 &&& (2147483647 : Int32)) = (p2 &&& (2147483647 : Int32)))).2 k) ?_
        show own_Wp p e below _ T39 (mkF m 117 #[.val (.int p0), .val (.int p1), .val (.int p2), .val (.ref (w2_DATABASE_INSTANCE Z)), .val (.ref (w3_MONTH Z)), .val (.int (p2 &&& (2147483647 : Int32))), .val (.ref b35), .val (.ref b35)] [])
        refine own_step (fun _ k => XS.iconst X39.here hx rfl (hb hby at_117) k) ?_
        show own_Wp p e below _ T39 (mkF m 118 #[.val (.int p0), .val (.int p1), .val (.int p2), .val (.ref (w2_DATABASE_INSTANCE Z)), .val (.ref (w3_MONTH Z)), .val (.int (p2 &&& (2147483647 : Int32))), .val (.ref b35), .val (.ref b35)] [(.int (1 : Int32))])
        refine own_step (fun _ k => XS.goto X39.here hx rfl (pc0 := 118) (pc' := 122) rfl (hb hby at_118) (by decide) (by decide) k) ?_
        show own_Wp p e below _ T39 (mkF m 122 #[.val (.int p0), .val (.int p1), .val (.int p2), .val (.ref (w2_DATABASE_INSTANCE Z)), .val (.ref (w3_MONTH Z)), .val (.int (p2 &&& (2147483647 : Int32))), .val (.ref b35), .val (.ref b35)] [(.int (1 : Int32))])
        exact own_retNW X39 hS36 (by rw [e39]; exact (Nat.le_refl _)) hx (t := .boolean) hret (by simp) hlk (hb hby at_122) (by decide) (by decide) ⟨rfl, N39⟩
    · skip
      refine own_step (fun _ k => XS.ifNo X1.here hx rfl (hb hby at_8) rfl ((if0 _ _).trans (feq hc27).1) k) ?_
      show own_Wp p e below _ T1 (mkF m 11 #[.val (.int p0), .val (.int p1), .val (.int p2), .val (.ref (w2_DATABASE_INSTANCE Z)), .unset, .unset, .unset, .unset] [])
      obtain ⟨T40, X40, e40, st40⟩ := getS2 X1 hx hZ hown (host := "") (Or.inl (hw _ (List.mem_of_getElem? (i := 7) rfl))) Via.refl e1b ((st_w1_YEAR hw hA).ext O0.2) (g := (mkF m 11 #[.val (.int p0), .val (.int p1), .val (.int p2), .val (.ref (w2_DATABASE_INSTANCE Z)), .unset, .unset, .unset, .unset] [])) rfl (hb hby at_11)
      refine own_step st40 ?_
      show own_Wp p e below _ T40 (mkF m 14 #[.val (.int p0), .val (.int p1), .val (.int p2), .val (.ref (w2_DATABASE_INSTANCE Z)), .unset, .unset, .unset, .unset] [(.ref (w1_YEAR Z))])
      refine own_step (fun _ k => XS.goto X40.here hx rfl (pc0 := 14) (pc' := 20) rfl (hb hby at_14) (by decide) (by decide) k) ?_
      show own_Wp p e below _ T40 (mkF m 20 #[.val (.int p0), .val (.int p1), .val (.int p2), .val (.ref (w2_DATABASE_INSTANCE Z)), .unset, .unset, .unset, .unset] [(.ref (w1_YEAR Z))])
      refine own_step (fun _ k => XS.astore X40.here hx rfl (hb hby at_20) rfl rfl (l' := #[.val (.int p0), .val (.int p1), .val (.int p2), .val (.ref (w2_DATABASE_INSTANCE Z)), .val (.ref (w1_YEAR Z)), .unset, .unset, .unset]) rfl k) ?_
      show own_Wp p e below _ T40 (mkF m 22 #[.val (.int p0), .val (.int p1), .val (.int p2), .val (.ref (w2_DATABASE_INSTANCE Z)), .val (.ref (w1_YEAR Z)), .unset, .unset, .unset] [])
      refine own_step (fun _ k => XS.iloadN X40.here hx rfl (hb hby at_22) rfl k) ?_
      show own_Wp p e below _ T40 (mkF m 23 #[.val (.int p0), .val (.int p1), .val (.int p2), .val (.ref (w2_DATABASE_INSTANCE Z)), .val (.ref (w1_YEAR Z)), .unset, .unset, .unset] [(.int p2)])
      refine own_step (X40.ldcInt hx hown (mvT hZ (hw _ (List.mem_of_getElem? (i := 10) rfl))) (g := (mkF m 23 #[.val (.int p0), .val (.int p1), .val (.int p2), .val (.ref (w2_DATABASE_INSTANCE Z)), .val (.ref (w1_YEAR Z)), .unset, .unset, .unset] [(.int p2)])) rfl (hb hby at_23)) ?_
      show own_Wp p e below _ T40 (mkF m 25 #[.val (.int p0), .val (.int p1), .val (.int p2), .val (.ref (w2_DATABASE_INSTANCE Z)), .val (.ref (w1_YEAR Z)), .unset, .unset, .unset] [(.int (2147483647 : Int32)), (.int p2)])
      refine own_step (fun _ k => XS.iand X40.here hx rfl (hb hby at_25) rfl k) ?_
      show own_Wp p e below _ T40 (mkF m 26 #[.val (.int p0), .val (.int p1), .val (.int p2), .val (.ref (w2_DATABASE_INSTANCE Z)), .val (.ref (w1_YEAR Z)), .unset, .unset, .unset] [(.int (p2 &&& (2147483647 : Int32)))])
      refine own_step (fun _ k => XS.istore X40.here hx rfl (hb hby at_26) rfl (l' := #[.val (.int p0), .val (.int p1), .val (.int p2), .val (.ref (w2_DATABASE_INSTANCE Z)), .val (.ref (w1_YEAR Z)), .val (.int (p2 &&& (2147483647 : Int32))), .unset, .unset]) rfl k) ?_
      show own_Wp p e below _ T40 (mkF m 28 #[.val (.int p0), .val (.int p1), .val (.int p2), .val (.ref (w2_DATABASE_INSTANCE Z)), .val (.ref (w1_YEAR Z)), .val (.int (p2 &&& (2147483647 : Int32))), .unset, .unset] [])
      refine own_step (fun _ k => XS.iload X40.here hx rfl (hb hby at_28) rfl k) ?_
      show own_Wp p e below _ T40 (mkF m 30 #[.val (.int p0), .val (.int p1), .val (.int p2), .val (.ref (w2_DATABASE_INSTANCE Z)), .val (.ref (w1_YEAR Z)), .val (.int (p2 &&& (2147483647 : Int32))), .unset, .unset] [(.int (p2 &&& (2147483647 : Int32)))])
      by_cases hc41 : (p2 &&& (2147483647 : Int32)) = (0 : Int32)
      · skip
        refine own_step (fun _ k => XS.ifNo X40.here hx rfl (hb hby at_30) rfl ((if0 _ _).trans (teq hc41).2) k) ?_
        show own_Wp p e below _ T40 (mkF m 33 #[.val (.int p0), .val (.int p1), .val (.int p2), .val (.ref (w2_DATABASE_INSTANCE Z)), .val (.ref (w1_YEAR Z)), .val (.int (p2 &&& (2147483647 : Int32))), .unset, .unset] [])
        refine own_step (fun _ k => XS.iconst X40.here hx rfl (hb hby at_33) k) ?_
        show own_Wp p e below _ T40 (mkF m 34 #[.val (.int p0), .val (.int p1), .val (.int p2), .val (.ref (w2_DATABASE_INSTANCE Z)), .val (.ref (w1_YEAR Z)), .val (.int (p2 &&& (2147483647 : Int32))), .unset, .unset] [(.int (1 : Int32))])
        refine own_step (fun _ k => XS.istore X40.here hx rfl (hb hby at_34) rfl (l' := #[.val (.int p0), .val (.int p1), .val (.int p2), .val (.ref (w2_DATABASE_INSTANCE Z)), .val (.ref (w1_YEAR Z)), .val (.int (1 : Int32)), .unset, .unset]) rfl k) ?_
        show own_Wp p e below _ T40 (mkF m 36 #[.val (.int p0), .val (.int p1), .val (.int p2), .val (.ref (w2_DATABASE_INSTANCE Z)), .val (.ref (w1_YEAR Z)), .val (.int (1 : Int32)), .unset, .unset] [])
        obtain ⟨T42, h42, X42, e42, E42, A42, D42, -, st42⟩ := newO X40 hx hZ hown (hw _ (List.mem_of_getElem? (i := 11) rfl)) (hw _ (List.mem_of_getElem? (i := 12) rfl)) (hw _ (List.mem_of_getElem? (i := 13) rfl)) e40 (g := (mkF m 36 #[.val (.int p0), .val (.int p1), .val (.int p2), .val (.ref (w2_DATABASE_INSTANCE Z)), .val (.ref (w1_YEAR Z)), .val (.int (1 : Int32)), .unset, .unset] [])) rfl (hb hby at_36) (by decide) (by decide)
        obtain ⟨b42, z42⟩ : ∃ z, z = h0.size := ⟨_, rfl⟩
        rw [← z42] at A42 D42 st42
        refine own_step st42 ?_
        have g42 : n0 ≤ b42 := Nat.le_trans (O0.1 ▸ O0.2.1) (Nat.le_of_eq z42.symm)
        have y42 : h0.size ≤ b42 := Nat.le_trans (Nat.le_refl _) (Nat.le_of_eq z42.symm)
        have O42 := O0.ext E42
        have K42 : Keep h0 h42 [] := (Keep.refl h0 []).ext E42
        have F42_38 : Fld Z h42 b42 "com/example/meter_to_month/metertomonth/ledger/BillingPeriod" "unit" "Lcom/example/meter_to_month/metertomonth/ledger/BillingPeriod$Unit;" .null := D42 (Or.inr (hw _ (List.mem_of_getElem? (i := 38) rfl))) (ty := (.object "com/example/meter_to_month/metertomonth/ledger/BillingPeriod$Unit")) (by decide)
        have F42_40 : Fld Z h42 b42 "com/example/meter_to_month/metertomonth/ledger/BillingPeriod" "count" "I" (.int (0 : Int32)) := D42 (Or.inr (hw _ (List.mem_of_getElem? (i := 40) rfl))) (ty := .int) (by decide)
        show own_Wp p e below _ T42 (mkF m 39 #[.val (.int p0), .val (.int p1), .val (.int p2), .val (.ref (w2_DATABASE_INSTANCE Z)), .val (.ref (w1_YEAR Z)), .val (.int (1 : Int32)), .unset, .unset] [(.ref b42)])
        refine own_step (fun _ k => XS.dup X42.here hx rfl (hb hby at_39) rfl rfl k) ?_
        show own_Wp p e below _ T42 (mkF m 40 #[.val (.int p0), .val (.int p1), .val (.int p2), .val (.ref (w2_DATABASE_INSTANCE Z)), .val (.ref (w1_YEAR Z)), .val (.int (1 : Int32)), .unset, .unset] [(.ref b42), (.ref b42)])
        refine own_step (fun _ k => XS.aload X42.here hx rfl (hb hby at_40) rfl rfl k) ?_
        show own_Wp p e below _ T42 (mkF m 42 #[.val (.int p0), .val (.int p1), .val (.int p2), .val (.ref (w2_DATABASE_INSTANCE Z)), .val (.ref (w1_YEAR Z)), .val (.int (1 : Int32)), .unset, .unset] [(.ref (w1_YEAR Z)), (.ref b42), (.ref b42)])
        refine own_step (fun _ k => XS.iload X42.here hx rfl (hb hby at_42) rfl k) ?_
        show own_Wp p e below _ T42 (mkF m 44 #[.val (.int p0), .val (.int p1), .val (.int p2), .val (.ref (w2_DATABASE_INSTANCE Z)), .val (.ref (w1_YEAR Z)), .val (.int (1 : Int32)), .unset, .unset] [(.int (1 : Int32)), (.ref (w1_YEAR Z)), (.ref b42), (.ref b42)])
        obtain ⟨_, T43, L43, X43, hS43, hZ43, hown43, hQ43, st43⟩ := own_callNW X42 hx hZ hS0 (Nat.zero_le _) rfl hown (hw _ (List.mem_of_getElem? (i := 14) rfl)) (hw _ (List.mem_of_getElem? (i := 15) rfl)) (hw _ (List.mem_of_getElem? (i := 13) rfl)) (hw _ (List.mem_of_getElem? (i := 16) rfl)) (by decide) (rm2_3 l Z a0 hw hA [] b42 (w1_YEAR Z) h42 n0 O42 A42 F42_38 F42_40 g42) (b := b42) (W := 1) (by decide) (by decide) [(.ref (w1_YEAR Z)), (.int (1 : Int32))] rfl (lenOf pd7 rfl) (Ls := #[.val (.int p0), .val (.int p1), .val (.int p2), .val (.ref (w2_DATABASE_INSTANCE Z)), .val (.ref (w1_YEAR Z)), .val (.int (1 : Int32)), .unset, .unset]) (by rw [hml]; rfl) (rest := [(.ref b42)]) (Nat.le_of_eq rfl) (hb hby at_44) e42 (by decide) (by decide)
        refine st43 _ ?_
        obtain ⟨rfl, N43q, K43q, F43_0, F43_1, F43_2⟩ := hQ43
        have N43 := Fr.app N1b N43q
        have O43 := O42.keep K43q (allS g42 all0)
        have K43 : Keep h0 T43.heap [] := Keep.trans K42 K43q (allS (Or.inr y42) all0)
        show own_Wp p e below _ T43 (mkF m 47 #[.val (.int p0), .val (.int p1), .val (.int p2), .val (.ref (w2_DATABASE_INSTANCE Z)), .val (.ref (w1_YEAR Z)), .val (.int (1 : Int32)), .unset, .unset] [(.ref b42)])
        refine own_step (fun _ k => XS.astore X43.here hx rfl (hb hby at_47) rfl rfl (l' := #[.val (.int p0), .val (.int p1), .val (.int p2), .val (.ref (w2_DATABASE_INSTANCE Z)), .val (.ref (w1_YEAR Z)), .val (.int (1 : Int32)), .val (.ref b42), .unset]) rfl k) ?_
        show own_Wp p e below _ T43 (mkF m 49 #[.val (.int p0), .val (.int p1), .val (.int p2), .val (.ref (w2_DATABASE_INSTANCE Z)), .val (.ref (w1_YEAR Z)), .val (.int (1 : Int32)), .val (.ref b42), .unset] [])
        refine own_step (fun _ k => XS.aloadN X43.here hx rfl (hb hby at_49) rfl rfl k) ?_
        show own_Wp p e below _ T43 (mkF m 50 #[.val (.int p0), .val (.int p1), .val (.int p2), .val (.ref (w2_DATABASE_INSTANCE Z)), .val (.ref (w1_YEAR Z)), .val (.int (1 : Int32)), .val (.ref b42), .unset] [(.ref (w2_DATABASE_INSTANCE Z))])
        refine own_step (fun _ k => XS.aload X43.here hx rfl (hb hby at_50) rfl rfl k) ?_
        show own_Wp p e below _ T43 (mkF m 52 #[.val (.int p0), .val (.int p1), .val (.int p2), .val (.ref (w2_DATABASE_INSTANCE Z)), .val (.ref (w1_YEAR Z)), .val (.int (1 : Int32)), .val (.ref b42), .unset] [(.ref b42), (.ref (w2_DATABASE_INSTANCE Z))])
        obtain ⟨_, T44, L44, X44, hQ44, st44⟩ := own_callV X43 hx hZ43 hown43 (hw _ (List.mem_of_getElem? (i := 41) rfl)) (hw _ (List.mem_of_getElem? (i := 42) rfl)) (notFace_of_selects (args := #[]) (mvT hZ43 (hw _ (List.mem_of_getElem? (i := 44) rfl)))) (hw _ (List.mem_of_getElem? (i := 44) rfl)) (hw _ (List.mem_of_getElem? (i := 43) rfl)) (hw _ (List.mem_of_getElem? (i := 5) rfl)) (hw _ (List.mem_of_getElem? (i := 45) rfl)) (by decide) ((ex_w2_DATABASE_INSTANCE hw hA).ext O43.2) (rm6_4 l Z a0 hw hA [] (w2_DATABASE_INSTANCE Z) b42 T43.heap n0 O43 (fl1 hw hA)) (W := 0) (by decide) (by decide) [(.ref b42)] rfl (lenOf pd9 rfl) (Ls := #[.val (.int p0), .val (.int p1), .val (.int p2), .val (.ref (w2_DATABASE_INSTANCE Z)), .val (.ref (w1_YEAR Z)), .val (.int (1 : Int32)), .val (.ref b42), .unset]) (by rw [hml]; rfl) (rest := []) (Nat.le_of_eq rfl) (hb hby at_52) rfl (by decide) (by decide)
        refine st44 _ ?_
        obtain ⟨rfl, N44q, e44⟩ := hQ44
        have N44 := Fr.app N43 N44q
        show own_Wp p e below _ T44 (mkF m 55 #[.val (.int p0), .val (.int p1), .val (.int p2), .val (.ref (w2_DATABASE_INSTANCE Z)), .val (.ref (w1_YEAR Z)), .val (.int (1 : Int32)), .val (.ref b42), .unset] [(.ref b42)])
        refine own_step (fun _ k => XS.astore X44.here hx rfl (hb hby at_55) rfl rfl (l' := #[.val (.int p0), .val (.int p1), .val (.int p2), .val (.ref (w2_DATABASE_INSTANCE Z)), .val (.ref (w1_YEAR Z)), .val (.int (1 : Int32)), .val (.ref b42), .val (.ref b42)]) rfl k) ?_
        show own_Wp p e below _ T44 (mkF m 57 #[.val (.int p0), .val (.int p1), .val (.int p2), .val (.ref (w2_DATABASE_INSTANCE Z)), .val (.ref (w1_YEAR Z)), .val (.int (1 : Int32)), .val (.ref b42), .val (.ref b42)] [])
        refine own_step (fun _ k => XS.aload X44.here hx rfl (hb hby at_57) rfl rfl k) ?_
        show own_Wp p e below _ T44 (mkF m 59 #[.val (.int p0), .val (.int p1), .val (.int p2), .val (.ref (w2_DATABASE_INSTANCE Z)), .val (.ref (w1_YEAR Z)), .val (.int (1 : Int32)), .val (.ref b42), .val (.ref b42)] [(.ref b42)])
        refine own_step (fun _ k => XS.ifnonnullYes X44.here hx rfl (pc0 := 59) (pc' := 64) rfl (hb hby at_59) rfl (by decide) (by decide) k) ?_
        show own_Wp p e below _ T44 (mkF m 64 #[.val (.int p0), .val (.int p1), .val (.int p2), .val (.ref (w2_DATABASE_INSTANCE Z)), .val (.ref (w1_YEAR Z)), .val (.int (1 : Int32)), .val (.ref b42), .val (.ref b42)] [])
        refine own_step (fun _ k => XS.iloadN X44.here hx rfl (hb hby at_64) rfl k) ?_
        show own_Wp p e below _ T44 (mkF m 65 #[.val (.int p0), .val (.int p1), .val (.int p2), .val (.ref (w2_DATABASE_INSTANCE Z)), .val (.ref (w1_YEAR Z)), .val (.int (1 : Int32)), .val (.ref b42), .val (.ref b42)] [(.int p0)])
        refine own_step (fun _ k => XS.iconst X44.here hx rfl (hb hby at_65) k) ?_
        show own_Wp p e below _ T44 (mkF m 66 #[.val (.int p0), .val (.int p1), .val (.int p2), .val (.ref (w2_DATABASE_INSTANCE Z)), .val (.ref (w1_YEAR Z)), .val (.int (1 : Int32)), .val (.ref b42), .val (.ref b42)] [(.int (3 : Int32)), (.int p0)])
        refine own_step (fun _ k => XS.iand X44.here hx rfl (hb hby at_66) rfl k) ?_
        show own_Wp p e below _ T44 (mkF m 67 #[.val (.int p0), .val (.int p1), .val (.int p2), .val (.ref (w2_DATABASE_INSTANCE Z)), .val (.ref (w1_YEAR Z)), .val (.int (1 : Int32)), .val (.ref b42), .val (.ref b42)] [(.int (p0 &&& (3 : Int32)))])
        refine own_step (fun _ k => XS.iconst X44.here hx rfl (hb hby at_67) k) ?_
        show own_Wp p e below _ T44 (mkF m 68 #[.val (.int p0), .val (.int p1), .val (.int p2), .val (.ref (w2_DATABASE_INSTANCE Z)), .val (.ref (w1_YEAR Z)), .val (.int (1 : Int32)), .val (.ref b42), .val (.ref b42)] [(.int (2 : Int32)), (.int (p0 &&& (3 : Int32)))])
        refine own_step (fun _ k => XS.icmpYes X44.here hx rfl (pc0 := 68) (pc' := 97) rfl (hb hby at_68) rfl (feq (by rw [hq1b_0]; decide)).2 (by decide) (by decide) k) ?_
        show own_Wp p e below _ T44 (mkF m 97 #[.val (.int p0), .val (.int p1), .val (.int p2), .val (.ref (w2_DATABASE_INSTANCE Z)), .val (.ref (w1_YEAR Z)), .val (.int (1 : Int32)), .val (.ref b42), .val (.ref b42)] [])
        refine own_step (fun _ k => XS.aload X44.here hx rfl (hb hby at_97) rfl rfl k) ?_
        show own_Wp p e below _ T44 (mkF m 99 #[.val (.int p0), .val (.int p1), .val (.int p2), .val (.ref (w2_DATABASE_INSTANCE Z)), .val (.ref (w1_YEAR Z)), .val (.int (1 : Int32)), .val (.ref b42), .val (.ref b42)] [(.ref b42)])
        obtain ⟨_, T45, L45, X45, hQ45, st45⟩ := own_callV X44 hx hZ43 hown43 (hw _ (List.mem_of_getElem? (i := 48) rfl)) (hw _ (List.mem_of_getElem? (i := 49) rfl)) (notFace_of_selects (args := #[]) (mvT hZ43 (hw _ (List.mem_of_getElem? (i := 51) rfl)))) (hw _ (List.mem_of_getElem? (i := 51) rfl)) (hw _ (List.mem_of_getElem? (i := 50) rfl)) (hw _ (List.mem_of_getElem? (i := 13) rfl)) (hw _ (List.mem_of_getElem? (i := 52) rfl)) (by decide) F43_0 (rm7_9 l Z a0 hw hA [] b42 T43.heap n0 O43 F43_1) (W := 0) (by decide) (by decide) [] rfl (lenOf pd10 rfl) (Ls := #[.val (.int p0), .val (.int p1), .val (.int p2), .val (.ref (w2_DATABASE_INSTANCE Z)), .val (.ref (w1_YEAR Z)), .val (.int (1 : Int32)), .val (.ref b42), .val (.ref b42)]) (by rw [hml]; rfl) (rest := []) (Nat.le_of_eq rfl) (hb hby at_99) e44 (by decide) (by decide)
        refine st45 _ ?_
        obtain ⟨rfl, N45q, e45⟩ := hQ45
        have N45 := Fr.app N44 N45q
        show own_Wp p e below _ T45 (mkF m 102 #[.val (.int p0), .val (.int p1), .val (.int p2), .val (.ref (w2_DATABASE_INSTANCE Z)), .val (.ref (w1_YEAR Z)), .val (.int (1 : Int32)), .val (.ref b42), .val (.ref b42)] [(.ref (w1_YEAR Z))])
        refine own_step (fun _ k => XS.aload X45.here hx rfl (hb hby at_102) rfl rfl k) ?_
        show own_Wp p e below _ T45 (mkF m 104 #[.val (.int p0), .val (.int p1), .val (.int p2), .val (.ref (w2_DATABASE_INSTANCE Z)), .val (.ref (w1_YEAR Z)), .val (.int (1 : Int32)), .val (.ref b42), .val (.ref b42)] [(.ref (w1_YEAR Z)), (.ref (w1_YEAR Z))])
        refine own_step (fun _ k => Jvm.RoadKit.acmp (g := (mkF m 104 #[.val (.int p0), .val (.int p1), .val (.int p2), .val (.ref (w2_DATABASE_INSTANCE Z)), .val (.ref (w1_YEAR Z)), .val (.int (1 : Int32)), .val (.ref b42), .val (.ref b42)] [(.ref (w1_YEAR Z)), (.ref (w1_YEAR Z))])) X45 hx rfl rfl rfl (pc0 := 104) (pc' := 107) (same := true) rfl (hb hby at_104) rfl (decide_eq_true rfl) (by decide) (by decide) k) ?_
        show own_Wp p e below _ T45 (mkF m 107 #[.val (.int p0), .val (.int p1), .val (.int p2), .val (.ref (w2_DATABASE_INSTANCE Z)), .val (.ref (w1_YEAR Z)), .val (.int (1 : Int32)), .val (.ref b42), .val (.ref b42)] [])
        refine own_step (fun _ k => XS.aload X45.here hx rfl (hb hby at_107) rfl rfl k) ?_
        show own_Wp p e below _ T45 (mkF m 109 #[.val (.int p0), .val (.int p1), .val (.int p2), .val (.ref (w2_DATABASE_INSTANCE Z)), .val (.ref (w1_YEAR Z)), .val (.int (1 : Int32)), .val (.ref b42), .val (.ref b42)] [(.ref b42)])
        obtain ⟨_, T46, L46, X46, hQ46, st46⟩ := own_callV X45 hx hZ43 hown43 (hw _ (List.mem_of_getElem? (i := 53) rfl)) (hw _ (List.mem_of_getElem? (i := 54) rfl)) (notFace_of_selects (args := #[]) (mvT hZ43 (hw _ (List.mem_of_getElem? (i := 56) rfl)))) (hw _ (List.mem_of_getElem? (i := 56) rfl)) (hw _ (List.mem_of_getElem? (i := 55) rfl)) (hw _ (List.mem_of_getElem? (i := 13) rfl)) (hw _ (List.mem_of_getElem? (i := 57) rfl)) (by decide) F43_0 (rm8_6 l Z a0 hw hA [] b42 T43.heap n0 O43 F43_2) (W := 0) (by decide) (by decide) [] rfl (lenOf pd11 rfl) (Ls := #[.val (.int p0), .val (.int p1), .val (.int p2), .val (.ref (w2_DATABASE_INSTANCE Z)), .val (.ref (w1_YEAR Z)), .val (.int (1 : Int32)), .val (.ref b42), .val (.ref b42)]) (by rw [hml]; rfl) (rest := []) (Nat.le_of_eq rfl) (hb hby at_109) e45 (by decide) (by decide)
        refine st46 _ ?_
        obtain ⟨rfl, N46q, e46⟩ := hQ46
        have N46 := Fr.app N45 N46q
        show own_Wp p e below _ T46 (mkF m 112 #[.val (.int p0), .val (.int p1), .val (.int p2), .val (.ref (w2_DATABASE_INSTANCE Z)), .val (.ref (w1_YEAR Z)), .val (.int (1 : Int32)), .val (.ref b42), .val (.ref b42)] [(.int (1 : Int32))])
        refine own_step (fun _ k => XS.iload X46.here hx rfl (hb hby at_112) rfl k) ?_
        show own_Wp p e below _ T46 (mkF m 114 #[.val (.int p0), .val (.int p1), .val (.int p2), .val (.ref (w2_DATABASE_INSTANCE Z)), .val (.ref (w1_YEAR Z)), .val (.int (1 : Int32)), .val (.ref b42), .val (.ref b42)] [(.int (1 : Int32)), (.int (1 : Int32))])
        refine own_step (fun _ k => XS.icmpNo X46.here hx rfl (hb hby at_114) rfl (by decide) k) ?_
        show own_Wp p e below _ T46 (mkF m 117 #[.val (.int p0), .val (.int p1), .val (.int p2), .val (.ref (w2_DATABASE_INSTANCE Z)), .val (.ref (w1_YEAR Z)), .val (.int (1 : Int32)), .val (.ref b42), .val (.ref b42)] [])
        refine own_step (fun _ k => XS.iconst X46.here hx rfl (hb hby at_117) k) ?_
        show own_Wp p e below _ T46 (mkF m 118 #[.val (.int p0), .val (.int p1), .val (.int p2), .val (.ref (w2_DATABASE_INSTANCE Z)), .val (.ref (w1_YEAR Z)), .val (.int (1 : Int32)), .val (.ref b42), .val (.ref b42)] [(.int (1 : Int32))])
        refine own_step (fun _ k => XS.goto X46.here hx rfl (pc0 := 118) (pc' := 122) rfl (hb hby at_118) (by decide) (by decide) k) ?_
        show own_Wp p e below _ T46 (mkF m 122 #[.val (.int p0), .val (.int p1), .val (.int p2), .val (.ref (w2_DATABASE_INSTANCE Z)), .val (.ref (w1_YEAR Z)), .val (.int (1 : Int32)), .val (.ref b42), .val (.ref b42)] [(.int (1 : Int32))])
        exact own_retNW X46 hS43 (by rw [e46]; exact (Nat.le_refl _)) hx (t := .boolean) hret (by simp) hlk (hb hby at_122) (by decide) (by decide) ⟨rfl, N46⟩
      · skip
        refine own_step (fun _ k => XS.ifYes X40.here hx rfl (pc0 := 30) (pc' := 36) rfl (hb hby at_30) rfl ((if0 _ _).trans (feq hc41).2) (by decide) (by decide) k) ?_
        show own_Wp p e below _ T40 (mkF m 36 #[.val (.int p0), .val (.int p1), .val (.int p2), .val (.ref (w2_DATABASE_INSTANCE Z)), .val (.ref (w1_YEAR Z)), .val (.int (p2 &&& (2147483647 : Int32))), .unset, .unset] [])
        have hpos : ¬ ((p2 &&& (2147483647 : Int32)) < (1 : Int32)) := own_pos hc41
        obtain ⟨T47, h47, X47, e47, E47, A47, D47, -, st47⟩ := newO X40 hx hZ hown (hw _ (List.mem_of_getElem? (i := 11) rfl)) (hw _ (List.mem_of_getElem? (i := 12) rfl)) (hw _ (List.mem_of_getElem? (i := 13) rfl)) e40 (g := (mkF m 36 #[.val (.int p0), .val (.int p1), .val (.int p2), .val (.ref (w2_DATABASE_INSTANCE Z)), .val (.ref (w1_YEAR Z)), .val (.int (p2 &&& (2147483647 : Int32))), .unset, .unset] [])) rfl (hb hby at_36) (by decide) (by decide)
        obtain ⟨b47, z47⟩ : ∃ z, z = h0.size := ⟨_, rfl⟩
        rw [← z47] at A47 D47 st47
        refine own_step st47 ?_
        have g47 : n0 ≤ b47 := Nat.le_trans (O0.1 ▸ O0.2.1) (Nat.le_of_eq z47.symm)
        have y47 : h0.size ≤ b47 := Nat.le_trans (Nat.le_refl _) (Nat.le_of_eq z47.symm)
        have O47 := O0.ext E47
        have K47 : Keep h0 h47 [] := (Keep.refl h0 []).ext E47
        have F47_38 : Fld Z h47 b47 "com/example/meter_to_month/metertomonth/ledger/BillingPeriod" "unit" "Lcom/example/meter_to_month/metertomonth/ledger/BillingPeriod$Unit;" .null := D47 (Or.inr (hw _ (List.mem_of_getElem? (i := 38) rfl))) (ty := (.object "com/example/meter_to_month/metertomonth/ledger/BillingPeriod$Unit")) (by decide)
        have F47_40 : Fld Z h47 b47 "com/example/meter_to_month/metertomonth/ledger/BillingPeriod" "count" "I" (.int (0 : Int32)) := D47 (Or.inr (hw _ (List.mem_of_getElem? (i := 40) rfl))) (ty := .int) (by decide)
        show own_Wp p e below _ T47 (mkF m 39 #[.val (.int p0), .val (.int p1), .val (.int p2), .val (.ref (w2_DATABASE_INSTANCE Z)), .val (.ref (w1_YEAR Z)), .val (.int (p2 &&& (2147483647 : Int32))), .unset, .unset] [(.ref b47)])
        refine own_step (fun _ k => XS.dup X47.here hx rfl (hb hby at_39) rfl rfl k) ?_
        show own_Wp p e below _ T47 (mkF m 40 #[.val (.int p0), .val (.int p1), .val (.int p2), .val (.ref (w2_DATABASE_INSTANCE Z)), .val (.ref (w1_YEAR Z)), .val (.int (p2 &&& (2147483647 : Int32))), .unset, .unset] [(.ref b47), (.ref b47)])
        refine own_step (fun _ k => XS.aload X47.here hx rfl (hb hby at_40) rfl rfl k) ?_
        show own_Wp p e below _ T47 (mkF m 42 #[.val (.int p0), .val (.int p1), .val (.int p2), .val (.ref (w2_DATABASE_INSTANCE Z)), .val (.ref (w1_YEAR Z)), .val (.int (p2 &&& (2147483647 : Int32))), .unset, .unset] [(.ref (w1_YEAR Z)), (.ref b47), (.ref b47)])
        refine own_step (fun _ k => XS.iload X47.here hx rfl (hb hby at_42) rfl k) ?_
        show own_Wp p e below _ T47 (mkF m 44 #[.val (.int p0), .val (.int p1), .val (.int p2), .val (.ref (w2_DATABASE_INSTANCE Z)), .val (.ref (w1_YEAR Z)), .val (.int (p2 &&& (2147483647 : Int32))), .unset, .unset] [(.int (p2 &&& (2147483647 : Int32))), (.ref (w1_YEAR Z)), (.ref b47), (.ref b47)])
        obtain ⟨_, T48, L48, X48, hS48, hZ48, hown48, hQ48, st48⟩ := own_callNW X47 hx hZ hS0 (Nat.zero_le _) rfl hown (hw _ (List.mem_of_getElem? (i := 14) rfl)) (hw _ (List.mem_of_getElem? (i := 15) rfl)) (hw _ (List.mem_of_getElem? (i := 13) rfl)) (hw _ (List.mem_of_getElem? (i := 16) rfl)) (by decide) (rm2_7 l Z a0 hw hA [] b47 (w1_YEAR Z) (p2 &&& (2147483647 : Int32)) h47 n0 O47 A47 F47_38 F47_40 g47 hpos) (b := b47) (W := 1) (by decide) (by decide) [(.ref (w1_YEAR Z)), (.int (p2 &&& (2147483647 : Int32)))] rfl (lenOf pd7 rfl) (Ls := #[.val (.int p0), .val (.int p1), .val (.int p2), .val (.ref (w2_DATABASE_INSTANCE Z)), .val (.ref (w1_YEAR Z)), .val (.int (p2 &&& (2147483647 : Int32))), .unset, .unset]) (by rw [hml]; rfl) (rest := [(.ref b47)]) (Nat.le_of_eq rfl) (hb hby at_44) e47 (by decide) (by decide)
        refine st48 _ ?_
        obtain ⟨rfl, N48q, K48q, F48_0, F48_1, F48_2⟩ := hQ48
        have N48 := Fr.app N1b N48q
        have O48 := O47.keep K48q (allS g47 all0)
        have K48 : Keep h0 T48.heap [] := Keep.trans K47 K48q (allS (Or.inr y47) all0)
        show own_Wp p e below _ T48 (mkF m 47 #[.val (.int p0), .val (.int p1), .val (.int p2), .val (.ref (w2_DATABASE_INSTANCE Z)), .val (.ref (w1_YEAR Z)), .val (.int (p2 &&& (2147483647 : Int32))), .unset, .unset] [(.ref b47)])
        refine own_step (fun _ k => XS.astore X48.here hx rfl (hb hby at_47) rfl rfl (l' := #[.val (.int p0), .val (.int p1), .val (.int p2), .val (.ref (w2_DATABASE_INSTANCE Z)), .val (.ref (w1_YEAR Z)), .val (.int (p2 &&& (2147483647 : Int32))), .val (.ref b47), .unset]) rfl k) ?_
        show own_Wp p e below _ T48 (mkF m 49 #[.val (.int p0), .val (.int p1), .val (.int p2), .val (.ref (w2_DATABASE_INSTANCE Z)), .val (.ref (w1_YEAR Z)), .val (.int (p2 &&& (2147483647 : Int32))), .val (.ref b47), .unset] [])
        refine own_step (fun _ k => XS.aloadN X48.here hx rfl (hb hby at_49) rfl rfl k) ?_
        show own_Wp p e below _ T48 (mkF m 50 #[.val (.int p0), .val (.int p1), .val (.int p2), .val (.ref (w2_DATABASE_INSTANCE Z)), .val (.ref (w1_YEAR Z)), .val (.int (p2 &&& (2147483647 : Int32))), .val (.ref b47), .unset] [(.ref (w2_DATABASE_INSTANCE Z))])
        refine own_step (fun _ k => XS.aload X48.here hx rfl (hb hby at_50) rfl rfl k) ?_
        show own_Wp p e below _ T48 (mkF m 52 #[.val (.int p0), .val (.int p1), .val (.int p2), .val (.ref (w2_DATABASE_INSTANCE Z)), .val (.ref (w1_YEAR Z)), .val (.int (p2 &&& (2147483647 : Int32))), .val (.ref b47), .unset] [(.ref b47), (.ref (w2_DATABASE_INSTANCE Z))])
        obtain ⟨_, T49, L49, X49, hQ49, st49⟩ := own_callV X48 hx hZ48 hown48 (hw _ (List.mem_of_getElem? (i := 41) rfl)) (hw _ (List.mem_of_getElem? (i := 42) rfl)) (notFace_of_selects (args := #[]) (mvT hZ48 (hw _ (List.mem_of_getElem? (i := 44) rfl)))) (hw _ (List.mem_of_getElem? (i := 44) rfl)) (hw _ (List.mem_of_getElem? (i := 43) rfl)) (hw _ (List.mem_of_getElem? (i := 5) rfl)) (hw _ (List.mem_of_getElem? (i := 45) rfl)) (by decide) ((ex_w2_DATABASE_INSTANCE hw hA).ext O48.2) (rm6_4 l Z a0 hw hA [] (w2_DATABASE_INSTANCE Z) b47 T48.heap n0 O48 (fl1 hw hA)) (W := 0) (by decide) (by decide) [(.ref b47)] rfl (lenOf pd9 rfl) (Ls := #[.val (.int p0), .val (.int p1), .val (.int p2), .val (.ref (w2_DATABASE_INSTANCE Z)), .val (.ref (w1_YEAR Z)), .val (.int (p2 &&& (2147483647 : Int32))), .val (.ref b47), .unset]) (by rw [hml]; rfl) (rest := []) (Nat.le_of_eq rfl) (hb hby at_52) rfl (by decide) (by decide)
        refine st49 _ ?_
        obtain ⟨rfl, N49q, e49⟩ := hQ49
        have N49 := Fr.app N48 N49q
        show own_Wp p e below _ T49 (mkF m 55 #[.val (.int p0), .val (.int p1), .val (.int p2), .val (.ref (w2_DATABASE_INSTANCE Z)), .val (.ref (w1_YEAR Z)), .val (.int (p2 &&& (2147483647 : Int32))), .val (.ref b47), .unset] [(.ref b47)])
        refine own_step (fun _ k => XS.astore X49.here hx rfl (hb hby at_55) rfl rfl (l' := #[.val (.int p0), .val (.int p1), .val (.int p2), .val (.ref (w2_DATABASE_INSTANCE Z)), .val (.ref (w1_YEAR Z)), .val (.int (p2 &&& (2147483647 : Int32))), .val (.ref b47), .val (.ref b47)]) rfl k) ?_
        show own_Wp p e below _ T49 (mkF m 57 #[.val (.int p0), .val (.int p1), .val (.int p2), .val (.ref (w2_DATABASE_INSTANCE Z)), .val (.ref (w1_YEAR Z)), .val (.int (p2 &&& (2147483647 : Int32))), .val (.ref b47), .val (.ref b47)] [])
        refine own_step (fun _ k => XS.aload X49.here hx rfl (hb hby at_57) rfl rfl k) ?_
        show own_Wp p e below _ T49 (mkF m 59 #[.val (.int p0), .val (.int p1), .val (.int p2), .val (.ref (w2_DATABASE_INSTANCE Z)), .val (.ref (w1_YEAR Z)), .val (.int (p2 &&& (2147483647 : Int32))), .val (.ref b47), .val (.ref b47)] [(.ref b47)])
        refine own_step (fun _ k => XS.ifnonnullYes X49.here hx rfl (pc0 := 59) (pc' := 64) rfl (hb hby at_59) rfl (by decide) (by decide) k) ?_
        show own_Wp p e below _ T49 (mkF m 64 #[.val (.int p0), .val (.int p1), .val (.int p2), .val (.ref (w2_DATABASE_INSTANCE Z)), .val (.ref (w1_YEAR Z)), .val (.int (p2 &&& (2147483647 : Int32))), .val (.ref b47), .val (.ref b47)] [])
        refine own_step (fun _ k => XS.iloadN X49.here hx rfl (hb hby at_64) rfl k) ?_
        show own_Wp p e below _ T49 (mkF m 65 #[.val (.int p0), .val (.int p1), .val (.int p2), .val (.ref (w2_DATABASE_INSTANCE Z)), .val (.ref (w1_YEAR Z)), .val (.int (p2 &&& (2147483647 : Int32))), .val (.ref b47), .val (.ref b47)] [(.int p0)])
        refine own_step (fun _ k => XS.iconst X49.here hx rfl (hb hby at_65) k) ?_
        show own_Wp p e below _ T49 (mkF m 66 #[.val (.int p0), .val (.int p1), .val (.int p2), .val (.ref (w2_DATABASE_INSTANCE Z)), .val (.ref (w1_YEAR Z)), .val (.int (p2 &&& (2147483647 : Int32))), .val (.ref b47), .val (.ref b47)] [(.int (3 : Int32)), (.int p0)])
        refine own_step (fun _ k => XS.iand X49.here hx rfl (hb hby at_66) rfl k) ?_
        show own_Wp p e below _ T49 (mkF m 67 #[.val (.int p0), .val (.int p1), .val (.int p2), .val (.ref (w2_DATABASE_INSTANCE Z)), .val (.ref (w1_YEAR Z)), .val (.int (p2 &&& (2147483647 : Int32))), .val (.ref b47), .val (.ref b47)] [(.int (p0 &&& (3 : Int32)))])
        refine own_step (fun _ k => XS.iconst X49.here hx rfl (hb hby at_67) k) ?_
        show own_Wp p e below _ T49 (mkF m 68 #[.val (.int p0), .val (.int p1), .val (.int p2), .val (.ref (w2_DATABASE_INSTANCE Z)), .val (.ref (w1_YEAR Z)), .val (.int (p2 &&& (2147483647 : Int32))), .val (.ref b47), .val (.ref b47)] [(.int (2 : Int32)), (.int (p0 &&& (3 : Int32)))])
        refine own_step (fun _ k => XS.icmpYes X49.here hx rfl (pc0 := 68) (pc' := 97) rfl (hb hby at_68) rfl (feq (by rw [hq1b_0]; decide)).2 (by decide) (by decide) k) ?_
        show own_Wp p e below _ T49 (mkF m 97 #[.val (.int p0), .val (.int p1), .val (.int p2), .val (.ref (w2_DATABASE_INSTANCE Z)), .val (.ref (w1_YEAR Z)), .val (.int (p2 &&& (2147483647 : Int32))), .val (.ref b47), .val (.ref b47)] [])
        refine own_step (fun _ k => XS.aload X49.here hx rfl (hb hby at_97) rfl rfl k) ?_
        show own_Wp p e below _ T49 (mkF m 99 #[.val (.int p0), .val (.int p1), .val (.int p2), .val (.ref (w2_DATABASE_INSTANCE Z)), .val (.ref (w1_YEAR Z)), .val (.int (p2 &&& (2147483647 : Int32))), .val (.ref b47), .val (.ref b47)] [(.ref b47)])
        obtain ⟨_, T50, L50, X50, hQ50, st50⟩ := own_callV X49 hx hZ48 hown48 (hw _ (List.mem_of_getElem? (i := 48) rfl)) (hw _ (List.mem_of_getElem? (i := 49) rfl)) (notFace_of_selects (args := #[]) (mvT hZ48 (hw _ (List.mem_of_getElem? (i := 51) rfl)))) (hw _ (List.mem_of_getElem? (i := 51) rfl)) (hw _ (List.mem_of_getElem? (i := 50) rfl)) (hw _ (List.mem_of_getElem? (i := 13) rfl)) (hw _ (List.mem_of_getElem? (i := 52) rfl)) (by decide) F48_0 (rm7_9 l Z a0 hw hA [] b47 T48.heap n0 O48 F48_1) (W := 0) (by decide) (by decide) [] rfl (lenOf pd10 rfl) (Ls := #[.val (.int p0), .val (.int p1), .val (.int p2), .val (.ref (w2_DATABASE_INSTANCE Z)), .val (.ref (w1_YEAR Z)), .val (.int (p2 &&& (2147483647 : Int32))), .val (.ref b47), .val (.ref b47)]) (by rw [hml]; rfl) (rest := []) (Nat.le_of_eq rfl) (hb hby at_99) e49 (by decide) (by decide)
        refine st50 _ ?_
        obtain ⟨rfl, N50q, e50⟩ := hQ50
        have N50 := Fr.app N49 N50q
        show own_Wp p e below _ T50 (mkF m 102 #[.val (.int p0), .val (.int p1), .val (.int p2), .val (.ref (w2_DATABASE_INSTANCE Z)), .val (.ref (w1_YEAR Z)), .val (.int (p2 &&& (2147483647 : Int32))), .val (.ref b47), .val (.ref b47)] [(.ref (w1_YEAR Z))])
        refine own_step (fun _ k => XS.aload X50.here hx rfl (hb hby at_102) rfl rfl k) ?_
        show own_Wp p e below _ T50 (mkF m 104 #[.val (.int p0), .val (.int p1), .val (.int p2), .val (.ref (w2_DATABASE_INSTANCE Z)), .val (.ref (w1_YEAR Z)), .val (.int (p2 &&& (2147483647 : Int32))), .val (.ref b47), .val (.ref b47)] [(.ref (w1_YEAR Z)), (.ref (w1_YEAR Z))])
        refine own_step (fun _ k => Jvm.RoadKit.acmp (g := (mkF m 104 #[.val (.int p0), .val (.int p1), .val (.int p2), .val (.ref (w2_DATABASE_INSTANCE Z)), .val (.ref (w1_YEAR Z)), .val (.int (p2 &&& (2147483647 : Int32))), .val (.ref b47), .val (.ref b47)] [(.ref (w1_YEAR Z)), (.ref (w1_YEAR Z))])) X50 hx rfl rfl rfl (pc0 := 104) (pc' := 107) (same := true) rfl (hb hby at_104) rfl (decide_eq_true rfl) (by decide) (by decide) k) ?_
        show own_Wp p e below _ T50 (mkF m 107 #[.val (.int p0), .val (.int p1), .val (.int p2), .val (.ref (w2_DATABASE_INSTANCE Z)), .val (.ref (w1_YEAR Z)), .val (.int (p2 &&& (2147483647 : Int32))), .val (.ref b47), .val (.ref b47)] [])
        refine own_step (fun _ k => XS.aload X50.here hx rfl (hb hby at_107) rfl rfl k) ?_
        show own_Wp p e below _ T50 (mkF m 109 #[.val (.int p0), .val (.int p1), .val (.int p2), .val (.ref (w2_DATABASE_INSTANCE Z)), .val (.ref (w1_YEAR Z)), .val (.int (p2 &&& (2147483647 : Int32))), .val (.ref b47), .val (.ref b47)] [(.ref b47)])
        obtain ⟨_, T51, L51, X51, hQ51, st51⟩ := own_callV X50 hx hZ48 hown48 (hw _ (List.mem_of_getElem? (i := 53) rfl)) (hw _ (List.mem_of_getElem? (i := 54) rfl)) (notFace_of_selects (args := #[]) (mvT hZ48 (hw _ (List.mem_of_getElem? (i := 56) rfl)))) (hw _ (List.mem_of_getElem? (i := 56) rfl)) (hw _ (List.mem_of_getElem? (i := 55) rfl)) (hw _ (List.mem_of_getElem? (i := 13) rfl)) (hw _ (List.mem_of_getElem? (i := 57) rfl)) (by decide) F48_0 (rm8_8 l Z a0 hw hA [] b47 (p2 &&& (2147483647 : Int32)) T48.heap n0 O48 F48_2) (W := 0) (by decide) (by decide) [] rfl (lenOf pd11 rfl) (Ls := #[.val (.int p0), .val (.int p1), .val (.int p2), .val (.ref (w2_DATABASE_INSTANCE Z)), .val (.ref (w1_YEAR Z)), .val (.int (p2 &&& (2147483647 : Int32))), .val (.ref b47), .val (.ref b47)]) (by rw [hml]; rfl) (rest := []) (Nat.le_of_eq rfl) (hb hby at_109) e50 (by decide) (by decide)
        refine st51 _ ?_
        obtain ⟨rfl, N51q, e51⟩ := hQ51
        have N51 := Fr.app N50 N51q
        show own_Wp p e below _ T51 (mkF m 112 #[.val (.int p0), .val (.int p1), .val (.int p2), .val (.ref (w2_DATABASE_INSTANCE Z)), .val (.ref (w1_YEAR Z)), .val (.int (p2 &&& (2147483647 : Int32))), .val (.ref b47), .val (.ref b47)] [(.int (p2 &&& (2147483647 : Int32)))])
        refine own_step (fun _ k => XS.iload X51.here hx rfl (hb hby at_112) rfl k) ?_
        show own_Wp p e below _ T51 (mkF m 114 #[.val (.int p0), .val (.int p1), .val (.int p2), .val (.ref (w2_DATABASE_INSTANCE Z)), .val (.ref (w1_YEAR Z)), .val (.int (p2 &&& (2147483647 : Int32))), .val (.ref b47), .val (.ref b47)] [(.int (p2 &&& (2147483647 : Int32))), (.int (p2 &&& (2147483647 : Int32)))])
        refine own_step (fun _ k => XS.icmpNo X51.here hx rfl (hb hby at_114) rfl (teq (rfl : (p2 &&& (2147483647 : Int32)) = (p2 &&& (2147483647 : Int32)))).2 k) ?_
        show own_Wp p e below _ T51 (mkF m 117 #[.val (.int p0), .val (.int p1), .val (.int p2), .val (.ref (w2_DATABASE_INSTANCE Z)), .val (.ref (w1_YEAR Z)), .val (.int (p2 &&& (2147483647 : Int32))), .val (.ref b47), .val (.ref b47)] [])
        refine own_step (fun _ k => XS.iconst X51.here hx rfl (hb hby at_117) k) ?_
        show own_Wp p e below _ T51 (mkF m 118 #[.val (.int p0), .val (.int p1), .val (.int p2), .val (.ref (w2_DATABASE_INSTANCE Z)), .val (.ref (w1_YEAR Z)), .val (.int (p2 &&& (2147483647 : Int32))), .val (.ref b47), .val (.ref b47)] [(.int (1 : Int32))])
        refine own_step (fun _ k => XS.goto X51.here hx rfl (pc0 := 118) (pc' := 122) rfl (hb hby at_118) (by decide) (by decide) k) ?_
        show own_Wp p e below _ T51 (mkF m 122 #[.val (.int p0), .val (.int p1), .val (.int p2), .val (.ref (w2_DATABASE_INSTANCE Z)), .val (.ref (w1_YEAR Z)), .val (.int (p2 &&& (2147483647 : Int32))), .val (.ref b47), .val (.ref b47)] [(.int (1 : Int32))])
        exact own_retNW X51 hS48 (by rw [e51]; exact (Nat.le_refl _)) hx (t := .boolean) hret (by simp) hlk (hb hby at_122) (by decide) (by decide) ⟨rfl, N51⟩
  · skip
    have N1c := Fr.app (Fr.nil n0) N1cq
    show own_Wp p e below _ T1 (mkF m 4 #[.val (.int p0), .val (.int p1), .val (.int p2), .unset, .unset, .unset, .unset, .unset] [(.ref (w5_ELASTIC_IP Z))])
    refine own_step (fun _ k => XS.astoreN X1.here hx rfl (hb hby at_4) rfl rfl (l' := #[.val (.int p0), .val (.int p1), .val (.int p2), .val (.ref (w5_ELASTIC_IP Z)), .unset, .unset, .unset, .unset]) rfl k) ?_
    show own_Wp p e below _ T1 (mkF m 5 #[.val (.int p0), .val (.int p1), .val (.int p2), .val (.ref (w5_ELASTIC_IP Z)), .unset, .unset, .unset, .unset] [])
    refine own_step (fun _ k => XS.iloadN X1.here hx rfl (hb hby at_5) rfl k) ?_
    show own_Wp p e below _ T1 (mkF m 6 #[.val (.int p0), .val (.int p1), .val (.int p2), .val (.ref (w5_ELASTIC_IP Z)), .unset, .unset, .unset, .unset] [(.int p1)])
    refine own_step (fun _ k => XS.iconst X1.here hx rfl (hb hby at_6) k) ?_
    show own_Wp p e below _ T1 (mkF m 7 #[.val (.int p0), .val (.int p1), .val (.int p2), .val (.ref (w5_ELASTIC_IP Z)), .unset, .unset, .unset, .unset] [(.int (1 : Int32)), (.int p1)])
    refine own_step (fun _ k => XS.iand X1.here hx rfl (hb hby at_7) rfl k) ?_
    show own_Wp p e below _ T1 (mkF m 8 #[.val (.int p0), .val (.int p1), .val (.int p2), .val (.ref (w5_ELASTIC_IP Z)), .unset, .unset, .unset, .unset] [(.int (p1 &&& (1 : Int32)))])
    by_cases hc52 : (p1 &&& (1 : Int32)) = (0 : Int32)
    · skip
      refine own_step (fun _ k => XS.ifYes X1.here hx rfl (pc0 := 8) (pc' := 17) rfl (hb hby at_8) rfl ((if0 _ _).trans (teq hc52).1) (by decide) (by decide) k) ?_
      show own_Wp p e below _ T1 (mkF m 17 #[.val (.int p0), .val (.int p1), .val (.int p2), .val (.ref (w5_ELASTIC_IP Z)), .unset, .unset, .unset, .unset] [])
      obtain ⟨T53, X53, e53, st53⟩ := getS2 X1 hx hZ hown (host := "") (Or.inl (hw _ (List.mem_of_getElem? (i := 60) rfl))) Via.refl e1c ((st_w3_MONTH hw hA).ext O0.2) (g := (mkF m 17 #[.val (.int p0), .val (.int p1), .val (.int p2), .val (.ref (w5_ELASTIC_IP Z)), .unset, .unset, .unset, .unset] [])) rfl (hb hby at_17)
      refine own_step st53 ?_
      show own_Wp p e below _ T53 (mkF m 20 #[.val (.int p0), .val (.int p1), .val (.int p2), .val (.ref (w5_ELASTIC_IP Z)), .unset, .unset, .unset, .unset] [(.ref (w3_MONTH Z))])
      refine own_step (fun _ k => XS.astore X53.here hx rfl (hb hby at_20) rfl rfl (l' := #[.val (.int p0), .val (.int p1), .val (.int p2), .val (.ref (w5_ELASTIC_IP Z)), .val (.ref (w3_MONTH Z)), .unset, .unset, .unset]) rfl k) ?_
      show own_Wp p e below _ T53 (mkF m 22 #[.val (.int p0), .val (.int p1), .val (.int p2), .val (.ref (w5_ELASTIC_IP Z)), .val (.ref (w3_MONTH Z)), .unset, .unset, .unset] [])
      refine own_step (fun _ k => XS.iloadN X53.here hx rfl (hb hby at_22) rfl k) ?_
      show own_Wp p e below _ T53 (mkF m 23 #[.val (.int p0), .val (.int p1), .val (.int p2), .val (.ref (w5_ELASTIC_IP Z)), .val (.ref (w3_MONTH Z)), .unset, .unset, .unset] [(.int p2)])
      refine own_step (X53.ldcInt hx hown (mvT hZ (hw _ (List.mem_of_getElem? (i := 10) rfl))) (g := (mkF m 23 #[.val (.int p0), .val (.int p1), .val (.int p2), .val (.ref (w5_ELASTIC_IP Z)), .val (.ref (w3_MONTH Z)), .unset, .unset, .unset] [(.int p2)])) rfl (hb hby at_23)) ?_
      show own_Wp p e below _ T53 (mkF m 25 #[.val (.int p0), .val (.int p1), .val (.int p2), .val (.ref (w5_ELASTIC_IP Z)), .val (.ref (w3_MONTH Z)), .unset, .unset, .unset] [(.int (2147483647 : Int32)), (.int p2)])
      refine own_step (fun _ k => XS.iand X53.here hx rfl (hb hby at_25) rfl k) ?_
      show own_Wp p e below _ T53 (mkF m 26 #[.val (.int p0), .val (.int p1), .val (.int p2), .val (.ref (w5_ELASTIC_IP Z)), .val (.ref (w3_MONTH Z)), .unset, .unset, .unset] [(.int (p2 &&& (2147483647 : Int32)))])
      refine own_step (fun _ k => XS.istore X53.here hx rfl (hb hby at_26) rfl (l' := #[.val (.int p0), .val (.int p1), .val (.int p2), .val (.ref (w5_ELASTIC_IP Z)), .val (.ref (w3_MONTH Z)), .val (.int (p2 &&& (2147483647 : Int32))), .unset, .unset]) rfl k) ?_
      show own_Wp p e below _ T53 (mkF m 28 #[.val (.int p0), .val (.int p1), .val (.int p2), .val (.ref (w5_ELASTIC_IP Z)), .val (.ref (w3_MONTH Z)), .val (.int (p2 &&& (2147483647 : Int32))), .unset, .unset] [])
      refine own_step (fun _ k => XS.iload X53.here hx rfl (hb hby at_28) rfl k) ?_
      show own_Wp p e below _ T53 (mkF m 30 #[.val (.int p0), .val (.int p1), .val (.int p2), .val (.ref (w5_ELASTIC_IP Z)), .val (.ref (w3_MONTH Z)), .val (.int (p2 &&& (2147483647 : Int32))), .unset, .unset] [(.int (p2 &&& (2147483647 : Int32)))])
      by_cases hc54 : (p2 &&& (2147483647 : Int32)) = (0 : Int32)
      · skip
        refine own_step (fun _ k => XS.ifNo X53.here hx rfl (hb hby at_30) rfl ((if0 _ _).trans (teq hc54).2) k) ?_
        show own_Wp p e below _ T53 (mkF m 33 #[.val (.int p0), .val (.int p1), .val (.int p2), .val (.ref (w5_ELASTIC_IP Z)), .val (.ref (w3_MONTH Z)), .val (.int (p2 &&& (2147483647 : Int32))), .unset, .unset] [])
        refine own_step (fun _ k => XS.iconst X53.here hx rfl (hb hby at_33) k) ?_
        show own_Wp p e below _ T53 (mkF m 34 #[.val (.int p0), .val (.int p1), .val (.int p2), .val (.ref (w5_ELASTIC_IP Z)), .val (.ref (w3_MONTH Z)), .val (.int (p2 &&& (2147483647 : Int32))), .unset, .unset] [(.int (1 : Int32))])
        refine own_step (fun _ k => XS.istore X53.here hx rfl (hb hby at_34) rfl (l' := #[.val (.int p0), .val (.int p1), .val (.int p2), .val (.ref (w5_ELASTIC_IP Z)), .val (.ref (w3_MONTH Z)), .val (.int (1 : Int32)), .unset, .unset]) rfl k) ?_
        show own_Wp p e below _ T53 (mkF m 36 #[.val (.int p0), .val (.int p1), .val (.int p2), .val (.ref (w5_ELASTIC_IP Z)), .val (.ref (w3_MONTH Z)), .val (.int (1 : Int32)), .unset, .unset] [])
        obtain ⟨T55, h55, X55, e55, E55, A55, D55, -, st55⟩ := newO X53 hx hZ hown (hw _ (List.mem_of_getElem? (i := 11) rfl)) (hw _ (List.mem_of_getElem? (i := 12) rfl)) (hw _ (List.mem_of_getElem? (i := 13) rfl)) e53 (g := (mkF m 36 #[.val (.int p0), .val (.int p1), .val (.int p2), .val (.ref (w5_ELASTIC_IP Z)), .val (.ref (w3_MONTH Z)), .val (.int (1 : Int32)), .unset, .unset] [])) rfl (hb hby at_36) (by decide) (by decide)
        obtain ⟨b55, z55⟩ : ∃ z, z = h0.size := ⟨_, rfl⟩
        rw [← z55] at A55 D55 st55
        refine own_step st55 ?_
        have g55 : n0 ≤ b55 := Nat.le_trans (O0.1 ▸ O0.2.1) (Nat.le_of_eq z55.symm)
        have y55 : h0.size ≤ b55 := Nat.le_trans (Nat.le_refl _) (Nat.le_of_eq z55.symm)
        have O55 := O0.ext E55
        have K55 : Keep h0 h55 [] := (Keep.refl h0 []).ext E55
        have F55_38 : Fld Z h55 b55 "com/example/meter_to_month/metertomonth/ledger/BillingPeriod" "unit" "Lcom/example/meter_to_month/metertomonth/ledger/BillingPeriod$Unit;" .null := D55 (Or.inr (hw _ (List.mem_of_getElem? (i := 38) rfl))) (ty := (.object "com/example/meter_to_month/metertomonth/ledger/BillingPeriod$Unit")) (by decide)
        have F55_40 : Fld Z h55 b55 "com/example/meter_to_month/metertomonth/ledger/BillingPeriod" "count" "I" (.int (0 : Int32)) := D55 (Or.inr (hw _ (List.mem_of_getElem? (i := 40) rfl))) (ty := .int) (by decide)
        show own_Wp p e below _ T55 (mkF m 39 #[.val (.int p0), .val (.int p1), .val (.int p2), .val (.ref (w5_ELASTIC_IP Z)), .val (.ref (w3_MONTH Z)), .val (.int (1 : Int32)), .unset, .unset] [(.ref b55)])
        refine own_step (fun _ k => XS.dup X55.here hx rfl (hb hby at_39) rfl rfl k) ?_
        show own_Wp p e below _ T55 (mkF m 40 #[.val (.int p0), .val (.int p1), .val (.int p2), .val (.ref (w5_ELASTIC_IP Z)), .val (.ref (w3_MONTH Z)), .val (.int (1 : Int32)), .unset, .unset] [(.ref b55), (.ref b55)])
        refine own_step (fun _ k => XS.aload X55.here hx rfl (hb hby at_40) rfl rfl k) ?_
        show own_Wp p e below _ T55 (mkF m 42 #[.val (.int p0), .val (.int p1), .val (.int p2), .val (.ref (w5_ELASTIC_IP Z)), .val (.ref (w3_MONTH Z)), .val (.int (1 : Int32)), .unset, .unset] [(.ref (w3_MONTH Z)), (.ref b55), (.ref b55)])
        refine own_step (fun _ k => XS.iload X55.here hx rfl (hb hby at_42) rfl k) ?_
        show own_Wp p e below _ T55 (mkF m 44 #[.val (.int p0), .val (.int p1), .val (.int p2), .val (.ref (w5_ELASTIC_IP Z)), .val (.ref (w3_MONTH Z)), .val (.int (1 : Int32)), .unset, .unset] [(.int (1 : Int32)), (.ref (w3_MONTH Z)), (.ref b55), (.ref b55)])
        obtain ⟨_, T56, L56, X56, hS56, hZ56, hown56, hQ56, st56⟩ := own_callNW X55 hx hZ hS0 (Nat.zero_le _) rfl hown (hw _ (List.mem_of_getElem? (i := 14) rfl)) (hw _ (List.mem_of_getElem? (i := 15) rfl)) (hw _ (List.mem_of_getElem? (i := 13) rfl)) (hw _ (List.mem_of_getElem? (i := 16) rfl)) (by decide) (rm2_3 l Z a0 hw hA [] b55 (w3_MONTH Z) h55 n0 O55 A55 F55_38 F55_40 g55) (b := b55) (W := 1) (by decide) (by decide) [(.ref (w3_MONTH Z)), (.int (1 : Int32))] rfl (lenOf pd7 rfl) (Ls := #[.val (.int p0), .val (.int p1), .val (.int p2), .val (.ref (w5_ELASTIC_IP Z)), .val (.ref (w3_MONTH Z)), .val (.int (1 : Int32)), .unset, .unset]) (by rw [hml]; rfl) (rest := [(.ref b55)]) (Nat.le_of_eq rfl) (hb hby at_44) e55 (by decide) (by decide)
        refine st56 _ ?_
        obtain ⟨rfl, N56q, K56q, F56_0, F56_1, F56_2⟩ := hQ56
        have N56 := Fr.app N1c N56q
        have O56 := O55.keep K56q (allS g55 all0)
        have K56 : Keep h0 T56.heap [] := Keep.trans K55 K56q (allS (Or.inr y55) all0)
        show own_Wp p e below _ T56 (mkF m 47 #[.val (.int p0), .val (.int p1), .val (.int p2), .val (.ref (w5_ELASTIC_IP Z)), .val (.ref (w3_MONTH Z)), .val (.int (1 : Int32)), .unset, .unset] [(.ref b55)])
        refine own_step (fun _ k => XS.astore X56.here hx rfl (hb hby at_47) rfl rfl (l' := #[.val (.int p0), .val (.int p1), .val (.int p2), .val (.ref (w5_ELASTIC_IP Z)), .val (.ref (w3_MONTH Z)), .val (.int (1 : Int32)), .val (.ref b55), .unset]) rfl k) ?_
        show own_Wp p e below _ T56 (mkF m 49 #[.val (.int p0), .val (.int p1), .val (.int p2), .val (.ref (w5_ELASTIC_IP Z)), .val (.ref (w3_MONTH Z)), .val (.int (1 : Int32)), .val (.ref b55), .unset] [])
        refine own_step (fun _ k => XS.aloadN X56.here hx rfl (hb hby at_49) rfl rfl k) ?_
        show own_Wp p e below _ T56 (mkF m 50 #[.val (.int p0), .val (.int p1), .val (.int p2), .val (.ref (w5_ELASTIC_IP Z)), .val (.ref (w3_MONTH Z)), .val (.int (1 : Int32)), .val (.ref b55), .unset] [(.ref (w5_ELASTIC_IP Z))])
        refine own_step (fun _ k => XS.aload X56.here hx rfl (hb hby at_50) rfl rfl k) ?_
        show own_Wp p e below _ T56 (mkF m 52 #[.val (.int p0), .val (.int p1), .val (.int p2), .val (.ref (w5_ELASTIC_IP Z)), .val (.ref (w3_MONTH Z)), .val (.int (1 : Int32)), .val (.ref b55), .unset] [(.ref b55), (.ref (w5_ELASTIC_IP Z))])
        obtain ⟨_, T57, L57, X57, hQ57, st57⟩ := own_callV X56 hx hZ56 hown56 (hw _ (List.mem_of_getElem? (i := 41) rfl)) (hw _ (List.mem_of_getElem? (i := 42) rfl)) (notFace_of_selects (args := #[]) (mvT hZ56 (hw _ (List.mem_of_getElem? (i := 44) rfl)))) (hw _ (List.mem_of_getElem? (i := 44) rfl)) (hw _ (List.mem_of_getElem? (i := 43) rfl)) (hw _ (List.mem_of_getElem? (i := 5) rfl)) (hw _ (List.mem_of_getElem? (i := 45) rfl)) (by decide) ((ex_w5_ELASTIC_IP hw hA).ext O56.2) (rm6_10 l Z a0 hw hA [] (w5_ELASTIC_IP Z) b55 T56.heap n0 O56 (fl3 hw hA)) (W := 0) (by decide) (by decide) [(.ref b55)] rfl (lenOf pd9 rfl) (Ls := #[.val (.int p0), .val (.int p1), .val (.int p2), .val (.ref (w5_ELASTIC_IP Z)), .val (.ref (w3_MONTH Z)), .val (.int (1 : Int32)), .val (.ref b55), .unset]) (by rw [hml]; rfl) (rest := []) (Nat.le_of_eq rfl) (hb hby at_52) rfl (by decide) (by decide)
        refine st57 _ ?_
        obtain ⟨rfl, N57q, e57⟩ := hQ57
        have N57 := Fr.app N56 N57q
        show own_Wp p e below _ T57 (mkF m 55 #[.val (.int p0), .val (.int p1), .val (.int p2), .val (.ref (w5_ELASTIC_IP Z)), .val (.ref (w3_MONTH Z)), .val (.int (1 : Int32)), .val (.ref b55), .unset] [(.ref (w6_renewal Z))])
        refine own_step (fun _ k => XS.astore X57.here hx rfl (hb hby at_55) rfl rfl (l' := #[.val (.int p0), .val (.int p1), .val (.int p2), .val (.ref (w5_ELASTIC_IP Z)), .val (.ref (w3_MONTH Z)), .val (.int (1 : Int32)), .val (.ref b55), .val (.ref (w6_renewal Z))]) rfl k) ?_
        show own_Wp p e below _ T57 (mkF m 57 #[.val (.int p0), .val (.int p1), .val (.int p2), .val (.ref (w5_ELASTIC_IP Z)), .val (.ref (w3_MONTH Z)), .val (.int (1 : Int32)), .val (.ref b55), .val (.ref (w6_renewal Z))] [])
        refine own_step (fun _ k => XS.aload X57.here hx rfl (hb hby at_57) rfl rfl k) ?_
        show own_Wp p e below _ T57 (mkF m 59 #[.val (.int p0), .val (.int p1), .val (.int p2), .val (.ref (w5_ELASTIC_IP Z)), .val (.ref (w3_MONTH Z)), .val (.int (1 : Int32)), .val (.ref b55), .val (.ref (w6_renewal Z))] [(.ref (w6_renewal Z))])
        refine own_step (fun _ k => XS.ifnonnullYes X57.here hx rfl (pc0 := 59) (pc' := 64) rfl (hb hby at_59) rfl (by decide) (by decide) k) ?_
        show own_Wp p e below _ T57 (mkF m 64 #[.val (.int p0), .val (.int p1), .val (.int p2), .val (.ref (w5_ELASTIC_IP Z)), .val (.ref (w3_MONTH Z)), .val (.int (1 : Int32)), .val (.ref b55), .val (.ref (w6_renewal Z))] [])
        refine own_step (fun _ k => XS.iloadN X57.here hx rfl (hb hby at_64) rfl k) ?_
        show own_Wp p e below _ T57 (mkF m 65 #[.val (.int p0), .val (.int p1), .val (.int p2), .val (.ref (w5_ELASTIC_IP Z)), .val (.ref (w3_MONTH Z)), .val (.int (1 : Int32)), .val (.ref b55), .val (.ref (w6_renewal Z))] [(.int p0)])
        refine own_step (fun _ k => XS.iconst X57.here hx rfl (hb hby at_65) k) ?_
        show own_Wp p e below _ T57 (mkF m 66 #[.val (.int p0), .val (.int p1), .val (.int p2), .val (.ref (w5_ELASTIC_IP Z)), .val (.ref (w3_MONTH Z)), .val (.int (1 : Int32)), .val (.ref b55), .val (.ref (w6_renewal Z))] [(.int (3 : Int32)), (.int p0)])
        refine own_step (fun _ k => XS.iand X57.here hx rfl (hb hby at_66) rfl k) ?_
        show own_Wp p e below _ T57 (mkF m 67 #[.val (.int p0), .val (.int p1), .val (.int p2), .val (.ref (w5_ELASTIC_IP Z)), .val (.ref (w3_MONTH Z)), .val (.int (1 : Int32)), .val (.ref b55), .val (.ref (w6_renewal Z))] [(.int (p0 &&& (3 : Int32)))])
        refine own_step (fun _ k => XS.iconst X57.here hx rfl (hb hby at_67) k) ?_
        show own_Wp p e below _ T57 (mkF m 68 #[.val (.int p0), .val (.int p1), .val (.int p2), .val (.ref (w5_ELASTIC_IP Z)), .val (.ref (w3_MONTH Z)), .val (.int (1 : Int32)), .val (.ref b55), .val (.ref (w6_renewal Z))] [(.int (2 : Int32)), (.int (p0 &&& (3 : Int32)))])
        refine own_step (fun _ k => XS.icmpNo X57.here hx rfl (hb hby at_68) rfl (teq hq1c_0).2 k) ?_
        show own_Wp p e below _ T57 (mkF m 71 #[.val (.int p0), .val (.int p1), .val (.int p2), .val (.ref (w5_ELASTIC_IP Z)), .val (.ref (w3_MONTH Z)), .val (.int (1 : Int32)), .val (.ref b55), .val (.ref (w6_renewal Z))] [])
        refine own_step (fun _ k => XS.aload X57.here hx rfl (hb hby at_71) rfl rfl k) ?_
        show own_Wp p e below _ T57 (mkF m 73 #[.val (.int p0), .val (.int p1), .val (.int p2), .val (.ref (w5_ELASTIC_IP Z)), .val (.ref (w3_MONTH Z)), .val (.int (1 : Int32)), .val (.ref b55), .val (.ref (w6_renewal Z))] [(.ref (w6_renewal Z))])
        obtain ⟨_, T58, L58, X58, hQ58, st58⟩ := own_callV X57 hx hZ56 hown56 (hw _ (List.mem_of_getElem? (i := 48) rfl)) (hw _ (List.mem_of_getElem? (i := 49) rfl)) (notFace_of_selects (args := #[]) (mvT hZ56 (hw _ (List.mem_of_getElem? (i := 51) rfl)))) (hw _ (List.mem_of_getElem? (i := 51) rfl)) (hw _ (List.mem_of_getElem? (i := 50) rfl)) (hw _ (List.mem_of_getElem? (i := 13) rfl)) (hw _ (List.mem_of_getElem? (i := 52) rfl)) (by decide) ((ex_w6_renewal hw hA).ext O56.2) (rm7_11 l Z a0 hw hA [] (w6_renewal Z) T56.heap n0 O56 (fl4 hw hA)) (W := 0) (by decide) (by decide) [] rfl (lenOf pd10 rfl) (Ls := #[.val (.int p0), .val (.int p1), .val (.int p2), .val (.ref (w5_ELASTIC_IP Z)), .val (.ref (w3_MONTH Z)), .val (.int (1 : Int32)), .val (.ref b55), .val (.ref (w6_renewal Z))]) (by rw [hml]; rfl) (rest := []) (Nat.le_of_eq rfl) (hb hby at_73) e57 (by decide) (by decide)
        refine st58 _ ?_
        obtain ⟨rfl, N58q, e58⟩ := hQ58
        have N58 := Fr.app N57 N58q
        show own_Wp p e below _ T58 (mkF m 76 #[.val (.int p0), .val (.int p1), .val (.int p2), .val (.ref (w5_ELASTIC_IP Z)), .val (.ref (w3_MONTH Z)), .val (.int (1 : Int32)), .val (.ref b55), .val (.ref (w6_renewal Z))] [(.ref (w3_MONTH Z))])
        obtain ⟨T59, X59, e59, st59⟩ := getS2 X58 hx hZ56 hown56 (host := "") (Or.inl (hw _ (List.mem_of_getElem? (i := 60) rfl))) Via.refl e58 ((st_w3_MONTH hw hA).ext O56.2) (g := (mkF m 76 #[.val (.int p0), .val (.int p1), .val (.int p2), .val (.ref (w5_ELASTIC_IP Z)), .val (.ref (w3_MONTH Z)), .val (.int (1 : Int32)), .val (.ref b55), .val (.ref (w6_renewal Z))] [(.ref (w3_MONTH Z))])) rfl (hb hby at_76)
        refine own_step st59 ?_
        show own_Wp p e below _ T59 (mkF m 79 #[.val (.int p0), .val (.int p1), .val (.int p2), .val (.ref (w5_ELASTIC_IP Z)), .val (.ref (w3_MONTH Z)), .val (.int (1 : Int32)), .val (.ref b55), .val (.ref (w6_renewal Z))] [(.ref (w3_MONTH Z)), (.ref (w3_MONTH Z))])
        refine own_step (fun _ k => Jvm.RoadKit.acmp (g := (mkF m 79 #[.val (.int p0), .val (.int p1), .val (.int p2), .val (.ref (w5_ELASTIC_IP Z)), .val (.ref (w3_MONTH Z)), .val (.int (1 : Int32)), .val (.ref b55), .val (.ref (w6_renewal Z))] [(.ref (w3_MONTH Z)), (.ref (w3_MONTH Z))])) X59 hx rfl rfl rfl (pc0 := 79) (pc' := 82) (same := true) rfl (hb hby at_79) rfl (decide_eq_true rfl) (by decide) (by decide) k) ?_
        show own_Wp p e below _ T59 (mkF m 82 #[.val (.int p0), .val (.int p1), .val (.int p2), .val (.ref (w5_ELASTIC_IP Z)), .val (.ref (w3_MONTH Z)), .val (.int (1 : Int32)), .val (.ref b55), .val (.ref (w6_renewal Z))] [])
        refine own_step (fun _ k => XS.aload X59.here hx rfl (hb hby at_82) rfl rfl k) ?_
        show own_Wp p e below _ T59 (mkF m 84 #[.val (.int p0), .val (.int p1), .val (.int p2), .val (.ref (w5_ELASTIC_IP Z)), .val (.ref (w3_MONTH Z)), .val (.int (1 : Int32)), .val (.ref b55), .val (.ref (w6_renewal Z))] [(.ref (w6_renewal Z))])
        obtain ⟨_, T60, L60, X60, hQ60, st60⟩ := own_callV X59 hx hZ56 hown56 (hw _ (List.mem_of_getElem? (i := 53) rfl)) (hw _ (List.mem_of_getElem? (i := 54) rfl)) (notFace_of_selects (args := #[]) (mvT hZ56 (hw _ (List.mem_of_getElem? (i := 56) rfl)))) (hw _ (List.mem_of_getElem? (i := 56) rfl)) (hw _ (List.mem_of_getElem? (i := 55) rfl)) (hw _ (List.mem_of_getElem? (i := 13) rfl)) (hw _ (List.mem_of_getElem? (i := 57) rfl)) (by decide) ((ex_w6_renewal hw hA).ext O56.2) (rm8_12 l Z a0 hw hA [] (w6_renewal Z) T56.heap n0 O56 (fl5 hw hA)) (W := 0) (by decide) (by decide) [] rfl (lenOf pd11 rfl) (Ls := #[.val (.int p0), .val (.int p1), .val (.int p2), .val (.ref (w5_ELASTIC_IP Z)), .val (.ref (w3_MONTH Z)), .val (.int (1 : Int32)), .val (.ref b55), .val (.ref (w6_renewal Z))]) (by rw [hml]; rfl) (rest := []) (Nat.le_of_eq rfl) (hb hby at_84) e59 (by decide) (by decide)
        refine st60 _ ?_
        obtain ⟨rfl, N60q, e60⟩ := hQ60
        have N60 := Fr.app N58 N60q
        show own_Wp p e below _ T60 (mkF m 87 #[.val (.int p0), .val (.int p1), .val (.int p2), .val (.ref (w5_ELASTIC_IP Z)), .val (.ref (w3_MONTH Z)), .val (.int (1 : Int32)), .val (.ref b55), .val (.ref (w6_renewal Z))] [(.int (1 : Int32))])
        refine own_step (fun _ k => XS.iconst X60.here hx rfl (hb hby at_87) k) ?_
        show own_Wp p e below _ T60 (mkF m 88 #[.val (.int p0), .val (.int p1), .val (.int p2), .val (.ref (w5_ELASTIC_IP Z)), .val (.ref (w3_MONTH Z)), .val (.int (1 : Int32)), .val (.ref b55), .val (.ref (w6_renewal Z))] [(.int (1 : Int32)), (.int (1 : Int32))])
        refine own_step (fun _ k => XS.icmpNo X60.here hx rfl (hb hby at_88) rfl (by decide) k) ?_
        show own_Wp p e below _ T60 (mkF m 91 #[.val (.int p0), .val (.int p1), .val (.int p2), .val (.ref (w5_ELASTIC_IP Z)), .val (.ref (w3_MONTH Z)), .val (.int (1 : Int32)), .val (.ref b55), .val (.ref (w6_renewal Z))] [])
        refine own_step (fun _ k => XS.iconst X60.here hx rfl (hb hby at_91) k) ?_
        show own_Wp p e below _ T60 (mkF m 92 #[.val (.int p0), .val (.int p1), .val (.int p2), .val (.ref (w5_ELASTIC_IP Z)), .val (.ref (w3_MONTH Z)), .val (.int (1 : Int32)), .val (.ref b55), .val (.ref (w6_renewal Z))] [(.int (1 : Int32))])
        refine own_step (fun _ k => XS.goto X60.here hx rfl (pc0 := 92) (pc' := 96) rfl (hb hby at_92) (by decide) (by decide) k) ?_
        show own_Wp p e below _ T60 (mkF m 96 #[.val (.int p0), .val (.int p1), .val (.int p2), .val (.ref (w5_ELASTIC_IP Z)), .val (.ref (w3_MONTH Z)), .val (.int (1 : Int32)), .val (.ref b55), .val (.ref (w6_renewal Z))] [(.int (1 : Int32))])
        exact own_retNW X60 hS56 (by rw [e60]; exact (Nat.le_refl _)) hx (t := .boolean) hret (by simp) hlk (hb hby at_96) (by decide) (by decide) ⟨rfl, N60⟩
      · skip
        refine own_step (fun _ k => XS.ifYes X53.here hx rfl (pc0 := 30) (pc' := 36) rfl (hb hby at_30) rfl ((if0 _ _).trans (feq hc54).2) (by decide) (by decide) k) ?_
        show own_Wp p e below _ T53 (mkF m 36 #[.val (.int p0), .val (.int p1), .val (.int p2), .val (.ref (w5_ELASTIC_IP Z)), .val (.ref (w3_MONTH Z)), .val (.int (p2 &&& (2147483647 : Int32))), .unset, .unset] [])
        have hpos : ¬ ((p2 &&& (2147483647 : Int32)) < (1 : Int32)) := own_pos hc54
        obtain ⟨T61, h61, X61, e61, E61, A61, D61, -, st61⟩ := newO X53 hx hZ hown (hw _ (List.mem_of_getElem? (i := 11) rfl)) (hw _ (List.mem_of_getElem? (i := 12) rfl)) (hw _ (List.mem_of_getElem? (i := 13) rfl)) e53 (g := (mkF m 36 #[.val (.int p0), .val (.int p1), .val (.int p2), .val (.ref (w5_ELASTIC_IP Z)), .val (.ref (w3_MONTH Z)), .val (.int (p2 &&& (2147483647 : Int32))), .unset, .unset] [])) rfl (hb hby at_36) (by decide) (by decide)
        obtain ⟨b61, z61⟩ : ∃ z, z = h0.size := ⟨_, rfl⟩
        rw [← z61] at A61 D61 st61
        refine own_step st61 ?_
        have g61 : n0 ≤ b61 := Nat.le_trans (O0.1 ▸ O0.2.1) (Nat.le_of_eq z61.symm)
        have y61 : h0.size ≤ b61 := Nat.le_trans (Nat.le_refl _) (Nat.le_of_eq z61.symm)
        have O61 := O0.ext E61
        have K61 : Keep h0 h61 [] := (Keep.refl h0 []).ext E61
        have F61_38 : Fld Z h61 b61 "com/example/meter_to_month/metertomonth/ledger/BillingPeriod" "unit" "Lcom/example/meter_to_month/metertomonth/ledger/BillingPeriod$Unit;" .null := D61 (Or.inr (hw _ (List.mem_of_getElem? (i := 38) rfl))) (ty := (.object "com/example/meter_to_month/metertomonth/ledger/BillingPeriod$Unit")) (by decide)
        have F61_40 : Fld Z h61 b61 "com/example/meter_to_month/metertomonth/ledger/BillingPeriod" "count" "I" (.int (0 : Int32)) := D61 (Or.inr (hw _ (List.mem_of_getElem? (i := 40) rfl))) (ty := .int) (by decide)
        show own_Wp p e below _ T61 (mkF m 39 #[.val (.int p0), .val (.int p1), .val (.int p2), .val (.ref (w5_ELASTIC_IP Z)), .val (.ref (w3_MONTH Z)), .val (.int (p2 &&& (2147483647 : Int32))), .unset, .unset] [(.ref b61)])
        refine own_step (fun _ k => XS.dup X61.here hx rfl (hb hby at_39) rfl rfl k) ?_
        show own_Wp p e below _ T61 (mkF m 40 #[.val (.int p0), .val (.int p1), .val (.int p2), .val (.ref (w5_ELASTIC_IP Z)), .val (.ref (w3_MONTH Z)), .val (.int (p2 &&& (2147483647 : Int32))), .unset, .unset] [(.ref b61), (.ref b61)])
        refine own_step (fun _ k => XS.aload X61.here hx rfl (hb hby at_40) rfl rfl k) ?_
        show own_Wp p e below _ T61 (mkF m 42 #[.val (.int p0), .val (.int p1), .val (.int p2), .val (.ref (w5_ELASTIC_IP Z)), .val (.ref (w3_MONTH Z)), .val (.int (p2 &&& (2147483647 : Int32))), .unset, .unset] [(.ref (w3_MONTH Z)), (.ref b61), (.ref b61)])
        refine own_step (fun _ k => XS.iload X61.here hx rfl (hb hby at_42) rfl k) ?_
        show own_Wp p e below _ T61 (mkF m 44 #[.val (.int p0), .val (.int p1), .val (.int p2), .val (.ref (w5_ELASTIC_IP Z)), .val (.ref (w3_MONTH Z)), .val (.int (p2 &&& (2147483647 : Int32))), .unset, .unset] [(.int (p2 &&& (2147483647 : Int32))), (.ref (w3_MONTH Z)), (.ref b61), (.ref b61)])
        obtain ⟨_, T62, L62, X62, hS62, hZ62, hown62, hQ62, st62⟩ := own_callNW X61 hx hZ hS0 (Nat.zero_le _) rfl hown (hw _ (List.mem_of_getElem? (i := 14) rfl)) (hw _ (List.mem_of_getElem? (i := 15) rfl)) (hw _ (List.mem_of_getElem? (i := 13) rfl)) (hw _ (List.mem_of_getElem? (i := 16) rfl)) (by decide) (rm2_7 l Z a0 hw hA [] b61 (w3_MONTH Z) (p2 &&& (2147483647 : Int32)) h61 n0 O61 A61 F61_38 F61_40 g61 hpos) (b := b61) (W := 1) (by decide) (by decide) [(.ref (w3_MONTH Z)), (.int (p2 &&& (2147483647 : Int32)))] rfl (lenOf pd7 rfl) (Ls := #[.val (.int p0), .val (.int p1), .val (.int p2), .val (.ref (w5_ELASTIC_IP Z)), .val (.ref (w3_MONTH Z)), .val (.int (p2 &&& (2147483647 : Int32))), .unset, .unset]) (by rw [hml]; rfl) (rest := [(.ref b61)]) (Nat.le_of_eq rfl) (hb hby at_44) e61 (by decide) (by decide)
        refine st62 _ ?_
        obtain ⟨rfl, N62q, K62q, F62_0, F62_1, F62_2⟩ := hQ62
        have N62 := Fr.app N1c N62q
        have O62 := O61.keep K62q (allS g61 all0)
        have K62 : Keep h0 T62.heap [] := Keep.trans K61 K62q (allS (Or.inr y61) all0)
        show own_Wp p e below _ T62 (mkF m 47 #[.val (.int p0), .val (.int p1), .val (.int p2), .val (.ref (w5_ELASTIC_IP Z)), .val (.ref (w3_MONTH Z)), .val (.int (p2 &&& (2147483647 : Int32))), .unset, .unset] [(.ref b61)])
        refine own_step (fun _ k => XS.astore X62.here hx rfl (hb hby at_47) rfl rfl (l' := #[.val (.int p0), .val (.int p1), .val (.int p2), .val (.ref (w5_ELASTIC_IP Z)), .val (.ref (w3_MONTH Z)), .val (.int (p2 &&& (2147483647 : Int32))), .val (.ref b61), .unset]) rfl k) ?_
        show own_Wp p e below _ T62 (mkF m 49 #[.val (.int p0), .val (.int p1), .val (.int p2), .val (.ref (w5_ELASTIC_IP Z)), .val (.ref (w3_MONTH Z)), .val (.int (p2 &&& (2147483647 : Int32))), .val (.ref b61), .unset] [])
        refine own_step (fun _ k => XS.aloadN X62.here hx rfl (hb hby at_49) rfl rfl k) ?_
        show own_Wp p e below _ T62 (mkF m 50 #[.val (.int p0), .val (.int p1), .val (.int p2), .val (.ref (w5_ELASTIC_IP Z)), .val (.ref (w3_MONTH Z)), .val (.int (p2 &&& (2147483647 : Int32))), .val (.ref b61), .unset] [(.ref (w5_ELASTIC_IP Z))])
        refine own_step (fun _ k => XS.aload X62.here hx rfl (hb hby at_50) rfl rfl k) ?_
        show own_Wp p e below _ T62 (mkF m 52 #[.val (.int p0), .val (.int p1), .val (.int p2), .val (.ref (w5_ELASTIC_IP Z)), .val (.ref (w3_MONTH Z)), .val (.int (p2 &&& (2147483647 : Int32))), .val (.ref b61), .unset] [(.ref b61), (.ref (w5_ELASTIC_IP Z))])
        obtain ⟨_, T63, L63, X63, hQ63, st63⟩ := own_callV X62 hx hZ62 hown62 (hw _ (List.mem_of_getElem? (i := 41) rfl)) (hw _ (List.mem_of_getElem? (i := 42) rfl)) (notFace_of_selects (args := #[]) (mvT hZ62 (hw _ (List.mem_of_getElem? (i := 44) rfl)))) (hw _ (List.mem_of_getElem? (i := 44) rfl)) (hw _ (List.mem_of_getElem? (i := 43) rfl)) (hw _ (List.mem_of_getElem? (i := 5) rfl)) (hw _ (List.mem_of_getElem? (i := 45) rfl)) (by decide) ((ex_w5_ELASTIC_IP hw hA).ext O62.2) (rm6_10 l Z a0 hw hA [] (w5_ELASTIC_IP Z) b61 T62.heap n0 O62 (fl3 hw hA)) (W := 0) (by decide) (by decide) [(.ref b61)] rfl (lenOf pd9 rfl) (Ls := #[.val (.int p0), .val (.int p1), .val (.int p2), .val (.ref (w5_ELASTIC_IP Z)), .val (.ref (w3_MONTH Z)), .val (.int (p2 &&& (2147483647 : Int32))), .val (.ref b61), .unset]) (by rw [hml]; rfl) (rest := []) (Nat.le_of_eq rfl) (hb hby at_52) rfl (by decide) (by decide)
        refine st63 _ ?_
        obtain ⟨rfl, N63q, e63⟩ := hQ63
        have N63 := Fr.app N62 N63q
        show own_Wp p e below _ T63 (mkF m 55 #[.val (.int p0), .val (.int p1), .val (.int p2), .val (.ref (w5_ELASTIC_IP Z)), .val (.ref (w3_MONTH Z)), .val (.int (p2 &&& (2147483647 : Int32))), .val (.ref b61), .unset] [(.ref (w6_renewal Z))])
        refine own_step (fun _ k => XS.astore X63.here hx rfl (hb hby at_55) rfl rfl (l' := #[.val (.int p0), .val (.int p1), .val (.int p2), .val (.ref (w5_ELASTIC_IP Z)), .val (.ref (w3_MONTH Z)), .val (.int (p2 &&& (2147483647 : Int32))), .val (.ref b61), .val (.ref (w6_renewal Z))]) rfl k) ?_
        show own_Wp p e below _ T63 (mkF m 57 #[.val (.int p0), .val (.int p1), .val (.int p2), .val (.ref (w5_ELASTIC_IP Z)), .val (.ref (w3_MONTH Z)), .val (.int (p2 &&& (2147483647 : Int32))), .val (.ref b61), .val (.ref (w6_renewal Z))] [])
        refine own_step (fun _ k => XS.aload X63.here hx rfl (hb hby at_57) rfl rfl k) ?_
        show own_Wp p e below _ T63 (mkF m 59 #[.val (.int p0), .val (.int p1), .val (.int p2), .val (.ref (w5_ELASTIC_IP Z)), .val (.ref (w3_MONTH Z)), .val (.int (p2 &&& (2147483647 : Int32))), .val (.ref b61), .val (.ref (w6_renewal Z))] [(.ref (w6_renewal Z))])
        refine own_step (fun _ k => XS.ifnonnullYes X63.here hx rfl (pc0 := 59) (pc' := 64) rfl (hb hby at_59) rfl (by decide) (by decide) k) ?_
        show own_Wp p e below _ T63 (mkF m 64 #[.val (.int p0), .val (.int p1), .val (.int p2), .val (.ref (w5_ELASTIC_IP Z)), .val (.ref (w3_MONTH Z)), .val (.int (p2 &&& (2147483647 : Int32))), .val (.ref b61), .val (.ref (w6_renewal Z))] [])
        refine own_step (fun _ k => XS.iloadN X63.here hx rfl (hb hby at_64) rfl k) ?_
        show own_Wp p e below _ T63 (mkF m 65 #[.val (.int p0), .val (.int p1), .val (.int p2), .val (.ref (w5_ELASTIC_IP Z)), .val (.ref (w3_MONTH Z)), .val (.int (p2 &&& (2147483647 : Int32))), .val (.ref b61), .val (.ref (w6_renewal Z))] [(.int p0)])
        refine own_step (fun _ k => XS.iconst X63.here hx rfl (hb hby at_65) k) ?_
        show own_Wp p e below _ T63 (mkF m 66 #[.val (.int p0), .val (.int p1), .val (.int p2), .val (.ref (w5_ELASTIC_IP Z)), .val (.ref (w3_MONTH Z)), .val (.int (p2 &&& (2147483647 : Int32))), .val (.ref b61), .val (.ref (w6_renewal Z))] [(.int (3 : Int32)), (.int p0)])
        refine own_step (fun _ k => XS.iand X63.here hx rfl (hb hby at_66) rfl k) ?_
        show own_Wp p e below _ T63 (mkF m 67 #[.val (.int p0), .val (.int p1), .val (.int p2), .val (.ref (w5_ELASTIC_IP Z)), .val (.ref (w3_MONTH Z)), .val (.int (p2 &&& (2147483647 : Int32))), .val (.ref b61), .val (.ref (w6_renewal Z))] [(.int (p0 &&& (3 : Int32)))])
        refine own_step (fun _ k => XS.iconst X63.here hx rfl (hb hby at_67) k) ?_
        show own_Wp p e below _ T63 (mkF m 68 #[.val (.int p0), .val (.int p1), .val (.int p2), .val (.ref (w5_ELASTIC_IP Z)), .val (.ref (w3_MONTH Z)), .val (.int (p2 &&& (2147483647 : Int32))), .val (.ref b61), .val (.ref (w6_renewal Z))] [(.int (2 : Int32)), (.int (p0 &&& (3 : Int32)))])
        refine own_step (fun _ k => XS.icmpNo X63.here hx rfl (hb hby at_68) rfl (teq hq1c_0).2 k) ?_
        show own_Wp p e below _ T63 (mkF m 71 #[.val (.int p0), .val (.int p1), .val (.int p2), .val (.ref (w5_ELASTIC_IP Z)), .val (.ref (w3_MONTH Z)), .val (.int (p2 &&& (2147483647 : Int32))), .val (.ref b61), .val (.ref (w6_renewal Z))] [])
        refine own_step (fun _ k => XS.aload X63.here hx rfl (hb hby at_71) rfl rfl k) ?_
        show own_Wp p e below _ T63 (mkF m 73 #[.val (.int p0), .val (.int p1), .val (.int p2), .val (.ref (w5_ELASTIC_IP Z)), .val (.ref (w3_MONTH Z)), .val (.int (p2 &&& (2147483647 : Int32))), .val (.ref b61), .val (.ref (w6_renewal Z))] [(.ref (w6_renewal Z))])
        obtain ⟨_, T64, L64, X64, hQ64, st64⟩ := own_callV X63 hx hZ62 hown62 (hw _ (List.mem_of_getElem? (i := 48) rfl)) (hw _ (List.mem_of_getElem? (i := 49) rfl)) (notFace_of_selects (args := #[]) (mvT hZ62 (hw _ (List.mem_of_getElem? (i := 51) rfl)))) (hw _ (List.mem_of_getElem? (i := 51) rfl)) (hw _ (List.mem_of_getElem? (i := 50) rfl)) (hw _ (List.mem_of_getElem? (i := 13) rfl)) (hw _ (List.mem_of_getElem? (i := 52) rfl)) (by decide) ((ex_w6_renewal hw hA).ext O62.2) (rm7_11 l Z a0 hw hA [] (w6_renewal Z) T62.heap n0 O62 (fl4 hw hA)) (W := 0) (by decide) (by decide) [] rfl (lenOf pd10 rfl) (Ls := #[.val (.int p0), .val (.int p1), .val (.int p2), .val (.ref (w5_ELASTIC_IP Z)), .val (.ref (w3_MONTH Z)), .val (.int (p2 &&& (2147483647 : Int32))), .val (.ref b61), .val (.ref (w6_renewal Z))]) (by rw [hml]; rfl) (rest := []) (Nat.le_of_eq rfl) (hb hby at_73) e63 (by decide) (by decide)
        refine st64 _ ?_
        obtain ⟨rfl, N64q, e64⟩ := hQ64
        have N64 := Fr.app N63 N64q
        show own_Wp p e below _ T64 (mkF m 76 #[.val (.int p0), .val (.int p1), .val (.int p2), .val (.ref (w5_ELASTIC_IP Z)), .val (.ref (w3_MONTH Z)), .val (.int (p2 &&& (2147483647 : Int32))), .val (.ref b61), .val (.ref (w6_renewal Z))] [(.ref (w3_MONTH Z))])
        obtain ⟨T65, X65, e65, st65⟩ := getS2 X64 hx hZ62 hown62 (host := "") (Or.inl (hw _ (List.mem_of_getElem? (i := 60) rfl))) Via.refl e64 ((st_w3_MONTH hw hA).ext O62.2) (g := (mkF m 76 #[.val (.int p0), .val (.int p1), .val (.int p2), .val (.ref (w5_ELASTIC_IP Z)), .val (.ref (w3_MONTH Z)), .val (.int (p2 &&& (2147483647 : Int32))), .val (.ref b61), .val (.ref (w6_renewal Z))] [(.ref (w3_MONTH Z))])) rfl (hb hby at_76)
        refine own_step st65 ?_
        show own_Wp p e below _ T65 (mkF m 79 #[.val (.int p0), .val (.int p1), .val (.int p2), .val (.ref (w5_ELASTIC_IP Z)), .val (.ref (w3_MONTH Z)), .val (.int (p2 &&& (2147483647 : Int32))), .val (.ref b61), .val (.ref (w6_renewal Z))] [(.ref (w3_MONTH Z)), (.ref (w3_MONTH Z))])
        refine own_step (fun _ k => Jvm.RoadKit.acmp (g := (mkF m 79 #[.val (.int p0), .val (.int p1), .val (.int p2), .val (.ref (w5_ELASTIC_IP Z)), .val (.ref (w3_MONTH Z)), .val (.int (p2 &&& (2147483647 : Int32))), .val (.ref b61), .val (.ref (w6_renewal Z))] [(.ref (w3_MONTH Z)), (.ref (w3_MONTH Z))])) X65 hx rfl rfl rfl (pc0 := 79) (pc' := 82) (same := true) rfl (hb hby at_79) rfl (decide_eq_true rfl) (by decide) (by decide) k) ?_
        show own_Wp p e below _ T65 (mkF m 82 #[.val (.int p0), .val (.int p1), .val (.int p2), .val (.ref (w5_ELASTIC_IP Z)), .val (.ref (w3_MONTH Z)), .val (.int (p2 &&& (2147483647 : Int32))), .val (.ref b61), .val (.ref (w6_renewal Z))] [])
        refine own_step (fun _ k => XS.aload X65.here hx rfl (hb hby at_82) rfl rfl k) ?_
        show own_Wp p e below _ T65 (mkF m 84 #[.val (.int p0), .val (.int p1), .val (.int p2), .val (.ref (w5_ELASTIC_IP Z)), .val (.ref (w3_MONTH Z)), .val (.int (p2 &&& (2147483647 : Int32))), .val (.ref b61), .val (.ref (w6_renewal Z))] [(.ref (w6_renewal Z))])
        obtain ⟨_, T66, L66, X66, hQ66, st66⟩ := own_callV X65 hx hZ62 hown62 (hw _ (List.mem_of_getElem? (i := 53) rfl)) (hw _ (List.mem_of_getElem? (i := 54) rfl)) (notFace_of_selects (args := #[]) (mvT hZ62 (hw _ (List.mem_of_getElem? (i := 56) rfl)))) (hw _ (List.mem_of_getElem? (i := 56) rfl)) (hw _ (List.mem_of_getElem? (i := 55) rfl)) (hw _ (List.mem_of_getElem? (i := 13) rfl)) (hw _ (List.mem_of_getElem? (i := 57) rfl)) (by decide) ((ex_w6_renewal hw hA).ext O62.2) (rm8_12 l Z a0 hw hA [] (w6_renewal Z) T62.heap n0 O62 (fl5 hw hA)) (W := 0) (by decide) (by decide) [] rfl (lenOf pd11 rfl) (Ls := #[.val (.int p0), .val (.int p1), .val (.int p2), .val (.ref (w5_ELASTIC_IP Z)), .val (.ref (w3_MONTH Z)), .val (.int (p2 &&& (2147483647 : Int32))), .val (.ref b61), .val (.ref (w6_renewal Z))]) (by rw [hml]; rfl) (rest := []) (Nat.le_of_eq rfl) (hb hby at_84) e65 (by decide) (by decide)
        refine st66 _ ?_
        obtain ⟨rfl, N66q, e66⟩ := hQ66
        have N66 := Fr.app N64 N66q
        show own_Wp p e below _ T66 (mkF m 87 #[.val (.int p0), .val (.int p1), .val (.int p2), .val (.ref (w5_ELASTIC_IP Z)), .val (.ref (w3_MONTH Z)), .val (.int (p2 &&& (2147483647 : Int32))), .val (.ref b61), .val (.ref (w6_renewal Z))] [(.int (1 : Int32))])
        refine own_step (fun _ k => XS.iconst X66.here hx rfl (hb hby at_87) k) ?_
        show own_Wp p e below _ T66 (mkF m 88 #[.val (.int p0), .val (.int p1), .val (.int p2), .val (.ref (w5_ELASTIC_IP Z)), .val (.ref (w3_MONTH Z)), .val (.int (p2 &&& (2147483647 : Int32))), .val (.ref b61), .val (.ref (w6_renewal Z))] [(.int (1 : Int32)), (.int (1 : Int32))])
        refine own_step (fun _ k => XS.icmpNo X66.here hx rfl (hb hby at_88) rfl (by decide) k) ?_
        show own_Wp p e below _ T66 (mkF m 91 #[.val (.int p0), .val (.int p1), .val (.int p2), .val (.ref (w5_ELASTIC_IP Z)), .val (.ref (w3_MONTH Z)), .val (.int (p2 &&& (2147483647 : Int32))), .val (.ref b61), .val (.ref (w6_renewal Z))] [])
        refine own_step (fun _ k => XS.iconst X66.here hx rfl (hb hby at_91) k) ?_
        show own_Wp p e below _ T66 (mkF m 92 #[.val (.int p0), .val (.int p1), .val (.int p2), .val (.ref (w5_ELASTIC_IP Z)), .val (.ref (w3_MONTH Z)), .val (.int (p2 &&& (2147483647 : Int32))), .val (.ref b61), .val (.ref (w6_renewal Z))] [(.int (1 : Int32))])
        refine own_step (fun _ k => XS.goto X66.here hx rfl (pc0 := 92) (pc' := 96) rfl (hb hby at_92) (by decide) (by decide) k) ?_
        show own_Wp p e below _ T66 (mkF m 96 #[.val (.int p0), .val (.int p1), .val (.int p2), .val (.ref (w5_ELASTIC_IP Z)), .val (.ref (w3_MONTH Z)), .val (.int (p2 &&& (2147483647 : Int32))), .val (.ref b61), .val (.ref (w6_renewal Z))] [(.int (1 : Int32))])
        exact own_retNW X66 hS62 (by rw [e66]; exact (Nat.le_refl _)) hx (t := .boolean) hret (by simp) hlk (hb hby at_96) (by decide) (by decide) ⟨rfl, N66⟩
    · skip
      refine own_step (fun _ k => XS.ifNo X1.here hx rfl (hb hby at_8) rfl ((if0 _ _).trans (feq hc52).1) k) ?_
      show own_Wp p e below _ T1 (mkF m 11 #[.val (.int p0), .val (.int p1), .val (.int p2), .val (.ref (w5_ELASTIC_IP Z)), .unset, .unset, .unset, .unset] [])
      obtain ⟨T67, X67, e67, st67⟩ := getS2 X1 hx hZ hown (host := "") (Or.inl (hw _ (List.mem_of_getElem? (i := 7) rfl))) Via.refl e1c ((st_w1_YEAR hw hA).ext O0.2) (g := (mkF m 11 #[.val (.int p0), .val (.int p1), .val (.int p2), .val (.ref (w5_ELASTIC_IP Z)), .unset, .unset, .unset, .unset] [])) rfl (hb hby at_11)
      refine own_step st67 ?_
      show own_Wp p e below _ T67 (mkF m 14 #[.val (.int p0), .val (.int p1), .val (.int p2), .val (.ref (w5_ELASTIC_IP Z)), .unset, .unset, .unset, .unset] [(.ref (w1_YEAR Z))])
      refine own_step (fun _ k => XS.goto X67.here hx rfl (pc0 := 14) (pc' := 20) rfl (hb hby at_14) (by decide) (by decide) k) ?_
      show own_Wp p e below _ T67 (mkF m 20 #[.val (.int p0), .val (.int p1), .val (.int p2), .val (.ref (w5_ELASTIC_IP Z)), .unset, .unset, .unset, .unset] [(.ref (w1_YEAR Z))])
      refine own_step (fun _ k => XS.astore X67.here hx rfl (hb hby at_20) rfl rfl (l' := #[.val (.int p0), .val (.int p1), .val (.int p2), .val (.ref (w5_ELASTIC_IP Z)), .val (.ref (w1_YEAR Z)), .unset, .unset, .unset]) rfl k) ?_
      show own_Wp p e below _ T67 (mkF m 22 #[.val (.int p0), .val (.int p1), .val (.int p2), .val (.ref (w5_ELASTIC_IP Z)), .val (.ref (w1_YEAR Z)), .unset, .unset, .unset] [])
      refine own_step (fun _ k => XS.iloadN X67.here hx rfl (hb hby at_22) rfl k) ?_
      show own_Wp p e below _ T67 (mkF m 23 #[.val (.int p0), .val (.int p1), .val (.int p2), .val (.ref (w5_ELASTIC_IP Z)), .val (.ref (w1_YEAR Z)), .unset, .unset, .unset] [(.int p2)])
      refine own_step (X67.ldcInt hx hown (mvT hZ (hw _ (List.mem_of_getElem? (i := 10) rfl))) (g := (mkF m 23 #[.val (.int p0), .val (.int p1), .val (.int p2), .val (.ref (w5_ELASTIC_IP Z)), .val (.ref (w1_YEAR Z)), .unset, .unset, .unset] [(.int p2)])) rfl (hb hby at_23)) ?_
      show own_Wp p e below _ T67 (mkF m 25 #[.val (.int p0), .val (.int p1), .val (.int p2), .val (.ref (w5_ELASTIC_IP Z)), .val (.ref (w1_YEAR Z)), .unset, .unset, .unset] [(.int (2147483647 : Int32)), (.int p2)])
      refine own_step (fun _ k => XS.iand X67.here hx rfl (hb hby at_25) rfl k) ?_
      show own_Wp p e below _ T67 (mkF m 26 #[.val (.int p0), .val (.int p1), .val (.int p2), .val (.ref (w5_ELASTIC_IP Z)), .val (.ref (w1_YEAR Z)), .unset, .unset, .unset] [(.int (p2 &&& (2147483647 : Int32)))])
      refine own_step (fun _ k => XS.istore X67.here hx rfl (hb hby at_26) rfl (l' := #[.val (.int p0), .val (.int p1), .val (.int p2), .val (.ref (w5_ELASTIC_IP Z)), .val (.ref (w1_YEAR Z)), .val (.int (p2 &&& (2147483647 : Int32))), .unset, .unset]) rfl k) ?_
      show own_Wp p e below _ T67 (mkF m 28 #[.val (.int p0), .val (.int p1), .val (.int p2), .val (.ref (w5_ELASTIC_IP Z)), .val (.ref (w1_YEAR Z)), .val (.int (p2 &&& (2147483647 : Int32))), .unset, .unset] [])
      refine own_step (fun _ k => XS.iload X67.here hx rfl (hb hby at_28) rfl k) ?_
      show own_Wp p e below _ T67 (mkF m 30 #[.val (.int p0), .val (.int p1), .val (.int p2), .val (.ref (w5_ELASTIC_IP Z)), .val (.ref (w1_YEAR Z)), .val (.int (p2 &&& (2147483647 : Int32))), .unset, .unset] [(.int (p2 &&& (2147483647 : Int32)))])
      by_cases hc68 : (p2 &&& (2147483647 : Int32)) = (0 : Int32)
      · skip
        refine own_step (fun _ k => XS.ifNo X67.here hx rfl (hb hby at_30) rfl ((if0 _ _).trans (teq hc68).2) k) ?_
        show own_Wp p e below _ T67 (mkF m 33 #[.val (.int p0), .val (.int p1), .val (.int p2), .val (.ref (w5_ELASTIC_IP Z)), .val (.ref (w1_YEAR Z)), .val (.int (p2 &&& (2147483647 : Int32))), .unset, .unset] [])
        refine own_step (fun _ k => XS.iconst X67.here hx rfl (hb hby at_33) k) ?_
        show own_Wp p e below _ T67 (mkF m 34 #[.val (.int p0), .val (.int p1), .val (.int p2), .val (.ref (w5_ELASTIC_IP Z)), .val (.ref (w1_YEAR Z)), .val (.int (p2 &&& (2147483647 : Int32))), .unset, .unset] [(.int (1 : Int32))])
        refine own_step (fun _ k => XS.istore X67.here hx rfl (hb hby at_34) rfl (l' := #[.val (.int p0), .val (.int p1), .val (.int p2), .val (.ref (w5_ELASTIC_IP Z)), .val (.ref (w1_YEAR Z)), .val (.int (1 : Int32)), .unset, .unset]) rfl k) ?_
        show own_Wp p e below _ T67 (mkF m 36 #[.val (.int p0), .val (.int p1), .val (.int p2), .val (.ref (w5_ELASTIC_IP Z)), .val (.ref (w1_YEAR Z)), .val (.int (1 : Int32)), .unset, .unset] [])
        obtain ⟨T69, h69, X69, e69, E69, A69, D69, -, st69⟩ := newO X67 hx hZ hown (hw _ (List.mem_of_getElem? (i := 11) rfl)) (hw _ (List.mem_of_getElem? (i := 12) rfl)) (hw _ (List.mem_of_getElem? (i := 13) rfl)) e67 (g := (mkF m 36 #[.val (.int p0), .val (.int p1), .val (.int p2), .val (.ref (w5_ELASTIC_IP Z)), .val (.ref (w1_YEAR Z)), .val (.int (1 : Int32)), .unset, .unset] [])) rfl (hb hby at_36) (by decide) (by decide)
        obtain ⟨b69, z69⟩ : ∃ z, z = h0.size := ⟨_, rfl⟩
        rw [← z69] at A69 D69 st69
        refine own_step st69 ?_
        have g69 : n0 ≤ b69 := Nat.le_trans (O0.1 ▸ O0.2.1) (Nat.le_of_eq z69.symm)
        have y69 : h0.size ≤ b69 := Nat.le_trans (Nat.le_refl _) (Nat.le_of_eq z69.symm)
        have O69 := O0.ext E69
        have K69 : Keep h0 h69 [] := (Keep.refl h0 []).ext E69
        have F69_38 : Fld Z h69 b69 "com/example/meter_to_month/metertomonth/ledger/BillingPeriod" "unit" "Lcom/example/meter_to_month/metertomonth/ledger/BillingPeriod$Unit;" .null := D69 (Or.inr (hw _ (List.mem_of_getElem? (i := 38) rfl))) (ty := (.object "com/example/meter_to_month/metertomonth/ledger/BillingPeriod$Unit")) (by decide)
        have F69_40 : Fld Z h69 b69 "com/example/meter_to_month/metertomonth/ledger/BillingPeriod" "count" "I" (.int (0 : Int32)) := D69 (Or.inr (hw _ (List.mem_of_getElem? (i := 40) rfl))) (ty := .int) (by decide)
        show own_Wp p e below _ T69 (mkF m 39 #[.val (.int p0), .val (.int p1), .val (.int p2), .val (.ref (w5_ELASTIC_IP Z)), .val (.ref (w1_YEAR Z)), .val (.int (1 : Int32)), .unset, .unset] [(.ref b69)])
        refine own_step (fun _ k => XS.dup X69.here hx rfl (hb hby at_39) rfl rfl k) ?_
        show own_Wp p e below _ T69 (mkF m 40 #[.val (.int p0), .val (.int p1), .val (.int p2), .val (.ref (w5_ELASTIC_IP Z)), .val (.ref (w1_YEAR Z)), .val (.int (1 : Int32)), .unset, .unset] [(.ref b69), (.ref b69)])
        refine own_step (fun _ k => XS.aload X69.here hx rfl (hb hby at_40) rfl rfl k) ?_
        show own_Wp p e below _ T69 (mkF m 42 #[.val (.int p0), .val (.int p1), .val (.int p2), .val (.ref (w5_ELASTIC_IP Z)), .val (.ref (w1_YEAR Z)), .val (.int (1 : Int32)), .unset, .unset] [(.ref (w1_YEAR Z)), (.ref b69), (.ref b69)])
        refine own_step (fun _ k => XS.iload X69.here hx rfl (hb hby at_42) rfl k) ?_
        show own_Wp p e below _ T69 (mkF m 44 #[.val (.int p0), .val (.int p1), .val (.int p2), .val (.ref (w5_ELASTIC_IP Z)), .val (.ref (w1_YEAR Z)), .val (.int (1 : Int32)), .unset, .unset] [(.int (1 : Int32)), (.ref (w1_YEAR Z)), (.ref b69), (.ref b69)])
        obtain ⟨_, T70, L70, X70, hS70, hZ70, hown70, hQ70, st70⟩ := own_callNW X69 hx hZ hS0 (Nat.zero_le _) rfl hown (hw _ (List.mem_of_getElem? (i := 14) rfl)) (hw _ (List.mem_of_getElem? (i := 15) rfl)) (hw _ (List.mem_of_getElem? (i := 13) rfl)) (hw _ (List.mem_of_getElem? (i := 16) rfl)) (by decide) (rm2_3 l Z a0 hw hA [] b69 (w1_YEAR Z) h69 n0 O69 A69 F69_38 F69_40 g69) (b := b69) (W := 1) (by decide) (by decide) [(.ref (w1_YEAR Z)), (.int (1 : Int32))] rfl (lenOf pd7 rfl) (Ls := #[.val (.int p0), .val (.int p1), .val (.int p2), .val (.ref (w5_ELASTIC_IP Z)), .val (.ref (w1_YEAR Z)), .val (.int (1 : Int32)), .unset, .unset]) (by rw [hml]; rfl) (rest := [(.ref b69)]) (Nat.le_of_eq rfl) (hb hby at_44) e69 (by decide) (by decide)
        refine st70 _ ?_
        obtain ⟨rfl, N70q, K70q, F70_0, F70_1, F70_2⟩ := hQ70
        have N70 := Fr.app N1c N70q
        have O70 := O69.keep K70q (allS g69 all0)
        have K70 : Keep h0 T70.heap [] := Keep.trans K69 K70q (allS (Or.inr y69) all0)
        show own_Wp p e below _ T70 (mkF m 47 #[.val (.int p0), .val (.int p1), .val (.int p2), .val (.ref (w5_ELASTIC_IP Z)), .val (.ref (w1_YEAR Z)), .val (.int (1 : Int32)), .unset, .unset] [(.ref b69)])
        refine own_step (fun _ k => XS.astore X70.here hx rfl (hb hby at_47) rfl rfl (l' := #[.val (.int p0), .val (.int p1), .val (.int p2), .val (.ref (w5_ELASTIC_IP Z)), .val (.ref (w1_YEAR Z)), .val (.int (1 : Int32)), .val (.ref b69), .unset]) rfl k) ?_
        show own_Wp p e below _ T70 (mkF m 49 #[.val (.int p0), .val (.int p1), .val (.int p2), .val (.ref (w5_ELASTIC_IP Z)), .val (.ref (w1_YEAR Z)), .val (.int (1 : Int32)), .val (.ref b69), .unset] [])
        refine own_step (fun _ k => XS.aloadN X70.here hx rfl (hb hby at_49) rfl rfl k) ?_
        show own_Wp p e below _ T70 (mkF m 50 #[.val (.int p0), .val (.int p1), .val (.int p2), .val (.ref (w5_ELASTIC_IP Z)), .val (.ref (w1_YEAR Z)), .val (.int (1 : Int32)), .val (.ref b69), .unset] [(.ref (w5_ELASTIC_IP Z))])
        refine own_step (fun _ k => XS.aload X70.here hx rfl (hb hby at_50) rfl rfl k) ?_
        show own_Wp p e below _ T70 (mkF m 52 #[.val (.int p0), .val (.int p1), .val (.int p2), .val (.ref (w5_ELASTIC_IP Z)), .val (.ref (w1_YEAR Z)), .val (.int (1 : Int32)), .val (.ref b69), .unset] [(.ref b69), (.ref (w5_ELASTIC_IP Z))])
        obtain ⟨_, T71, L71, X71, hQ71, st71⟩ := own_callV X70 hx hZ70 hown70 (hw _ (List.mem_of_getElem? (i := 41) rfl)) (hw _ (List.mem_of_getElem? (i := 42) rfl)) (notFace_of_selects (args := #[]) (mvT hZ70 (hw _ (List.mem_of_getElem? (i := 44) rfl)))) (hw _ (List.mem_of_getElem? (i := 44) rfl)) (hw _ (List.mem_of_getElem? (i := 43) rfl)) (hw _ (List.mem_of_getElem? (i := 5) rfl)) (hw _ (List.mem_of_getElem? (i := 45) rfl)) (by decide) ((ex_w5_ELASTIC_IP hw hA).ext O70.2) (rm6_10 l Z a0 hw hA [] (w5_ELASTIC_IP Z) b69 T70.heap n0 O70 (fl3 hw hA)) (W := 0) (by decide) (by decide) [(.ref b69)] rfl (lenOf pd9 rfl) (Ls := #[.val (.int p0), .val (.int p1), .val (.int p2), .val (.ref (w5_ELASTIC_IP Z)), .val (.ref (w1_YEAR Z)), .val (.int (1 : Int32)), .val (.ref b69), .unset]) (by rw [hml]; rfl) (rest := []) (Nat.le_of_eq rfl) (hb hby at_52) rfl (by decide) (by decide)
        refine st71 _ ?_
        obtain ⟨rfl, N71q, e71⟩ := hQ71
        have N71 := Fr.app N70 N71q
        show own_Wp p e below _ T71 (mkF m 55 #[.val (.int p0), .val (.int p1), .val (.int p2), .val (.ref (w5_ELASTIC_IP Z)), .val (.ref (w1_YEAR Z)), .val (.int (1 : Int32)), .val (.ref b69), .unset] [(.ref (w6_renewal Z))])
        refine own_step (fun _ k => XS.astore X71.here hx rfl (hb hby at_55) rfl rfl (l' := #[.val (.int p0), .val (.int p1), .val (.int p2), .val (.ref (w5_ELASTIC_IP Z)), .val (.ref (w1_YEAR Z)), .val (.int (1 : Int32)), .val (.ref b69), .val (.ref (w6_renewal Z))]) rfl k) ?_
        show own_Wp p e below _ T71 (mkF m 57 #[.val (.int p0), .val (.int p1), .val (.int p2), .val (.ref (w5_ELASTIC_IP Z)), .val (.ref (w1_YEAR Z)), .val (.int (1 : Int32)), .val (.ref b69), .val (.ref (w6_renewal Z))] [])
        refine own_step (fun _ k => XS.aload X71.here hx rfl (hb hby at_57) rfl rfl k) ?_
        show own_Wp p e below _ T71 (mkF m 59 #[.val (.int p0), .val (.int p1), .val (.int p2), .val (.ref (w5_ELASTIC_IP Z)), .val (.ref (w1_YEAR Z)), .val (.int (1 : Int32)), .val (.ref b69), .val (.ref (w6_renewal Z))] [(.ref (w6_renewal Z))])
        refine own_step (fun _ k => XS.ifnonnullYes X71.here hx rfl (pc0 := 59) (pc' := 64) rfl (hb hby at_59) rfl (by decide) (by decide) k) ?_
        show own_Wp p e below _ T71 (mkF m 64 #[.val (.int p0), .val (.int p1), .val (.int p2), .val (.ref (w5_ELASTIC_IP Z)), .val (.ref (w1_YEAR Z)), .val (.int (1 : Int32)), .val (.ref b69), .val (.ref (w6_renewal Z))] [])
        refine own_step (fun _ k => XS.iloadN X71.here hx rfl (hb hby at_64) rfl k) ?_
        show own_Wp p e below _ T71 (mkF m 65 #[.val (.int p0), .val (.int p1), .val (.int p2), .val (.ref (w5_ELASTIC_IP Z)), .val (.ref (w1_YEAR Z)), .val (.int (1 : Int32)), .val (.ref b69), .val (.ref (w6_renewal Z))] [(.int p0)])
        refine own_step (fun _ k => XS.iconst X71.here hx rfl (hb hby at_65) k) ?_
        show own_Wp p e below _ T71 (mkF m 66 #[.val (.int p0), .val (.int p1), .val (.int p2), .val (.ref (w5_ELASTIC_IP Z)), .val (.ref (w1_YEAR Z)), .val (.int (1 : Int32)), .val (.ref b69), .val (.ref (w6_renewal Z))] [(.int (3 : Int32)), (.int p0)])
        refine own_step (fun _ k => XS.iand X71.here hx rfl (hb hby at_66) rfl k) ?_
        show own_Wp p e below _ T71 (mkF m 67 #[.val (.int p0), .val (.int p1), .val (.int p2), .val (.ref (w5_ELASTIC_IP Z)), .val (.ref (w1_YEAR Z)), .val (.int (1 : Int32)), .val (.ref b69), .val (.ref (w6_renewal Z))] [(.int (p0 &&& (3 : Int32)))])
        refine own_step (fun _ k => XS.iconst X71.here hx rfl (hb hby at_67) k) ?_
        show own_Wp p e below _ T71 (mkF m 68 #[.val (.int p0), .val (.int p1), .val (.int p2), .val (.ref (w5_ELASTIC_IP Z)), .val (.ref (w1_YEAR Z)), .val (.int (1 : Int32)), .val (.ref b69), .val (.ref (w6_renewal Z))] [(.int (2 : Int32)), (.int (p0 &&& (3 : Int32)))])
        refine own_step (fun _ k => XS.icmpNo X71.here hx rfl (hb hby at_68) rfl (teq hq1c_0).2 k) ?_
        show own_Wp p e below _ T71 (mkF m 71 #[.val (.int p0), .val (.int p1), .val (.int p2), .val (.ref (w5_ELASTIC_IP Z)), .val (.ref (w1_YEAR Z)), .val (.int (1 : Int32)), .val (.ref b69), .val (.ref (w6_renewal Z))] [])
        refine own_step (fun _ k => XS.aload X71.here hx rfl (hb hby at_71) rfl rfl k) ?_
        show own_Wp p e below _ T71 (mkF m 73 #[.val (.int p0), .val (.int p1), .val (.int p2), .val (.ref (w5_ELASTIC_IP Z)), .val (.ref (w1_YEAR Z)), .val (.int (1 : Int32)), .val (.ref b69), .val (.ref (w6_renewal Z))] [(.ref (w6_renewal Z))])
        obtain ⟨_, T72, L72, X72, hQ72, st72⟩ := own_callV X71 hx hZ70 hown70 (hw _ (List.mem_of_getElem? (i := 48) rfl)) (hw _ (List.mem_of_getElem? (i := 49) rfl)) (notFace_of_selects (args := #[]) (mvT hZ70 (hw _ (List.mem_of_getElem? (i := 51) rfl)))) (hw _ (List.mem_of_getElem? (i := 51) rfl)) (hw _ (List.mem_of_getElem? (i := 50) rfl)) (hw _ (List.mem_of_getElem? (i := 13) rfl)) (hw _ (List.mem_of_getElem? (i := 52) rfl)) (by decide) ((ex_w6_renewal hw hA).ext O70.2) (rm7_11 l Z a0 hw hA [] (w6_renewal Z) T70.heap n0 O70 (fl4 hw hA)) (W := 0) (by decide) (by decide) [] rfl (lenOf pd10 rfl) (Ls := #[.val (.int p0), .val (.int p1), .val (.int p2), .val (.ref (w5_ELASTIC_IP Z)), .val (.ref (w1_YEAR Z)), .val (.int (1 : Int32)), .val (.ref b69), .val (.ref (w6_renewal Z))]) (by rw [hml]; rfl) (rest := []) (Nat.le_of_eq rfl) (hb hby at_73) e71 (by decide) (by decide)
        refine st72 _ ?_
        obtain ⟨rfl, N72q, e72⟩ := hQ72
        have N72 := Fr.app N71 N72q
        show own_Wp p e below _ T72 (mkF m 76 #[.val (.int p0), .val (.int p1), .val (.int p2), .val (.ref (w5_ELASTIC_IP Z)), .val (.ref (w1_YEAR Z)), .val (.int (1 : Int32)), .val (.ref b69), .val (.ref (w6_renewal Z))] [(.ref (w3_MONTH Z))])
        obtain ⟨T73, X73, e73, st73⟩ := getS2 X72 hx hZ70 hown70 (host := "") (Or.inl (hw _ (List.mem_of_getElem? (i := 60) rfl))) Via.refl e72 ((st_w3_MONTH hw hA).ext O70.2) (g := (mkF m 76 #[.val (.int p0), .val (.int p1), .val (.int p2), .val (.ref (w5_ELASTIC_IP Z)), .val (.ref (w1_YEAR Z)), .val (.int (1 : Int32)), .val (.ref b69), .val (.ref (w6_renewal Z))] [(.ref (w3_MONTH Z))])) rfl (hb hby at_76)
        refine own_step st73 ?_
        show own_Wp p e below _ T73 (mkF m 79 #[.val (.int p0), .val (.int p1), .val (.int p2), .val (.ref (w5_ELASTIC_IP Z)), .val (.ref (w1_YEAR Z)), .val (.int (1 : Int32)), .val (.ref b69), .val (.ref (w6_renewal Z))] [(.ref (w3_MONTH Z)), (.ref (w3_MONTH Z))])
        refine own_step (fun _ k => Jvm.RoadKit.acmp (g := (mkF m 79 #[.val (.int p0), .val (.int p1), .val (.int p2), .val (.ref (w5_ELASTIC_IP Z)), .val (.ref (w1_YEAR Z)), .val (.int (1 : Int32)), .val (.ref b69), .val (.ref (w6_renewal Z))] [(.ref (w3_MONTH Z)), (.ref (w3_MONTH Z))])) X73 hx rfl rfl rfl (pc0 := 79) (pc' := 82) (same := true) rfl (hb hby at_79) rfl (decide_eq_true rfl) (by decide) (by decide) k) ?_
        show own_Wp p e below _ T73 (mkF m 82 #[.val (.int p0), .val (.int p1), .val (.int p2), .val (.ref (w5_ELASTIC_IP Z)), .val (.ref (w1_YEAR Z)), .val (.int (1 : Int32)), .val (.ref b69), .val (.ref (w6_renewal Z))] [])
        refine own_step (fun _ k => XS.aload X73.here hx rfl (hb hby at_82) rfl rfl k) ?_
        show own_Wp p e below _ T73 (mkF m 84 #[.val (.int p0), .val (.int p1), .val (.int p2), .val (.ref (w5_ELASTIC_IP Z)), .val (.ref (w1_YEAR Z)), .val (.int (1 : Int32)), .val (.ref b69), .val (.ref (w6_renewal Z))] [(.ref (w6_renewal Z))])
        obtain ⟨_, T74, L74, X74, hQ74, st74⟩ := own_callV X73 hx hZ70 hown70 (hw _ (List.mem_of_getElem? (i := 53) rfl)) (hw _ (List.mem_of_getElem? (i := 54) rfl)) (notFace_of_selects (args := #[]) (mvT hZ70 (hw _ (List.mem_of_getElem? (i := 56) rfl)))) (hw _ (List.mem_of_getElem? (i := 56) rfl)) (hw _ (List.mem_of_getElem? (i := 55) rfl)) (hw _ (List.mem_of_getElem? (i := 13) rfl)) (hw _ (List.mem_of_getElem? (i := 57) rfl)) (by decide) ((ex_w6_renewal hw hA).ext O70.2) (rm8_12 l Z a0 hw hA [] (w6_renewal Z) T70.heap n0 O70 (fl5 hw hA)) (W := 0) (by decide) (by decide) [] rfl (lenOf pd11 rfl) (Ls := #[.val (.int p0), .val (.int p1), .val (.int p2), .val (.ref (w5_ELASTIC_IP Z)), .val (.ref (w1_YEAR Z)), .val (.int (1 : Int32)), .val (.ref b69), .val (.ref (w6_renewal Z))]) (by rw [hml]; rfl) (rest := []) (Nat.le_of_eq rfl) (hb hby at_84) e73 (by decide) (by decide)
        refine st74 _ ?_
        obtain ⟨rfl, N74q, e74⟩ := hQ74
        have N74 := Fr.app N72 N74q
        show own_Wp p e below _ T74 (mkF m 87 #[.val (.int p0), .val (.int p1), .val (.int p2), .val (.ref (w5_ELASTIC_IP Z)), .val (.ref (w1_YEAR Z)), .val (.int (1 : Int32)), .val (.ref b69), .val (.ref (w6_renewal Z))] [(.int (1 : Int32))])
        refine own_step (fun _ k => XS.iconst X74.here hx rfl (hb hby at_87) k) ?_
        show own_Wp p e below _ T74 (mkF m 88 #[.val (.int p0), .val (.int p1), .val (.int p2), .val (.ref (w5_ELASTIC_IP Z)), .val (.ref (w1_YEAR Z)), .val (.int (1 : Int32)), .val (.ref b69), .val (.ref (w6_renewal Z))] [(.int (1 : Int32)), (.int (1 : Int32))])
        refine own_step (fun _ k => XS.icmpNo X74.here hx rfl (hb hby at_88) rfl (by decide) k) ?_
        show own_Wp p e below _ T74 (mkF m 91 #[.val (.int p0), .val (.int p1), .val (.int p2), .val (.ref (w5_ELASTIC_IP Z)), .val (.ref (w1_YEAR Z)), .val (.int (1 : Int32)), .val (.ref b69), .val (.ref (w6_renewal Z))] [])
        refine own_step (fun _ k => XS.iconst X74.here hx rfl (hb hby at_91) k) ?_
        show own_Wp p e below _ T74 (mkF m 92 #[.val (.int p0), .val (.int p1), .val (.int p2), .val (.ref (w5_ELASTIC_IP Z)), .val (.ref (w1_YEAR Z)), .val (.int (1 : Int32)), .val (.ref b69), .val (.ref (w6_renewal Z))] [(.int (1 : Int32))])
        refine own_step (fun _ k => XS.goto X74.here hx rfl (pc0 := 92) (pc' := 96) rfl (hb hby at_92) (by decide) (by decide) k) ?_
        show own_Wp p e below _ T74 (mkF m 96 #[.val (.int p0), .val (.int p1), .val (.int p2), .val (.ref (w5_ELASTIC_IP Z)), .val (.ref (w1_YEAR Z)), .val (.int (1 : Int32)), .val (.ref b69), .val (.ref (w6_renewal Z))] [(.int (1 : Int32))])
        exact own_retNW X74 hS70 (by rw [e74]; exact (Nat.le_refl _)) hx (t := .boolean) hret (by simp) hlk (hb hby at_96) (by decide) (by decide) ⟨rfl, N74⟩
      · skip
        refine own_step (fun _ k => XS.ifYes X67.here hx rfl (pc0 := 30) (pc' := 36) rfl (hb hby at_30) rfl ((if0 _ _).trans (feq hc68).2) (by decide) (by decide) k) ?_
        show own_Wp p e below _ T67 (mkF m 36 #[.val (.int p0), .val (.int p1), .val (.int p2), .val (.ref (w5_ELASTIC_IP Z)), .val (.ref (w1_YEAR Z)), .val (.int (p2 &&& (2147483647 : Int32))), .unset, .unset] [])
        have hpos : ¬ ((p2 &&& (2147483647 : Int32)) < (1 : Int32)) := own_pos hc68
        obtain ⟨T75, h75, X75, e75, E75, A75, D75, -, st75⟩ := newO X67 hx hZ hown (hw _ (List.mem_of_getElem? (i := 11) rfl)) (hw _ (List.mem_of_getElem? (i := 12) rfl)) (hw _ (List.mem_of_getElem? (i := 13) rfl)) e67 (g := (mkF m 36 #[.val (.int p0), .val (.int p1), .val (.int p2), .val (.ref (w5_ELASTIC_IP Z)), .val (.ref (w1_YEAR Z)), .val (.int (p2 &&& (2147483647 : Int32))), .unset, .unset] [])) rfl (hb hby at_36) (by decide) (by decide)
        obtain ⟨b75, z75⟩ : ∃ z, z = h0.size := ⟨_, rfl⟩
        rw [← z75] at A75 D75 st75
        refine own_step st75 ?_
        have g75 : n0 ≤ b75 := Nat.le_trans (O0.1 ▸ O0.2.1) (Nat.le_of_eq z75.symm)
        have y75 : h0.size ≤ b75 := Nat.le_trans (Nat.le_refl _) (Nat.le_of_eq z75.symm)
        have O75 := O0.ext E75
        have K75 : Keep h0 h75 [] := (Keep.refl h0 []).ext E75
        have F75_38 : Fld Z h75 b75 "com/example/meter_to_month/metertomonth/ledger/BillingPeriod" "unit" "Lcom/example/meter_to_month/metertomonth/ledger/BillingPeriod$Unit;" .null := D75 (Or.inr (hw _ (List.mem_of_getElem? (i := 38) rfl))) (ty := (.object "com/example/meter_to_month/metertomonth/ledger/BillingPeriod$Unit")) (by decide)
        have F75_40 : Fld Z h75 b75 "com/example/meter_to_month/metertomonth/ledger/BillingPeriod" "count" "I" (.int (0 : Int32)) := D75 (Or.inr (hw _ (List.mem_of_getElem? (i := 40) rfl))) (ty := .int) (by decide)
        show own_Wp p e below _ T75 (mkF m 39 #[.val (.int p0), .val (.int p1), .val (.int p2), .val (.ref (w5_ELASTIC_IP Z)), .val (.ref (w1_YEAR Z)), .val (.int (p2 &&& (2147483647 : Int32))), .unset, .unset] [(.ref b75)])
        refine own_step (fun _ k => XS.dup X75.here hx rfl (hb hby at_39) rfl rfl k) ?_
        show own_Wp p e below _ T75 (mkF m 40 #[.val (.int p0), .val (.int p1), .val (.int p2), .val (.ref (w5_ELASTIC_IP Z)), .val (.ref (w1_YEAR Z)), .val (.int (p2 &&& (2147483647 : Int32))), .unset, .unset] [(.ref b75), (.ref b75)])
        refine own_step (fun _ k => XS.aload X75.here hx rfl (hb hby at_40) rfl rfl k) ?_
        show own_Wp p e below _ T75 (mkF m 42 #[.val (.int p0), .val (.int p1), .val (.int p2), .val (.ref (w5_ELASTIC_IP Z)), .val (.ref (w1_YEAR Z)), .val (.int (p2 &&& (2147483647 : Int32))), .unset, .unset] [(.ref (w1_YEAR Z)), (.ref b75), (.ref b75)])
        refine own_step (fun _ k => XS.iload X75.here hx rfl (hb hby at_42) rfl k) ?_
        show own_Wp p e below _ T75 (mkF m 44 #[.val (.int p0), .val (.int p1), .val (.int p2), .val (.ref (w5_ELASTIC_IP Z)), .val (.ref (w1_YEAR Z)), .val (.int (p2 &&& (2147483647 : Int32))), .unset, .unset] [(.int (p2 &&& (2147483647 : Int32))), (.ref (w1_YEAR Z)), (.ref b75), (.ref b75)])
        obtain ⟨_, T76, L76, X76, hS76, hZ76, hown76, hQ76, st76⟩ := own_callNW X75 hx hZ hS0 (Nat.zero_le _) rfl hown (hw _ (List.mem_of_getElem? (i := 14) rfl)) (hw _ (List.mem_of_getElem? (i := 15) rfl)) (hw _ (List.mem_of_getElem? (i := 13) rfl)) (hw _ (List.mem_of_getElem? (i := 16) rfl)) (by decide) (rm2_7 l Z a0 hw hA [] b75 (w1_YEAR Z) (p2 &&& (2147483647 : Int32)) h75 n0 O75 A75 F75_38 F75_40 g75 hpos) (b := b75) (W := 1) (by decide) (by decide) [(.ref (w1_YEAR Z)), (.int (p2 &&& (2147483647 : Int32)))] rfl (lenOf pd7 rfl) (Ls := #[.val (.int p0), .val (.int p1), .val (.int p2), .val (.ref (w5_ELASTIC_IP Z)), .val (.ref (w1_YEAR Z)), .val (.int (p2 &&& (2147483647 : Int32))), .unset, .unset]) (by rw [hml]; rfl) (rest := [(.ref b75)]) (Nat.le_of_eq rfl) (hb hby at_44) e75 (by decide) (by decide)
        refine st76 _ ?_
        obtain ⟨rfl, N76q, K76q, F76_0, F76_1, F76_2⟩ := hQ76
        have N76 := Fr.app N1c N76q
        have O76 := O75.keep K76q (allS g75 all0)
        have K76 : Keep h0 T76.heap [] := Keep.trans K75 K76q (allS (Or.inr y75) all0)
        show own_Wp p e below _ T76 (mkF m 47 #[.val (.int p0), .val (.int p1), .val (.int p2), .val (.ref (w5_ELASTIC_IP Z)), .val (.ref (w1_YEAR Z)), .val (.int (p2 &&& (2147483647 : Int32))), .unset, .unset] [(.ref b75)])
        refine own_step (fun _ k => XS.astore X76.here hx rfl (hb hby at_47) rfl rfl (l' := #[.val (.int p0), .val (.int p1), .val (.int p2), .val (.ref (w5_ELASTIC_IP Z)), .val (.ref (w1_YEAR Z)), .val (.int (p2 &&& (2147483647 : Int32))), .val (.ref b75), .unset]) rfl k) ?_
        show own_Wp p e below _ T76 (mkF m 49 #[.val (.int p0), .val (.int p1), .val (.int p2), .val (.ref (w5_ELASTIC_IP Z)), .val (.ref (w1_YEAR Z)), .val (.int (p2 &&& (2147483647 : Int32))), .val (.ref b75), .unset] [])
        refine own_step (fun _ k => XS.aloadN X76.here hx rfl (hb hby at_49) rfl rfl k) ?_
        show own_Wp p e below _ T76 (mkF m 50 #[.val (.int p0), .val (.int p1), .val (.int p2), .val (.ref (w5_ELASTIC_IP Z)), .val (.ref (w1_YEAR Z)), .val (.int (p2 &&& (2147483647 : Int32))), .val (.ref b75), .unset] [(.ref (w5_ELASTIC_IP Z))])
        refine own_step (fun _ k => XS.aload X76.here hx rfl (hb hby at_50) rfl rfl k) ?_
        show own_Wp p e below _ T76 (mkF m 52 #[.val (.int p0), .val (.int p1), .val (.int p2), .val (.ref (w5_ELASTIC_IP Z)), .val (.ref (w1_YEAR Z)), .val (.int (p2 &&& (2147483647 : Int32))), .val (.ref b75), .unset] [(.ref b75), (.ref (w5_ELASTIC_IP Z))])
        obtain ⟨_, T77, L77, X77, hQ77, st77⟩ := own_callV X76 hx hZ76 hown76 (hw _ (List.mem_of_getElem? (i := 41) rfl)) (hw _ (List.mem_of_getElem? (i := 42) rfl)) (notFace_of_selects (args := #[]) (mvT hZ76 (hw _ (List.mem_of_getElem? (i := 44) rfl)))) (hw _ (List.mem_of_getElem? (i := 44) rfl)) (hw _ (List.mem_of_getElem? (i := 43) rfl)) (hw _ (List.mem_of_getElem? (i := 5) rfl)) (hw _ (List.mem_of_getElem? (i := 45) rfl)) (by decide) ((ex_w5_ELASTIC_IP hw hA).ext O76.2) (rm6_10 l Z a0 hw hA [] (w5_ELASTIC_IP Z) b75 T76.heap n0 O76 (fl3 hw hA)) (W := 0) (by decide) (by decide) [(.ref b75)] rfl (lenOf pd9 rfl) (Ls := #[.val (.int p0), .val (.int p1), .val (.int p2), .val (.ref (w5_ELASTIC_IP Z)), .val (.ref (w1_YEAR Z)), .val (.int (p2 &&& (2147483647 : Int32))), .val (.ref b75), .unset]) (by rw [hml]; rfl) (rest := []) (Nat.le_of_eq rfl) (hb hby at_52) rfl (by decide) (by decide)
        refine st77 _ ?_
        obtain ⟨rfl, N77q, e77⟩ := hQ77
        have N77 := Fr.app N76 N77q
        show own_Wp p e below _ T77 (mkF m 55 #[.val (.int p0), .val (.int p1), .val (.int p2), .val (.ref (w5_ELASTIC_IP Z)), .val (.ref (w1_YEAR Z)), .val (.int (p2 &&& (2147483647 : Int32))), .val (.ref b75), .unset] [(.ref (w6_renewal Z))])
        refine own_step (fun _ k => XS.astore X77.here hx rfl (hb hby at_55) rfl rfl (l' := #[.val (.int p0), .val (.int p1), .val (.int p2), .val (.ref (w5_ELASTIC_IP Z)), .val (.ref (w1_YEAR Z)), .val (.int (p2 &&& (2147483647 : Int32))), .val (.ref b75), .val (.ref (w6_renewal Z))]) rfl k) ?_
        show own_Wp p e below _ T77 (mkF m 57 #[.val (.int p0), .val (.int p1), .val (.int p2), .val (.ref (w5_ELASTIC_IP Z)), .val (.ref (w1_YEAR Z)), .val (.int (p2 &&& (2147483647 : Int32))), .val (.ref b75), .val (.ref (w6_renewal Z))] [])
        refine own_step (fun _ k => XS.aload X77.here hx rfl (hb hby at_57) rfl rfl k) ?_
        show own_Wp p e below _ T77 (mkF m 59 #[.val (.int p0), .val (.int p1), .val (.int p2), .val (.ref (w5_ELASTIC_IP Z)), .val (.ref (w1_YEAR Z)), .val (.int (p2 &&& (2147483647 : Int32))), .val (.ref b75), .val (.ref (w6_renewal Z))] [(.ref (w6_renewal Z))])
        refine own_step (fun _ k => XS.ifnonnullYes X77.here hx rfl (pc0 := 59) (pc' := 64) rfl (hb hby at_59) rfl (by decide) (by decide) k) ?_
        show own_Wp p e below _ T77 (mkF m 64 #[.val (.int p0), .val (.int p1), .val (.int p2), .val (.ref (w5_ELASTIC_IP Z)), .val (.ref (w1_YEAR Z)), .val (.int (p2 &&& (2147483647 : Int32))), .val (.ref b75), .val (.ref (w6_renewal Z))] [])
        refine own_step (fun _ k => XS.iloadN X77.here hx rfl (hb hby at_64) rfl k) ?_
        show own_Wp p e below _ T77 (mkF m 65 #[.val (.int p0), .val (.int p1), .val (.int p2), .val (.ref (w5_ELASTIC_IP Z)), .val (.ref (w1_YEAR Z)), .val (.int (p2 &&& (2147483647 : Int32))), .val (.ref b75), .val (.ref (w6_renewal Z))] [(.int p0)])
        refine own_step (fun _ k => XS.iconst X77.here hx rfl (hb hby at_65) k) ?_
        show own_Wp p e below _ T77 (mkF m 66 #[.val (.int p0), .val (.int p1), .val (.int p2), .val (.ref (w5_ELASTIC_IP Z)), .val (.ref (w1_YEAR Z)), .val (.int (p2 &&& (2147483647 : Int32))), .val (.ref b75), .val (.ref (w6_renewal Z))] [(.int (3 : Int32)), (.int p0)])
        refine own_step (fun _ k => XS.iand X77.here hx rfl (hb hby at_66) rfl k) ?_
        show own_Wp p e below _ T77 (mkF m 67 #[.val (.int p0), .val (.int p1), .val (.int p2), .val (.ref (w5_ELASTIC_IP Z)), .val (.ref (w1_YEAR Z)), .val (.int (p2 &&& (2147483647 : Int32))), .val (.ref b75), .val (.ref (w6_renewal Z))] [(.int (p0 &&& (3 : Int32)))])
        refine own_step (fun _ k => XS.iconst X77.here hx rfl (hb hby at_67) k) ?_
        show own_Wp p e below _ T77 (mkF m 68 #[.val (.int p0), .val (.int p1), .val (.int p2), .val (.ref (w5_ELASTIC_IP Z)), .val (.ref (w1_YEAR Z)), .val (.int (p2 &&& (2147483647 : Int32))), .val (.ref b75), .val (.ref (w6_renewal Z))] [(.int (2 : Int32)), (.int (p0 &&& (3 : Int32)))])
        refine own_step (fun _ k => XS.icmpNo X77.here hx rfl (hb hby at_68) rfl (teq hq1c_0).2 k) ?_
        show own_Wp p e below _ T77 (mkF m 71 #[.val (.int p0), .val (.int p1), .val (.int p2), .val (.ref (w5_ELASTIC_IP Z)), .val (.ref (w1_YEAR Z)), .val (.int (p2 &&& (2147483647 : Int32))), .val (.ref b75), .val (.ref (w6_renewal Z))] [])
        refine own_step (fun _ k => XS.aload X77.here hx rfl (hb hby at_71) rfl rfl k) ?_
        show own_Wp p e below _ T77 (mkF m 73 #[.val (.int p0), .val (.int p1), .val (.int p2), .val (.ref (w5_ELASTIC_IP Z)), .val (.ref (w1_YEAR Z)), .val (.int (p2 &&& (2147483647 : Int32))), .val (.ref b75), .val (.ref (w6_renewal Z))] [(.ref (w6_renewal Z))])
        obtain ⟨_, T78, L78, X78, hQ78, st78⟩ := own_callV X77 hx hZ76 hown76 (hw _ (List.mem_of_getElem? (i := 48) rfl)) (hw _ (List.mem_of_getElem? (i := 49) rfl)) (notFace_of_selects (args := #[]) (mvT hZ76 (hw _ (List.mem_of_getElem? (i := 51) rfl)))) (hw _ (List.mem_of_getElem? (i := 51) rfl)) (hw _ (List.mem_of_getElem? (i := 50) rfl)) (hw _ (List.mem_of_getElem? (i := 13) rfl)) (hw _ (List.mem_of_getElem? (i := 52) rfl)) (by decide) ((ex_w6_renewal hw hA).ext O76.2) (rm7_11 l Z a0 hw hA [] (w6_renewal Z) T76.heap n0 O76 (fl4 hw hA)) (W := 0) (by decide) (by decide) [] rfl (lenOf pd10 rfl) (Ls := #[.val (.int p0), .val (.int p1), .val (.int p2), .val (.ref (w5_ELASTIC_IP Z)), .val (.ref (w1_YEAR Z)), .val (.int (p2 &&& (2147483647 : Int32))), .val (.ref b75), .val (.ref (w6_renewal Z))]) (by rw [hml]; rfl) (rest := []) (Nat.le_of_eq rfl) (hb hby at_73) e77 (by decide) (by decide)
        refine st78 _ ?_
        obtain ⟨rfl, N78q, e78⟩ := hQ78
        have N78 := Fr.app N77 N78q
        show own_Wp p e below _ T78 (mkF m 76 #[.val (.int p0), .val (.int p1), .val (.int p2), .val (.ref (w5_ELASTIC_IP Z)), .val (.ref (w1_YEAR Z)), .val (.int (p2 &&& (2147483647 : Int32))), .val (.ref b75), .val (.ref (w6_renewal Z))] [(.ref (w3_MONTH Z))])
        obtain ⟨T79, X79, e79, st79⟩ := getS2 X78 hx hZ76 hown76 (host := "") (Or.inl (hw _ (List.mem_of_getElem? (i := 60) rfl))) Via.refl e78 ((st_w3_MONTH hw hA).ext O76.2) (g := (mkF m 76 #[.val (.int p0), .val (.int p1), .val (.int p2), .val (.ref (w5_ELASTIC_IP Z)), .val (.ref (w1_YEAR Z)), .val (.int (p2 &&& (2147483647 : Int32))), .val (.ref b75), .val (.ref (w6_renewal Z))] [(.ref (w3_MONTH Z))])) rfl (hb hby at_76)
        refine own_step st79 ?_
        show own_Wp p e below _ T79 (mkF m 79 #[.val (.int p0), .val (.int p1), .val (.int p2), .val (.ref (w5_ELASTIC_IP Z)), .val (.ref (w1_YEAR Z)), .val (.int (p2 &&& (2147483647 : Int32))), .val (.ref b75), .val (.ref (w6_renewal Z))] [(.ref (w3_MONTH Z)), (.ref (w3_MONTH Z))])
        refine own_step (fun _ k => Jvm.RoadKit.acmp (g := (mkF m 79 #[.val (.int p0), .val (.int p1), .val (.int p2), .val (.ref (w5_ELASTIC_IP Z)), .val (.ref (w1_YEAR Z)), .val (.int (p2 &&& (2147483647 : Int32))), .val (.ref b75), .val (.ref (w6_renewal Z))] [(.ref (w3_MONTH Z)), (.ref (w3_MONTH Z))])) X79 hx rfl rfl rfl (pc0 := 79) (pc' := 82) (same := true) rfl (hb hby at_79) rfl (decide_eq_true rfl) (by decide) (by decide) k) ?_
        show own_Wp p e below _ T79 (mkF m 82 #[.val (.int p0), .val (.int p1), .val (.int p2), .val (.ref (w5_ELASTIC_IP Z)), .val (.ref (w1_YEAR Z)), .val (.int (p2 &&& (2147483647 : Int32))), .val (.ref b75), .val (.ref (w6_renewal Z))] [])
        refine own_step (fun _ k => XS.aload X79.here hx rfl (hb hby at_82) rfl rfl k) ?_
        show own_Wp p e below _ T79 (mkF m 84 #[.val (.int p0), .val (.int p1), .val (.int p2), .val (.ref (w5_ELASTIC_IP Z)), .val (.ref (w1_YEAR Z)), .val (.int (p2 &&& (2147483647 : Int32))), .val (.ref b75), .val (.ref (w6_renewal Z))] [(.ref (w6_renewal Z))])
        obtain ⟨_, T80, L80, X80, hQ80, st80⟩ := own_callV X79 hx hZ76 hown76 (hw _ (List.mem_of_getElem? (i := 53) rfl)) (hw _ (List.mem_of_getElem? (i := 54) rfl)) (notFace_of_selects (args := #[]) (mvT hZ76 (hw _ (List.mem_of_getElem? (i := 56) rfl)))) (hw _ (List.mem_of_getElem? (i := 56) rfl)) (hw _ (List.mem_of_getElem? (i := 55) rfl)) (hw _ (List.mem_of_getElem? (i := 13) rfl)) (hw _ (List.mem_of_getElem? (i := 57) rfl)) (by decide) ((ex_w6_renewal hw hA).ext O76.2) (rm8_12 l Z a0 hw hA [] (w6_renewal Z) T76.heap n0 O76 (fl5 hw hA)) (W := 0) (by decide) (by decide) [] rfl (lenOf pd11 rfl) (Ls := #[.val (.int p0), .val (.int p1), .val (.int p2), .val (.ref (w5_ELASTIC_IP Z)), .val (.ref (w1_YEAR Z)), .val (.int (p2 &&& (2147483647 : Int32))), .val (.ref b75), .val (.ref (w6_renewal Z))]) (by rw [hml]; rfl) (rest := []) (Nat.le_of_eq rfl) (hb hby at_84) e79 (by decide) (by decide)
        refine st80 _ ?_
        obtain ⟨rfl, N80q, e80⟩ := hQ80
        have N80 := Fr.app N78 N80q
        show own_Wp p e below _ T80 (mkF m 87 #[.val (.int p0), .val (.int p1), .val (.int p2), .val (.ref (w5_ELASTIC_IP Z)), .val (.ref (w1_YEAR Z)), .val (.int (p2 &&& (2147483647 : Int32))), .val (.ref b75), .val (.ref (w6_renewal Z))] [(.int (1 : Int32))])
        refine own_step (fun _ k => XS.iconst X80.here hx rfl (hb hby at_87) k) ?_
        show own_Wp p e below _ T80 (mkF m 88 #[.val (.int p0), .val (.int p1), .val (.int p2), .val (.ref (w5_ELASTIC_IP Z)), .val (.ref (w1_YEAR Z)), .val (.int (p2 &&& (2147483647 : Int32))), .val (.ref b75), .val (.ref (w6_renewal Z))] [(.int (1 : Int32)), (.int (1 : Int32))])
        refine own_step (fun _ k => XS.icmpNo X80.here hx rfl (hb hby at_88) rfl (by decide) k) ?_
        show own_Wp p e below _ T80 (mkF m 91 #[.val (.int p0), .val (.int p1), .val (.int p2), .val (.ref (w5_ELASTIC_IP Z)), .val (.ref (w1_YEAR Z)), .val (.int (p2 &&& (2147483647 : Int32))), .val (.ref b75), .val (.ref (w6_renewal Z))] [])
        refine own_step (fun _ k => XS.iconst X80.here hx rfl (hb hby at_91) k) ?_
        show own_Wp p e below _ T80 (mkF m 92 #[.val (.int p0), .val (.int p1), .val (.int p2), .val (.ref (w5_ELASTIC_IP Z)), .val (.ref (w1_YEAR Z)), .val (.int (p2 &&& (2147483647 : Int32))), .val (.ref b75), .val (.ref (w6_renewal Z))] [(.int (1 : Int32))])
        refine own_step (fun _ k => XS.goto X80.here hx rfl (pc0 := 92) (pc' := 96) rfl (hb hby at_92) (by decide) (by decide) k) ?_
        show own_Wp p e below _ T80 (mkF m 96 #[.val (.int p0), .val (.int p1), .val (.int p2), .val (.ref (w5_ELASTIC_IP Z)), .val (.ref (w1_YEAR Z)), .val (.int (p2 &&& (2147483647 : Int32))), .val (.ref b75), .val (.ref (w6_renewal Z))] [(.int (1 : Int32))])
        exact own_retNW X80 hS76 (by rw [e80]; exact (Nat.le_refl _)) hx (t := .boolean) hret (by simp) hlk (hb hby at_96) (by decide) (by decide) ⟨rfl, N80⟩
  · skip
    have N1d := Fr.app (Fr.nil n0) N1dq
    show own_Wp p e below _ T1 (mkF m 4 #[.val (.int p0), .val (.int p1), .val (.int p2), .unset, .unset, .unset, .unset, .unset] [(.ref (w4_BACKUP_VAULT Z))])
    refine own_step (fun _ k => XS.astoreN X1.here hx rfl (hb hby at_4) rfl rfl (l' := #[.val (.int p0), .val (.int p1), .val (.int p2), .val (.ref (w4_BACKUP_VAULT Z)), .unset, .unset, .unset, .unset]) rfl k) ?_
    show own_Wp p e below _ T1 (mkF m 5 #[.val (.int p0), .val (.int p1), .val (.int p2), .val (.ref (w4_BACKUP_VAULT Z)), .unset, .unset, .unset, .unset] [])
    refine own_step (fun _ k => XS.iloadN X1.here hx rfl (hb hby at_5) rfl k) ?_
    show own_Wp p e below _ T1 (mkF m 6 #[.val (.int p0), .val (.int p1), .val (.int p2), .val (.ref (w4_BACKUP_VAULT Z)), .unset, .unset, .unset, .unset] [(.int p1)])
    refine own_step (fun _ k => XS.iconst X1.here hx rfl (hb hby at_6) k) ?_
    show own_Wp p e below _ T1 (mkF m 7 #[.val (.int p0), .val (.int p1), .val (.int p2), .val (.ref (w4_BACKUP_VAULT Z)), .unset, .unset, .unset, .unset] [(.int (1 : Int32)), (.int p1)])
    refine own_step (fun _ k => XS.iand X1.here hx rfl (hb hby at_7) rfl k) ?_
    show own_Wp p e below _ T1 (mkF m 8 #[.val (.int p0), .val (.int p1), .val (.int p2), .val (.ref (w4_BACKUP_VAULT Z)), .unset, .unset, .unset, .unset] [(.int (p1 &&& (1 : Int32)))])
    by_cases hc81 : (p1 &&& (1 : Int32)) = (0 : Int32)
    · skip
      refine own_step (fun _ k => XS.ifYes X1.here hx rfl (pc0 := 8) (pc' := 17) rfl (hb hby at_8) rfl ((if0 _ _).trans (teq hc81).1) (by decide) (by decide) k) ?_
      show own_Wp p e below _ T1 (mkF m 17 #[.val (.int p0), .val (.int p1), .val (.int p2), .val (.ref (w4_BACKUP_VAULT Z)), .unset, .unset, .unset, .unset] [])
      obtain ⟨T82, X82, e82, st82⟩ := getS2 X1 hx hZ hown (host := "") (Or.inl (hw _ (List.mem_of_getElem? (i := 60) rfl))) Via.refl e1d ((st_w3_MONTH hw hA).ext O0.2) (g := (mkF m 17 #[.val (.int p0), .val (.int p1), .val (.int p2), .val (.ref (w4_BACKUP_VAULT Z)), .unset, .unset, .unset, .unset] [])) rfl (hb hby at_17)
      refine own_step st82 ?_
      show own_Wp p e below _ T82 (mkF m 20 #[.val (.int p0), .val (.int p1), .val (.int p2), .val (.ref (w4_BACKUP_VAULT Z)), .unset, .unset, .unset, .unset] [(.ref (w3_MONTH Z))])
      refine own_step (fun _ k => XS.astore X82.here hx rfl (hb hby at_20) rfl rfl (l' := #[.val (.int p0), .val (.int p1), .val (.int p2), .val (.ref (w4_BACKUP_VAULT Z)), .val (.ref (w3_MONTH Z)), .unset, .unset, .unset]) rfl k) ?_
      show own_Wp p e below _ T82 (mkF m 22 #[.val (.int p0), .val (.int p1), .val (.int p2), .val (.ref (w4_BACKUP_VAULT Z)), .val (.ref (w3_MONTH Z)), .unset, .unset, .unset] [])
      refine own_step (fun _ k => XS.iloadN X82.here hx rfl (hb hby at_22) rfl k) ?_
      show own_Wp p e below _ T82 (mkF m 23 #[.val (.int p0), .val (.int p1), .val (.int p2), .val (.ref (w4_BACKUP_VAULT Z)), .val (.ref (w3_MONTH Z)), .unset, .unset, .unset] [(.int p2)])
      refine own_step (X82.ldcInt hx hown (mvT hZ (hw _ (List.mem_of_getElem? (i := 10) rfl))) (g := (mkF m 23 #[.val (.int p0), .val (.int p1), .val (.int p2), .val (.ref (w4_BACKUP_VAULT Z)), .val (.ref (w3_MONTH Z)), .unset, .unset, .unset] [(.int p2)])) rfl (hb hby at_23)) ?_
      show own_Wp p e below _ T82 (mkF m 25 #[.val (.int p0), .val (.int p1), .val (.int p2), .val (.ref (w4_BACKUP_VAULT Z)), .val (.ref (w3_MONTH Z)), .unset, .unset, .unset] [(.int (2147483647 : Int32)), (.int p2)])
      refine own_step (fun _ k => XS.iand X82.here hx rfl (hb hby at_25) rfl k) ?_
      show own_Wp p e below _ T82 (mkF m 26 #[.val (.int p0), .val (.int p1), .val (.int p2), .val (.ref (w4_BACKUP_VAULT Z)), .val (.ref (w3_MONTH Z)), .unset, .unset, .unset] [(.int (p2 &&& (2147483647 : Int32)))])
      refine own_step (fun _ k => XS.istore X82.here hx rfl (hb hby at_26) rfl (l' := #[.val (.int p0), .val (.int p1), .val (.int p2), .val (.ref (w4_BACKUP_VAULT Z)), .val (.ref (w3_MONTH Z)), .val (.int (p2 &&& (2147483647 : Int32))), .unset, .unset]) rfl k) ?_
      show own_Wp p e below _ T82 (mkF m 28 #[.val (.int p0), .val (.int p1), .val (.int p2), .val (.ref (w4_BACKUP_VAULT Z)), .val (.ref (w3_MONTH Z)), .val (.int (p2 &&& (2147483647 : Int32))), .unset, .unset] [])
      refine own_step (fun _ k => XS.iload X82.here hx rfl (hb hby at_28) rfl k) ?_
      show own_Wp p e below _ T82 (mkF m 30 #[.val (.int p0), .val (.int p1), .val (.int p2), .val (.ref (w4_BACKUP_VAULT Z)), .val (.ref (w3_MONTH Z)), .val (.int (p2 &&& (2147483647 : Int32))), .unset, .unset] [(.int (p2 &&& (2147483647 : Int32)))])
      by_cases hc83 : (p2 &&& (2147483647 : Int32)) = (0 : Int32)
      · skip
        refine own_step (fun _ k => XS.ifNo X82.here hx rfl (hb hby at_30) rfl ((if0 _ _).trans (teq hc83).2) k) ?_
        show own_Wp p e below _ T82 (mkF m 33 #[.val (.int p0), .val (.int p1), .val (.int p2), .val (.ref (w4_BACKUP_VAULT Z)), .val (.ref (w3_MONTH Z)), .val (.int (p2 &&& (2147483647 : Int32))), .unset, .unset] [])
        refine own_step (fun _ k => XS.iconst X82.here hx rfl (hb hby at_33) k) ?_
        show own_Wp p e below _ T82 (mkF m 34 #[.val (.int p0), .val (.int p1), .val (.int p2), .val (.ref (w4_BACKUP_VAULT Z)), .val (.ref (w3_MONTH Z)), .val (.int (p2 &&& (2147483647 : Int32))), .unset, .unset] [(.int (1 : Int32))])
        refine own_step (fun _ k => XS.istore X82.here hx rfl (hb hby at_34) rfl (l' := #[.val (.int p0), .val (.int p1), .val (.int p2), .val (.ref (w4_BACKUP_VAULT Z)), .val (.ref (w3_MONTH Z)), .val (.int (1 : Int32)), .unset, .unset]) rfl k) ?_
        show own_Wp p e below _ T82 (mkF m 36 #[.val (.int p0), .val (.int p1), .val (.int p2), .val (.ref (w4_BACKUP_VAULT Z)), .val (.ref (w3_MONTH Z)), .val (.int (1 : Int32)), .unset, .unset] [])
        obtain ⟨T84, h84, X84, e84, E84, A84, D84, -, st84⟩ := newO X82 hx hZ hown (hw _ (List.mem_of_getElem? (i := 11) rfl)) (hw _ (List.mem_of_getElem? (i := 12) rfl)) (hw _ (List.mem_of_getElem? (i := 13) rfl)) e82 (g := (mkF m 36 #[.val (.int p0), .val (.int p1), .val (.int p2), .val (.ref (w4_BACKUP_VAULT Z)), .val (.ref (w3_MONTH Z)), .val (.int (1 : Int32)), .unset, .unset] [])) rfl (hb hby at_36) (by decide) (by decide)
        obtain ⟨b84, z84⟩ : ∃ z, z = h0.size := ⟨_, rfl⟩
        rw [← z84] at A84 D84 st84
        refine own_step st84 ?_
        have g84 : n0 ≤ b84 := Nat.le_trans (O0.1 ▸ O0.2.1) (Nat.le_of_eq z84.symm)
        have y84 : h0.size ≤ b84 := Nat.le_trans (Nat.le_refl _) (Nat.le_of_eq z84.symm)
        have O84 := O0.ext E84
        have K84 : Keep h0 h84 [] := (Keep.refl h0 []).ext E84
        have F84_38 : Fld Z h84 b84 "com/example/meter_to_month/metertomonth/ledger/BillingPeriod" "unit" "Lcom/example/meter_to_month/metertomonth/ledger/BillingPeriod$Unit;" .null := D84 (Or.inr (hw _ (List.mem_of_getElem? (i := 38) rfl))) (ty := (.object "com/example/meter_to_month/metertomonth/ledger/BillingPeriod$Unit")) (by decide)
        have F84_40 : Fld Z h84 b84 "com/example/meter_to_month/metertomonth/ledger/BillingPeriod" "count" "I" (.int (0 : Int32)) := D84 (Or.inr (hw _ (List.mem_of_getElem? (i := 40) rfl))) (ty := .int) (by decide)
        show own_Wp p e below _ T84 (mkF m 39 #[.val (.int p0), .val (.int p1), .val (.int p2), .val (.ref (w4_BACKUP_VAULT Z)), .val (.ref (w3_MONTH Z)), .val (.int (1 : Int32)), .unset, .unset] [(.ref b84)])
        refine own_step (fun _ k => XS.dup X84.here hx rfl (hb hby at_39) rfl rfl k) ?_
        show own_Wp p e below _ T84 (mkF m 40 #[.val (.int p0), .val (.int p1), .val (.int p2), .val (.ref (w4_BACKUP_VAULT Z)), .val (.ref (w3_MONTH Z)), .val (.int (1 : Int32)), .unset, .unset] [(.ref b84), (.ref b84)])
        refine own_step (fun _ k => XS.aload X84.here hx rfl (hb hby at_40) rfl rfl k) ?_
        show own_Wp p e below _ T84 (mkF m 42 #[.val (.int p0), .val (.int p1), .val (.int p2), .val (.ref (w4_BACKUP_VAULT Z)), .val (.ref (w3_MONTH Z)), .val (.int (1 : Int32)), .unset, .unset] [(.ref (w3_MONTH Z)), (.ref b84), (.ref b84)])
        refine own_step (fun _ k => XS.iload X84.here hx rfl (hb hby at_42) rfl k) ?_
        show own_Wp p e below _ T84 (mkF m 44 #[.val (.int p0), .val (.int p1), .val (.int p2), .val (.ref (w4_BACKUP_VAULT Z)), .val (.ref (w3_MONTH Z)), .val (.int (1 : Int32)), .unset, .unset] [(.int (1 : Int32)), (.ref (w3_MONTH Z)), (.ref b84), (.ref b84)])
        obtain ⟨_, T85, L85, X85, hS85, hZ85, hown85, hQ85, st85⟩ := own_callNW X84 hx hZ hS0 (Nat.zero_le _) rfl hown (hw _ (List.mem_of_getElem? (i := 14) rfl)) (hw _ (List.mem_of_getElem? (i := 15) rfl)) (hw _ (List.mem_of_getElem? (i := 13) rfl)) (hw _ (List.mem_of_getElem? (i := 16) rfl)) (by decide) (rm2_3 l Z a0 hw hA [] b84 (w3_MONTH Z) h84 n0 O84 A84 F84_38 F84_40 g84) (b := b84) (W := 1) (by decide) (by decide) [(.ref (w3_MONTH Z)), (.int (1 : Int32))] rfl (lenOf pd7 rfl) (Ls := #[.val (.int p0), .val (.int p1), .val (.int p2), .val (.ref (w4_BACKUP_VAULT Z)), .val (.ref (w3_MONTH Z)), .val (.int (1 : Int32)), .unset, .unset]) (by rw [hml]; rfl) (rest := [(.ref b84)]) (Nat.le_of_eq rfl) (hb hby at_44) e84 (by decide) (by decide)
        refine st85 _ ?_
        obtain ⟨rfl, N85q, K85q, F85_0, F85_1, F85_2⟩ := hQ85
        have N85 := Fr.app N1d N85q
        have O85 := O84.keep K85q (allS g84 all0)
        have K85 : Keep h0 T85.heap [] := Keep.trans K84 K85q (allS (Or.inr y84) all0)
        show own_Wp p e below _ T85 (mkF m 47 #[.val (.int p0), .val (.int p1), .val (.int p2), .val (.ref (w4_BACKUP_VAULT Z)), .val (.ref (w3_MONTH Z)), .val (.int (1 : Int32)), .unset, .unset] [(.ref b84)])
        refine own_step (fun _ k => XS.astore X85.here hx rfl (hb hby at_47) rfl rfl (l' := #[.val (.int p0), .val (.int p1), .val (.int p2), .val (.ref (w4_BACKUP_VAULT Z)), .val (.ref (w3_MONTH Z)), .val (.int (1 : Int32)), .val (.ref b84), .unset]) rfl k) ?_
        show own_Wp p e below _ T85 (mkF m 49 #[.val (.int p0), .val (.int p1), .val (.int p2), .val (.ref (w4_BACKUP_VAULT Z)), .val (.ref (w3_MONTH Z)), .val (.int (1 : Int32)), .val (.ref b84), .unset] [])
        refine own_step (fun _ k => XS.aloadN X85.here hx rfl (hb hby at_49) rfl rfl k) ?_
        show own_Wp p e below _ T85 (mkF m 50 #[.val (.int p0), .val (.int p1), .val (.int p2), .val (.ref (w4_BACKUP_VAULT Z)), .val (.ref (w3_MONTH Z)), .val (.int (1 : Int32)), .val (.ref b84), .unset] [(.ref (w4_BACKUP_VAULT Z))])
        refine own_step (fun _ k => XS.aload X85.here hx rfl (hb hby at_50) rfl rfl k) ?_
        show own_Wp p e below _ T85 (mkF m 52 #[.val (.int p0), .val (.int p1), .val (.int p2), .val (.ref (w4_BACKUP_VAULT Z)), .val (.ref (w3_MONTH Z)), .val (.int (1 : Int32)), .val (.ref b84), .unset] [(.ref b84), (.ref (w4_BACKUP_VAULT Z))])
        obtain ⟨_, T86, L86, X86, hQ86, st86⟩ := own_callV X85 hx hZ85 hown85 (hw _ (List.mem_of_getElem? (i := 41) rfl)) (hw _ (List.mem_of_getElem? (i := 42) rfl)) (notFace_of_selects (args := #[]) (mvT hZ85 (hw _ (List.mem_of_getElem? (i := 44) rfl)))) (hw _ (List.mem_of_getElem? (i := 44) rfl)) (hw _ (List.mem_of_getElem? (i := 43) rfl)) (hw _ (List.mem_of_getElem? (i := 5) rfl)) (hw _ (List.mem_of_getElem? (i := 45) rfl)) (by decide) ((ex_w4_BACKUP_VAULT hw hA).ext O85.2) (rm6_4 l Z a0 hw hA [] (w4_BACKUP_VAULT Z) b84 T85.heap n0 O85 (fl2 hw hA)) (W := 0) (by decide) (by decide) [(.ref b84)] rfl (lenOf pd9 rfl) (Ls := #[.val (.int p0), .val (.int p1), .val (.int p2), .val (.ref (w4_BACKUP_VAULT Z)), .val (.ref (w3_MONTH Z)), .val (.int (1 : Int32)), .val (.ref b84), .unset]) (by rw [hml]; rfl) (rest := []) (Nat.le_of_eq rfl) (hb hby at_52) rfl (by decide) (by decide)
        refine st86 _ ?_
        obtain ⟨rfl, N86q, e86⟩ := hQ86
        have N86 := Fr.app N85 N86q
        show own_Wp p e below _ T86 (mkF m 55 #[.val (.int p0), .val (.int p1), .val (.int p2), .val (.ref (w4_BACKUP_VAULT Z)), .val (.ref (w3_MONTH Z)), .val (.int (1 : Int32)), .val (.ref b84), .unset] [(.ref b84)])
        refine own_step (fun _ k => XS.astore X86.here hx rfl (hb hby at_55) rfl rfl (l' := #[.val (.int p0), .val (.int p1), .val (.int p2), .val (.ref (w4_BACKUP_VAULT Z)), .val (.ref (w3_MONTH Z)), .val (.int (1 : Int32)), .val (.ref b84), .val (.ref b84)]) rfl k) ?_
        show own_Wp p e below _ T86 (mkF m 57 #[.val (.int p0), .val (.int p1), .val (.int p2), .val (.ref (w4_BACKUP_VAULT Z)), .val (.ref (w3_MONTH Z)), .val (.int (1 : Int32)), .val (.ref b84), .val (.ref b84)] [])
        refine own_step (fun _ k => XS.aload X86.here hx rfl (hb hby at_57) rfl rfl k) ?_
        show own_Wp p e below _ T86 (mkF m 59 #[.val (.int p0), .val (.int p1), .val (.int p2), .val (.ref (w4_BACKUP_VAULT Z)), .val (.ref (w3_MONTH Z)), .val (.int (1 : Int32)), .val (.ref b84), .val (.ref b84)] [(.ref b84)])
        refine own_step (fun _ k => XS.ifnonnullYes X86.here hx rfl (pc0 := 59) (pc' := 64) rfl (hb hby at_59) rfl (by decide) (by decide) k) ?_
        show own_Wp p e below _ T86 (mkF m 64 #[.val (.int p0), .val (.int p1), .val (.int p2), .val (.ref (w4_BACKUP_VAULT Z)), .val (.ref (w3_MONTH Z)), .val (.int (1 : Int32)), .val (.ref b84), .val (.ref b84)] [])
        refine own_step (fun _ k => XS.iloadN X86.here hx rfl (hb hby at_64) rfl k) ?_
        show own_Wp p e below _ T86 (mkF m 65 #[.val (.int p0), .val (.int p1), .val (.int p2), .val (.ref (w4_BACKUP_VAULT Z)), .val (.ref (w3_MONTH Z)), .val (.int (1 : Int32)), .val (.ref b84), .val (.ref b84)] [(.int p0)])
        refine own_step (fun _ k => XS.iconst X86.here hx rfl (hb hby at_65) k) ?_
        show own_Wp p e below _ T86 (mkF m 66 #[.val (.int p0), .val (.int p1), .val (.int p2), .val (.ref (w4_BACKUP_VAULT Z)), .val (.ref (w3_MONTH Z)), .val (.int (1 : Int32)), .val (.ref b84), .val (.ref b84)] [(.int (3 : Int32)), (.int p0)])
        refine own_step (fun _ k => XS.iand X86.here hx rfl (hb hby at_66) rfl k) ?_
        show own_Wp p e below _ T86 (mkF m 67 #[.val (.int p0), .val (.int p1), .val (.int p2), .val (.ref (w4_BACKUP_VAULT Z)), .val (.ref (w3_MONTH Z)), .val (.int (1 : Int32)), .val (.ref b84), .val (.ref b84)] [(.int (p0 &&& (3 : Int32)))])
        refine own_step (fun _ k => XS.iconst X86.here hx rfl (hb hby at_67) k) ?_
        show own_Wp p e below _ T86 (mkF m 68 #[.val (.int p0), .val (.int p1), .val (.int p2), .val (.ref (w4_BACKUP_VAULT Z)), .val (.ref (w3_MONTH Z)), .val (.int (1 : Int32)), .val (.ref b84), .val (.ref b84)] [(.int (2 : Int32)), (.int (p0 &&& (3 : Int32)))])
        refine own_step (fun _ k => XS.icmpYes X86.here hx rfl (pc0 := 68) (pc' := 97) rfl (hb hby at_68) rfl (feq (by rw [hq1d_0]; decide)).2 (by decide) (by decide) k) ?_
        show own_Wp p e below _ T86 (mkF m 97 #[.val (.int p0), .val (.int p1), .val (.int p2), .val (.ref (w4_BACKUP_VAULT Z)), .val (.ref (w3_MONTH Z)), .val (.int (1 : Int32)), .val (.ref b84), .val (.ref b84)] [])
        refine own_step (fun _ k => XS.aload X86.here hx rfl (hb hby at_97) rfl rfl k) ?_
        show own_Wp p e below _ T86 (mkF m 99 #[.val (.int p0), .val (.int p1), .val (.int p2), .val (.ref (w4_BACKUP_VAULT Z)), .val (.ref (w3_MONTH Z)), .val (.int (1 : Int32)), .val (.ref b84), .val (.ref b84)] [(.ref b84)])
        obtain ⟨_, T87, L87, X87, hQ87, st87⟩ := own_callV X86 hx hZ85 hown85 (hw _ (List.mem_of_getElem? (i := 48) rfl)) (hw _ (List.mem_of_getElem? (i := 49) rfl)) (notFace_of_selects (args := #[]) (mvT hZ85 (hw _ (List.mem_of_getElem? (i := 51) rfl)))) (hw _ (List.mem_of_getElem? (i := 51) rfl)) (hw _ (List.mem_of_getElem? (i := 50) rfl)) (hw _ (List.mem_of_getElem? (i := 13) rfl)) (hw _ (List.mem_of_getElem? (i := 52) rfl)) (by decide) F85_0 (rm7_5 l Z a0 hw hA [] b84 T85.heap n0 O85 F85_1) (W := 0) (by decide) (by decide) [] rfl (lenOf pd10 rfl) (Ls := #[.val (.int p0), .val (.int p1), .val (.int p2), .val (.ref (w4_BACKUP_VAULT Z)), .val (.ref (w3_MONTH Z)), .val (.int (1 : Int32)), .val (.ref b84), .val (.ref b84)]) (by rw [hml]; rfl) (rest := []) (Nat.le_of_eq rfl) (hb hby at_99) e86 (by decide) (by decide)
        refine st87 _ ?_
        obtain ⟨rfl, N87q, e87⟩ := hQ87
        have N87 := Fr.app N86 N87q
        show own_Wp p e below _ T87 (mkF m 102 #[.val (.int p0), .val (.int p1), .val (.int p2), .val (.ref (w4_BACKUP_VAULT Z)), .val (.ref (w3_MONTH Z)), .val (.int (1 : Int32)), .val (.ref b84), .val (.ref b84)] [(.ref (w3_MONTH Z))])
        refine own_step (fun _ k => XS.aload X87.here hx rfl (hb hby at_102) rfl rfl k) ?_
        show own_Wp p e below _ T87 (mkF m 104 #[.val (.int p0), .val (.int p1), .val (.int p2), .val (.ref (w4_BACKUP_VAULT Z)), .val (.ref (w3_MONTH Z)), .val (.int (1 : Int32)), .val (.ref b84), .val (.ref b84)] [(.ref (w3_MONTH Z)), (.ref (w3_MONTH Z))])
        refine own_step (fun _ k => Jvm.RoadKit.acmp (g := (mkF m 104 #[.val (.int p0), .val (.int p1), .val (.int p2), .val (.ref (w4_BACKUP_VAULT Z)), .val (.ref (w3_MONTH Z)), .val (.int (1 : Int32)), .val (.ref b84), .val (.ref b84)] [(.ref (w3_MONTH Z)), (.ref (w3_MONTH Z))])) X87 hx rfl rfl rfl (pc0 := 104) (pc' := 107) (same := true) rfl (hb hby at_104) rfl (decide_eq_true rfl) (by decide) (by decide) k) ?_
        show own_Wp p e below _ T87 (mkF m 107 #[.val (.int p0), .val (.int p1), .val (.int p2), .val (.ref (w4_BACKUP_VAULT Z)), .val (.ref (w3_MONTH Z)), .val (.int (1 : Int32)), .val (.ref b84), .val (.ref b84)] [])
        refine own_step (fun _ k => XS.aload X87.here hx rfl (hb hby at_107) rfl rfl k) ?_
        show own_Wp p e below _ T87 (mkF m 109 #[.val (.int p0), .val (.int p1), .val (.int p2), .val (.ref (w4_BACKUP_VAULT Z)), .val (.ref (w3_MONTH Z)), .val (.int (1 : Int32)), .val (.ref b84), .val (.ref b84)] [(.ref b84)])
        obtain ⟨_, T88, L88, X88, hQ88, st88⟩ := own_callV X87 hx hZ85 hown85 (hw _ (List.mem_of_getElem? (i := 53) rfl)) (hw _ (List.mem_of_getElem? (i := 54) rfl)) (notFace_of_selects (args := #[]) (mvT hZ85 (hw _ (List.mem_of_getElem? (i := 56) rfl)))) (hw _ (List.mem_of_getElem? (i := 56) rfl)) (hw _ (List.mem_of_getElem? (i := 55) rfl)) (hw _ (List.mem_of_getElem? (i := 13) rfl)) (hw _ (List.mem_of_getElem? (i := 57) rfl)) (by decide) F85_0 (rm8_6 l Z a0 hw hA [] b84 T85.heap n0 O85 F85_2) (W := 0) (by decide) (by decide) [] rfl (lenOf pd11 rfl) (Ls := #[.val (.int p0), .val (.int p1), .val (.int p2), .val (.ref (w4_BACKUP_VAULT Z)), .val (.ref (w3_MONTH Z)), .val (.int (1 : Int32)), .val (.ref b84), .val (.ref b84)]) (by rw [hml]; rfl) (rest := []) (Nat.le_of_eq rfl) (hb hby at_109) e87 (by decide) (by decide)
        refine st88 _ ?_
        obtain ⟨rfl, N88q, e88⟩ := hQ88
        have N88 := Fr.app N87 N88q
        show own_Wp p e below _ T88 (mkF m 112 #[.val (.int p0), .val (.int p1), .val (.int p2), .val (.ref (w4_BACKUP_VAULT Z)), .val (.ref (w3_MONTH Z)), .val (.int (1 : Int32)), .val (.ref b84), .val (.ref b84)] [(.int (1 : Int32))])
        refine own_step (fun _ k => XS.iload X88.here hx rfl (hb hby at_112) rfl k) ?_
        show own_Wp p e below _ T88 (mkF m 114 #[.val (.int p0), .val (.int p1), .val (.int p2), .val (.ref (w4_BACKUP_VAULT Z)), .val (.ref (w3_MONTH Z)), .val (.int (1 : Int32)), .val (.ref b84), .val (.ref b84)] [(.int (1 : Int32)), (.int (1 : Int32))])
        refine own_step (fun _ k => XS.icmpNo X88.here hx rfl (hb hby at_114) rfl (by decide) k) ?_
        show own_Wp p e below _ T88 (mkF m 117 #[.val (.int p0), .val (.int p1), .val (.int p2), .val (.ref (w4_BACKUP_VAULT Z)), .val (.ref (w3_MONTH Z)), .val (.int (1 : Int32)), .val (.ref b84), .val (.ref b84)] [])
        refine own_step (fun _ k => XS.iconst X88.here hx rfl (hb hby at_117) k) ?_
        show own_Wp p e below _ T88 (mkF m 118 #[.val (.int p0), .val (.int p1), .val (.int p2), .val (.ref (w4_BACKUP_VAULT Z)), .val (.ref (w3_MONTH Z)), .val (.int (1 : Int32)), .val (.ref b84), .val (.ref b84)] [(.int (1 : Int32))])
        refine own_step (fun _ k => XS.goto X88.here hx rfl (pc0 := 118) (pc' := 122) rfl (hb hby at_118) (by decide) (by decide) k) ?_
        show own_Wp p e below _ T88 (mkF m 122 #[.val (.int p0), .val (.int p1), .val (.int p2), .val (.ref (w4_BACKUP_VAULT Z)), .val (.ref (w3_MONTH Z)), .val (.int (1 : Int32)), .val (.ref b84), .val (.ref b84)] [(.int (1 : Int32))])
        exact own_retNW X88 hS85 (by rw [e88]; exact (Nat.le_refl _)) hx (t := .boolean) hret (by simp) hlk (hb hby at_122) (by decide) (by decide) ⟨rfl, N88⟩
      · skip
        refine own_step (fun _ k => XS.ifYes X82.here hx rfl (pc0 := 30) (pc' := 36) rfl (hb hby at_30) rfl ((if0 _ _).trans (feq hc83).2) (by decide) (by decide) k) ?_
        show own_Wp p e below _ T82 (mkF m 36 #[.val (.int p0), .val (.int p1), .val (.int p2), .val (.ref (w4_BACKUP_VAULT Z)), .val (.ref (w3_MONTH Z)), .val (.int (p2 &&& (2147483647 : Int32))), .unset, .unset] [])
        have hpos : ¬ ((p2 &&& (2147483647 : Int32)) < (1 : Int32)) := own_pos hc83
        obtain ⟨T89, h89, X89, e89, E89, A89, D89, -, st89⟩ := newO X82 hx hZ hown (hw _ (List.mem_of_getElem? (i := 11) rfl)) (hw _ (List.mem_of_getElem? (i := 12) rfl)) (hw _ (List.mem_of_getElem? (i := 13) rfl)) e82 (g := (mkF m 36 #[.val (.int p0), .val (.int p1), .val (.int p2), .val (.ref (w4_BACKUP_VAULT Z)), .val (.ref (w3_MONTH Z)), .val (.int (p2 &&& (2147483647 : Int32))), .unset, .unset] [])) rfl (hb hby at_36) (by decide) (by decide)
        obtain ⟨b89, z89⟩ : ∃ z, z = h0.size := ⟨_, rfl⟩
        rw [← z89] at A89 D89 st89
        refine own_step st89 ?_
        have g89 : n0 ≤ b89 := Nat.le_trans (O0.1 ▸ O0.2.1) (Nat.le_of_eq z89.symm)
        have y89 : h0.size ≤ b89 := Nat.le_trans (Nat.le_refl _) (Nat.le_of_eq z89.symm)
        have O89 := O0.ext E89
        have K89 : Keep h0 h89 [] := (Keep.refl h0 []).ext E89
        have F89_38 : Fld Z h89 b89 "com/example/meter_to_month/metertomonth/ledger/BillingPeriod" "unit" "Lcom/example/meter_to_month/metertomonth/ledger/BillingPeriod$Unit;" .null := D89 (Or.inr (hw _ (List.mem_of_getElem? (i := 38) rfl))) (ty := (.object "com/example/meter_to_month/metertomonth/ledger/BillingPeriod$Unit")) (by decide)
        have F89_40 : Fld Z h89 b89 "com/example/meter_to_month/metertomonth/ledger/BillingPeriod" "count" "I" (.int (0 : Int32)) := D89 (Or.inr (hw _ (List.mem_of_getElem? (i := 40) rfl))) (ty := .int) (by decide)
        show own_Wp p e below _ T89 (mkF m 39 #[.val (.int p0), .val (.int p1), .val (.int p2), .val (.ref (w4_BACKUP_VAULT Z)), .val (.ref (w3_MONTH Z)), .val (.int (p2 &&& (2147483647 : Int32))), .unset, .unset] [(.ref b89)])
        refine own_step (fun _ k => XS.dup X89.here hx rfl (hb hby at_39) rfl rfl k) ?_
        show own_Wp p e below _ T89 (mkF m 40 #[.val (.int p0), .val (.int p1), .val (.int p2), .val (.ref (w4_BACKUP_VAULT Z)), .val (.ref (w3_MONTH Z)), .val (.int (p2 &&& (2147483647 : Int32))), .unset, .unset] [(.ref b89), (.ref b89)])
        refine own_step (fun _ k => XS.aload X89.here hx rfl (hb hby at_40) rfl rfl k) ?_
        show own_Wp p e below _ T89 (mkF m 42 #[.val (.int p0), .val (.int p1), .val (.int p2), .val (.ref (w4_BACKUP_VAULT Z)), .val (.ref (w3_MONTH Z)), .val (.int (p2 &&& (2147483647 : Int32))), .unset, .unset] [(.ref (w3_MONTH Z)), (.ref b89), (.ref b89)])
        refine own_step (fun _ k => XS.iload X89.here hx rfl (hb hby at_42) rfl k) ?_
        show own_Wp p e below _ T89 (mkF m 44 #[.val (.int p0), .val (.int p1), .val (.int p2), .val (.ref (w4_BACKUP_VAULT Z)), .val (.ref (w3_MONTH Z)), .val (.int (p2 &&& (2147483647 : Int32))), .unset, .unset] [(.int (p2 &&& (2147483647 : Int32))), (.ref (w3_MONTH Z)), (.ref b89), (.ref b89)])
        obtain ⟨_, T90, L90, X90, hS90, hZ90, hown90, hQ90, st90⟩ := own_callNW X89 hx hZ hS0 (Nat.zero_le _) rfl hown (hw _ (List.mem_of_getElem? (i := 14) rfl)) (hw _ (List.mem_of_getElem? (i := 15) rfl)) (hw _ (List.mem_of_getElem? (i := 13) rfl)) (hw _ (List.mem_of_getElem? (i := 16) rfl)) (by decide) (rm2_7 l Z a0 hw hA [] b89 (w3_MONTH Z) (p2 &&& (2147483647 : Int32)) h89 n0 O89 A89 F89_38 F89_40 g89 hpos) (b := b89) (W := 1) (by decide) (by decide) [(.ref (w3_MONTH Z)), (.int (p2 &&& (2147483647 : Int32)))] rfl (lenOf pd7 rfl) (Ls := #[.val (.int p0), .val (.int p1), .val (.int p2), .val (.ref (w4_BACKUP_VAULT Z)), .val (.ref (w3_MONTH Z)), .val (.int (p2 &&& (2147483647 : Int32))), .unset, .unset]) (by rw [hml]; rfl) (rest := [(.ref b89)]) (Nat.le_of_eq rfl) (hb hby at_44) e89 (by decide) (by decide)
        refine st90 _ ?_
        obtain ⟨rfl, N90q, K90q, F90_0, F90_1, F90_2⟩ := hQ90
        have N90 := Fr.app N1d N90q
        have O90 := O89.keep K90q (allS g89 all0)
        have K90 : Keep h0 T90.heap [] := Keep.trans K89 K90q (allS (Or.inr y89) all0)
        show own_Wp p e below _ T90 (mkF m 47 #[.val (.int p0), .val (.int p1), .val (.int p2), .val (.ref (w4_BACKUP_VAULT Z)), .val (.ref (w3_MONTH Z)), .val (.int (p2 &&& (2147483647 : Int32))), .unset, .unset] [(.ref b89)])
        refine own_step (fun _ k => XS.astore X90.here hx rfl (hb hby at_47) rfl rfl (l' := #[.val (.int p0), .val (.int p1), .val (.int p2), .val (.ref (w4_BACKUP_VAULT Z)), .val (.ref (w3_MONTH Z)), .val (.int (p2 &&& (2147483647 : Int32))), .val (.ref b89), .unset]) rfl k) ?_
        show own_Wp p e below _ T90 (mkF m 49 #[.val (.int p0), .val (.int p1), .val (.int p2), .val (.ref (w4_BACKUP_VAULT Z)), .val (.ref (w3_MONTH Z)), .val (.int (p2 &&& (2147483647 : Int32))), .val (.ref b89), .unset] [])
        refine own_step (fun _ k => XS.aloadN X90.here hx rfl (hb hby at_49) rfl rfl k) ?_
        show own_Wp p e below _ T90 (mkF m 50 #[.val (.int p0), .val (.int p1), .val (.int p2), .val (.ref (w4_BACKUP_VAULT Z)), .val (.ref (w3_MONTH Z)), .val (.int (p2 &&& (2147483647 : Int32))), .val (.ref b89), .unset] [(.ref (w4_BACKUP_VAULT Z))])
        refine own_step (fun _ k => XS.aload X90.here hx rfl (hb hby at_50) rfl rfl k) ?_
        show own_Wp p e below _ T90 (mkF m 52 #[.val (.int p0), .val (.int p1), .val (.int p2), .val (.ref (w4_BACKUP_VAULT Z)), .val (.ref (w3_MONTH Z)), .val (.int (p2 &&& (2147483647 : Int32))), .val (.ref b89), .unset] [(.ref b89), (.ref (w4_BACKUP_VAULT Z))])
        obtain ⟨_, T91, L91, X91, hQ91, st91⟩ := own_callV X90 hx hZ90 hown90 (hw _ (List.mem_of_getElem? (i := 41) rfl)) (hw _ (List.mem_of_getElem? (i := 42) rfl)) (notFace_of_selects (args := #[]) (mvT hZ90 (hw _ (List.mem_of_getElem? (i := 44) rfl)))) (hw _ (List.mem_of_getElem? (i := 44) rfl)) (hw _ (List.mem_of_getElem? (i := 43) rfl)) (hw _ (List.mem_of_getElem? (i := 5) rfl)) (hw _ (List.mem_of_getElem? (i := 45) rfl)) (by decide) ((ex_w4_BACKUP_VAULT hw hA).ext O90.2) (rm6_4 l Z a0 hw hA [] (w4_BACKUP_VAULT Z) b89 T90.heap n0 O90 (fl2 hw hA)) (W := 0) (by decide) (by decide) [(.ref b89)] rfl (lenOf pd9 rfl) (Ls := #[.val (.int p0), .val (.int p1), .val (.int p2), .val (.ref (w4_BACKUP_VAULT Z)), .val (.ref (w3_MONTH Z)), .val (.int (p2 &&& (2147483647 : Int32))), .val (.ref b89), .unset]) (by rw [hml]; rfl) (rest := []) (Nat.le_of_eq rfl) (hb hby at_52) rfl (by decide) (by decide)
        refine st91 _ ?_
        obtain ⟨rfl, N91q, e91⟩ := hQ91
        have N91 := Fr.app N90 N91q
        show own_Wp p e below _ T91 (mkF m 55 #[.val (.int p0), .val (.int p1), .val (.int p2), .val (.ref (w4_BACKUP_VAULT Z)), .val (.ref (w3_MONTH Z)), .val (.int (p2 &&& (2147483647 : Int32))), .val (.ref b89), .unset] [(.ref b89)])
        refine own_step (fun _ k => XS.astore X91.here hx rfl (hb hby at_55) rfl rfl (l' := #[.val (.int p0), .val (.int p1), .val (.int p2), .val (.ref (w4_BACKUP_VAULT Z)), .val (.ref (w3_MONTH Z)), .val (.int (p2 &&& (2147483647 : Int32))), .val (.ref b89), .val (.ref b89)]) rfl k) ?_
        show own_Wp p e below _ T91 (mkF m 57 #[.val (.int p0), .val (.int p1), .val (.int p2), .val (.ref (w4_BACKUP_VAULT Z)), .val (.ref (w3_MONTH Z)), .val (.int (p2 &&& (2147483647 : Int32))), .val (.ref b89), .val (.ref b89)] [])
        refine own_step (fun _ k => XS.aload X91.here hx rfl (hb hby at_57) rfl rfl k) ?_
        show own_Wp p e below _ T91 (mkF m 59 #[.val (.int p0), .val (.int p1), .val (.int p2), .val (.ref (w4_BACKUP_VAULT Z)), .val (.ref (w3_MONTH Z)), .val (.int (p2 &&& (2147483647 : Int32))), .val (.ref b89), .val (.ref b89)] [(.ref b89)])
        refine own_step (fun _ k => XS.ifnonnullYes X91.here hx rfl (pc0 := 59) (pc' := 64) rfl (hb hby at_59) rfl (by decide) (by decide) k) ?_
        show own_Wp p e below _ T91 (mkF m 64 #[.val (.int p0), .val (.int p1), .val (.int p2), .val (.ref (w4_BACKUP_VAULT Z)), .val (.ref (w3_MONTH Z)), .val (.int (p2 &&& (2147483647 : Int32))), .val (.ref b89), .val (.ref b89)] [])
        refine own_step (fun _ k => XS.iloadN X91.here hx rfl (hb hby at_64) rfl k) ?_
        show own_Wp p e below _ T91 (mkF m 65 #[.val (.int p0), .val (.int p1), .val (.int p2), .val (.ref (w4_BACKUP_VAULT Z)), .val (.ref (w3_MONTH Z)), .val (.int (p2 &&& (2147483647 : Int32))), .val (.ref b89), .val (.ref b89)] [(.int p0)])
        refine own_step (fun _ k => XS.iconst X91.here hx rfl (hb hby at_65) k) ?_
        show own_Wp p e below _ T91 (mkF m 66 #[.val (.int p0), .val (.int p1), .val (.int p2), .val (.ref (w4_BACKUP_VAULT Z)), .val (.ref (w3_MONTH Z)), .val (.int (p2 &&& (2147483647 : Int32))), .val (.ref b89), .val (.ref b89)] [(.int (3 : Int32)), (.int p0)])
        refine own_step (fun _ k => XS.iand X91.here hx rfl (hb hby at_66) rfl k) ?_
        show own_Wp p e below _ T91 (mkF m 67 #[.val (.int p0), .val (.int p1), .val (.int p2), .val (.ref (w4_BACKUP_VAULT Z)), .val (.ref (w3_MONTH Z)), .val (.int (p2 &&& (2147483647 : Int32))), .val (.ref b89), .val (.ref b89)] [(.int (p0 &&& (3 : Int32)))])
        refine own_step (fun _ k => XS.iconst X91.here hx rfl (hb hby at_67) k) ?_
        show own_Wp p e below _ T91 (mkF m 68 #[.val (.int p0), .val (.int p1), .val (.int p2), .val (.ref (w4_BACKUP_VAULT Z)), .val (.ref (w3_MONTH Z)), .val (.int (p2 &&& (2147483647 : Int32))), .val (.ref b89), .val (.ref b89)] [(.int (2 : Int32)), (.int (p0 &&& (3 : Int32)))])
        refine own_step (fun _ k => XS.icmpYes X91.here hx rfl (pc0 := 68) (pc' := 97) rfl (hb hby at_68) rfl (feq (by rw [hq1d_0]; decide)).2 (by decide) (by decide) k) ?_
        show own_Wp p e below _ T91 (mkF m 97 #[.val (.int p0), .val (.int p1), .val (.int p2), .val (.ref (w4_BACKUP_VAULT Z)), .val (.ref (w3_MONTH Z)), .val (.int (p2 &&& (2147483647 : Int32))), .val (.ref b89), .val (.ref b89)] [])
        refine own_step (fun _ k => XS.aload X91.here hx rfl (hb hby at_97) rfl rfl k) ?_
        show own_Wp p e below _ T91 (mkF m 99 #[.val (.int p0), .val (.int p1), .val (.int p2), .val (.ref (w4_BACKUP_VAULT Z)), .val (.ref (w3_MONTH Z)), .val (.int (p2 &&& (2147483647 : Int32))), .val (.ref b89), .val (.ref b89)] [(.ref b89)])
        obtain ⟨_, T92, L92, X92, hQ92, st92⟩ := own_callV X91 hx hZ90 hown90 (hw _ (List.mem_of_getElem? (i := 48) rfl)) (hw _ (List.mem_of_getElem? (i := 49) rfl)) (notFace_of_selects (args := #[]) (mvT hZ90 (hw _ (List.mem_of_getElem? (i := 51) rfl)))) (hw _ (List.mem_of_getElem? (i := 51) rfl)) (hw _ (List.mem_of_getElem? (i := 50) rfl)) (hw _ (List.mem_of_getElem? (i := 13) rfl)) (hw _ (List.mem_of_getElem? (i := 52) rfl)) (by decide) F90_0 (rm7_5 l Z a0 hw hA [] b89 T90.heap n0 O90 F90_1) (W := 0) (by decide) (by decide) [] rfl (lenOf pd10 rfl) (Ls := #[.val (.int p0), .val (.int p1), .val (.int p2), .val (.ref (w4_BACKUP_VAULT Z)), .val (.ref (w3_MONTH Z)), .val (.int (p2 &&& (2147483647 : Int32))), .val (.ref b89), .val (.ref b89)]) (by rw [hml]; rfl) (rest := []) (Nat.le_of_eq rfl) (hb hby at_99) e91 (by decide) (by decide)
        refine st92 _ ?_
        obtain ⟨rfl, N92q, e92⟩ := hQ92
        have N92 := Fr.app N91 N92q
        show own_Wp p e below _ T92 (mkF m 102 #[.val (.int p0), .val (.int p1), .val (.int p2), .val (.ref (w4_BACKUP_VAULT Z)), .val (.ref (w3_MONTH Z)), .val (.int (p2 &&& (2147483647 : Int32))), .val (.ref b89), .val (.ref b89)] [(.ref (w3_MONTH Z))])
        refine own_step (fun _ k => XS.aload X92.here hx rfl (hb hby at_102) rfl rfl k) ?_
        show own_Wp p e below _ T92 (mkF m 104 #[.val (.int p0), .val (.int p1), .val (.int p2), .val (.ref (w4_BACKUP_VAULT Z)), .val (.ref (w3_MONTH Z)), .val (.int (p2 &&& (2147483647 : Int32))), .val (.ref b89), .val (.ref b89)] [(.ref (w3_MONTH Z)), (.ref (w3_MONTH Z))])
        refine own_step (fun _ k => Jvm.RoadKit.acmp (g := (mkF m 104 #[.val (.int p0), .val (.int p1), .val (.int p2), .val (.ref (w4_BACKUP_VAULT Z)), .val (.ref (w3_MONTH Z)), .val (.int (p2 &&& (2147483647 : Int32))), .val (.ref b89), .val (.ref b89)] [(.ref (w3_MONTH Z)), (.ref (w3_MONTH Z))])) X92 hx rfl rfl rfl (pc0 := 104) (pc' := 107) (same := true) rfl (hb hby at_104) rfl (decide_eq_true rfl) (by decide) (by decide) k) ?_
        show own_Wp p e below _ T92 (mkF m 107 #[.val (.int p0), .val (.int p1), .val (.int p2), .val (.ref (w4_BACKUP_VAULT Z)), .val (.ref (w3_MONTH Z)), .val (.int (p2 &&& (2147483647 : Int32))), .val (.ref b89), .val (.ref b89)] [])
        refine own_step (fun _ k => XS.aload X92.here hx rfl (hb hby at_107) rfl rfl k) ?_
        show own_Wp p e below _ T92 (mkF m 109 #[.val (.int p0), .val (.int p1), .val (.int p2), .val (.ref (w4_BACKUP_VAULT Z)), .val (.ref (w3_MONTH Z)), .val (.int (p2 &&& (2147483647 : Int32))), .val (.ref b89), .val (.ref b89)] [(.ref b89)])
        obtain ⟨_, T93, L93, X93, hQ93, st93⟩ := own_callV X92 hx hZ90 hown90 (hw _ (List.mem_of_getElem? (i := 53) rfl)) (hw _ (List.mem_of_getElem? (i := 54) rfl)) (notFace_of_selects (args := #[]) (mvT hZ90 (hw _ (List.mem_of_getElem? (i := 56) rfl)))) (hw _ (List.mem_of_getElem? (i := 56) rfl)) (hw _ (List.mem_of_getElem? (i := 55) rfl)) (hw _ (List.mem_of_getElem? (i := 13) rfl)) (hw _ (List.mem_of_getElem? (i := 57) rfl)) (by decide) F90_0 (rm8_8 l Z a0 hw hA [] b89 (p2 &&& (2147483647 : Int32)) T90.heap n0 O90 F90_2) (W := 0) (by decide) (by decide) [] rfl (lenOf pd11 rfl) (Ls := #[.val (.int p0), .val (.int p1), .val (.int p2), .val (.ref (w4_BACKUP_VAULT Z)), .val (.ref (w3_MONTH Z)), .val (.int (p2 &&& (2147483647 : Int32))), .val (.ref b89), .val (.ref b89)]) (by rw [hml]; rfl) (rest := []) (Nat.le_of_eq rfl) (hb hby at_109) e92 (by decide) (by decide)
        refine st93 _ ?_
        obtain ⟨rfl, N93q, e93⟩ := hQ93
        have N93 := Fr.app N92 N93q
        show own_Wp p e below _ T93 (mkF m 112 #[.val (.int p0), .val (.int p1), .val (.int p2), .val (.ref (w4_BACKUP_VAULT Z)), .val (.ref (w3_MONTH Z)), .val (.int (p2 &&& (2147483647 : Int32))), .val (.ref b89), .val (.ref b89)] [(.int (p2 &&& (2147483647 : Int32)))])
        refine own_step (fun _ k => XS.iload X93.here hx rfl (hb hby at_112) rfl k) ?_
        show own_Wp p e below _ T93 (mkF m 114 #[.val (.int p0), .val (.int p1), .val (.int p2), .val (.ref (w4_BACKUP_VAULT Z)), .val (.ref (w3_MONTH Z)), .val (.int (p2 &&& (2147483647 : Int32))), .val (.ref b89), .val (.ref b89)] [(.int (p2 &&& (2147483647 : Int32))), (.int (p2 &&& (2147483647 : Int32)))])
        refine own_step (fun _ k => XS.icmpNo X93.here hx rfl (hb hby at_114) rfl (teq (rfl : (p2 &&& (2147483647 : Int32)) = (p2 &&& (2147483647 : Int32)))).2 k) ?_
        show own_Wp p e below _ T93 (mkF m 117 #[.val (.int p0), .val (.int p1), .val (.int p2), .val (.ref (w4_BACKUP_VAULT Z)), .val (.ref (w3_MONTH Z)), .val (.int (p2 &&& (2147483647 : Int32))), .val (.ref b89), .val (.ref b89)] [])
        refine own_step (fun _ k => XS.iconst X93.here hx rfl (hb hby at_117) k) ?_
        show own_Wp p e below _ T93 (mkF m 118 #[.val (.int p0), .val (.int p1), .val (.int p2), .val (.ref (w4_BACKUP_VAULT Z)), .val (.ref (w3_MONTH Z)), .val (.int (p2 &&& (2147483647 : Int32))), .val (.ref b89), .val (.ref b89)] [(.int (1 : Int32))])
        refine own_step (fun _ k => XS.goto X93.here hx rfl (pc0 := 118) (pc' := 122) rfl (hb hby at_118) (by decide) (by decide) k) ?_
        show own_Wp p e below _ T93 (mkF m 122 #[.val (.int p0), .val (.int p1), .val (.int p2), .val (.ref (w4_BACKUP_VAULT Z)), .val (.ref (w3_MONTH Z)), .val (.int (p2 &&& (2147483647 : Int32))), .val (.ref b89), .val (.ref b89)] [(.int (1 : Int32))])
        exact own_retNW X93 hS90 (by rw [e93]; exact (Nat.le_refl _)) hx (t := .boolean) hret (by simp) hlk (hb hby at_122) (by decide) (by decide) ⟨rfl, N93⟩
    · skip
      refine own_step (fun _ k => XS.ifNo X1.here hx rfl (hb hby at_8) rfl ((if0 _ _).trans (feq hc81).1) k) ?_
      show own_Wp p e below _ T1 (mkF m 11 #[.val (.int p0), .val (.int p1), .val (.int p2), .val (.ref (w4_BACKUP_VAULT Z)), .unset, .unset, .unset, .unset] [])
      obtain ⟨T94, X94, e94, st94⟩ := getS2 X1 hx hZ hown (host := "") (Or.inl (hw _ (List.mem_of_getElem? (i := 7) rfl))) Via.refl e1d ((st_w1_YEAR hw hA).ext O0.2) (g := (mkF m 11 #[.val (.int p0), .val (.int p1), .val (.int p2), .val (.ref (w4_BACKUP_VAULT Z)), .unset, .unset, .unset, .unset] [])) rfl (hb hby at_11)
      refine own_step st94 ?_
      show own_Wp p e below _ T94 (mkF m 14 #[.val (.int p0), .val (.int p1), .val (.int p2), .val (.ref (w4_BACKUP_VAULT Z)), .unset, .unset, .unset, .unset] [(.ref (w1_YEAR Z))])
      refine own_step (fun _ k => XS.goto X94.here hx rfl (pc0 := 14) (pc' := 20) rfl (hb hby at_14) (by decide) (by decide) k) ?_
      show own_Wp p e below _ T94 (mkF m 20 #[.val (.int p0), .val (.int p1), .val (.int p2), .val (.ref (w4_BACKUP_VAULT Z)), .unset, .unset, .unset, .unset] [(.ref (w1_YEAR Z))])
      refine own_step (fun _ k => XS.astore X94.here hx rfl (hb hby at_20) rfl rfl (l' := #[.val (.int p0), .val (.int p1), .val (.int p2), .val (.ref (w4_BACKUP_VAULT Z)), .val (.ref (w1_YEAR Z)), .unset, .unset, .unset]) rfl k) ?_
      show own_Wp p e below _ T94 (mkF m 22 #[.val (.int p0), .val (.int p1), .val (.int p2), .val (.ref (w4_BACKUP_VAULT Z)), .val (.ref (w1_YEAR Z)), .unset, .unset, .unset] [])
      refine own_step (fun _ k => XS.iloadN X94.here hx rfl (hb hby at_22) rfl k) ?_
      show own_Wp p e below _ T94 (mkF m 23 #[.val (.int p0), .val (.int p1), .val (.int p2), .val (.ref (w4_BACKUP_VAULT Z)), .val (.ref (w1_YEAR Z)), .unset, .unset, .unset] [(.int p2)])
      refine own_step (X94.ldcInt hx hown (mvT hZ (hw _ (List.mem_of_getElem? (i := 10) rfl))) (g := (mkF m 23 #[.val (.int p0), .val (.int p1), .val (.int p2), .val (.ref (w4_BACKUP_VAULT Z)), .val (.ref (w1_YEAR Z)), .unset, .unset, .unset] [(.int p2)])) rfl (hb hby at_23)) ?_
      show own_Wp p e below _ T94 (mkF m 25 #[.val (.int p0), .val (.int p1), .val (.int p2), .val (.ref (w4_BACKUP_VAULT Z)), .val (.ref (w1_YEAR Z)), .unset, .unset, .unset] [(.int (2147483647 : Int32)), (.int p2)])
      refine own_step (fun _ k => XS.iand X94.here hx rfl (hb hby at_25) rfl k) ?_
      show own_Wp p e below _ T94 (mkF m 26 #[.val (.int p0), .val (.int p1), .val (.int p2), .val (.ref (w4_BACKUP_VAULT Z)), .val (.ref (w1_YEAR Z)), .unset, .unset, .unset] [(.int (p2 &&& (2147483647 : Int32)))])
      refine own_step (fun _ k => XS.istore X94.here hx rfl (hb hby at_26) rfl (l' := #[.val (.int p0), .val (.int p1), .val (.int p2), .val (.ref (w4_BACKUP_VAULT Z)), .val (.ref (w1_YEAR Z)), .val (.int (p2 &&& (2147483647 : Int32))), .unset, .unset]) rfl k) ?_
      show own_Wp p e below _ T94 (mkF m 28 #[.val (.int p0), .val (.int p1), .val (.int p2), .val (.ref (w4_BACKUP_VAULT Z)), .val (.ref (w1_YEAR Z)), .val (.int (p2 &&& (2147483647 : Int32))), .unset, .unset] [])
      refine own_step (fun _ k => XS.iload X94.here hx rfl (hb hby at_28) rfl k) ?_
      show own_Wp p e below _ T94 (mkF m 30 #[.val (.int p0), .val (.int p1), .val (.int p2), .val (.ref (w4_BACKUP_VAULT Z)), .val (.ref (w1_YEAR Z)), .val (.int (p2 &&& (2147483647 : Int32))), .unset, .unset] [(.int (p2 &&& (2147483647 : Int32)))])
      by_cases hc95 : (p2 &&& (2147483647 : Int32)) = (0 : Int32)
      · skip
        refine own_step (fun _ k => XS.ifNo X94.here hx rfl (hb hby at_30) rfl ((if0 _ _).trans (teq hc95).2) k) ?_
        show own_Wp p e below _ T94 (mkF m 33 #[.val (.int p0), .val (.int p1), .val (.int p2), .val (.ref (w4_BACKUP_VAULT Z)), .val (.ref (w1_YEAR Z)), .val (.int (p2 &&& (2147483647 : Int32))), .unset, .unset] [])
        refine own_step (fun _ k => XS.iconst X94.here hx rfl (hb hby at_33) k) ?_
        show own_Wp p e below _ T94 (mkF m 34 #[.val (.int p0), .val (.int p1), .val (.int p2), .val (.ref (w4_BACKUP_VAULT Z)), .val (.ref (w1_YEAR Z)), .val (.int (p2 &&& (2147483647 : Int32))), .unset, .unset] [(.int (1 : Int32))])
        refine own_step (fun _ k => XS.istore X94.here hx rfl (hb hby at_34) rfl (l' := #[.val (.int p0), .val (.int p1), .val (.int p2), .val (.ref (w4_BACKUP_VAULT Z)), .val (.ref (w1_YEAR Z)), .val (.int (1 : Int32)), .unset, .unset]) rfl k) ?_
        show own_Wp p e below _ T94 (mkF m 36 #[.val (.int p0), .val (.int p1), .val (.int p2), .val (.ref (w4_BACKUP_VAULT Z)), .val (.ref (w1_YEAR Z)), .val (.int (1 : Int32)), .unset, .unset] [])
        obtain ⟨T96, h96, X96, e96, E96, A96, D96, -, st96⟩ := newO X94 hx hZ hown (hw _ (List.mem_of_getElem? (i := 11) rfl)) (hw _ (List.mem_of_getElem? (i := 12) rfl)) (hw _ (List.mem_of_getElem? (i := 13) rfl)) e94 (g := (mkF m 36 #[.val (.int p0), .val (.int p1), .val (.int p2), .val (.ref (w4_BACKUP_VAULT Z)), .val (.ref (w1_YEAR Z)), .val (.int (1 : Int32)), .unset, .unset] [])) rfl (hb hby at_36) (by decide) (by decide)
        obtain ⟨b96, z96⟩ : ∃ z, z = h0.size := ⟨_, rfl⟩
        rw [← z96] at A96 D96 st96
        refine own_step st96 ?_
        have g96 : n0 ≤ b96 := Nat.le_trans (O0.1 ▸ O0.2.1) (Nat.le_of_eq z96.symm)
        have y96 : h0.size ≤ b96 := Nat.le_trans (Nat.le_refl _) (Nat.le_of_eq z96.symm)
        have O96 := O0.ext E96
        have K96 : Keep h0 h96 [] := (Keep.refl h0 []).ext E96
        have F96_38 : Fld Z h96 b96 "com/example/meter_to_month/metertomonth/ledger/BillingPeriod" "unit" "Lcom/example/meter_to_month/metertomonth/ledger/BillingPeriod$Unit;" .null := D96 (Or.inr (hw _ (List.mem_of_getElem? (i := 38) rfl))) (ty := (.object "com/example/meter_to_month/metertomonth/ledger/BillingPeriod$Unit")) (by decide)
        have F96_40 : Fld Z h96 b96 "com/example/meter_to_month/metertomonth/ledger/BillingPeriod" "count" "I" (.int (0 : Int32)) := D96 (Or.inr (hw _ (List.mem_of_getElem? (i := 40) rfl))) (ty := .int) (by decide)
        show own_Wp p e below _ T96 (mkF m 39 #[.val (.int p0), .val (.int p1), .val (.int p2), .val (.ref (w4_BACKUP_VAULT Z)), .val (.ref (w1_YEAR Z)), .val (.int (1 : Int32)), .unset, .unset] [(.ref b96)])
        refine own_step (fun _ k => XS.dup X96.here hx rfl (hb hby at_39) rfl rfl k) ?_
        show own_Wp p e below _ T96 (mkF m 40 #[.val (.int p0), .val (.int p1), .val (.int p2), .val (.ref (w4_BACKUP_VAULT Z)), .val (.ref (w1_YEAR Z)), .val (.int (1 : Int32)), .unset, .unset] [(.ref b96), (.ref b96)])
        refine own_step (fun _ k => XS.aload X96.here hx rfl (hb hby at_40) rfl rfl k) ?_
        show own_Wp p e below _ T96 (mkF m 42 #[.val (.int p0), .val (.int p1), .val (.int p2), .val (.ref (w4_BACKUP_VAULT Z)), .val (.ref (w1_YEAR Z)), .val (.int (1 : Int32)), .unset, .unset] [(.ref (w1_YEAR Z)), (.ref b96), (.ref b96)])
        refine own_step (fun _ k => XS.iload X96.here hx rfl (hb hby at_42) rfl k) ?_
        show own_Wp p e below _ T96 (mkF m 44 #[.val (.int p0), .val (.int p1), .val (.int p2), .val (.ref (w4_BACKUP_VAULT Z)), .val (.ref (w1_YEAR Z)), .val (.int (1 : Int32)), .unset, .unset] [(.int (1 : Int32)), (.ref (w1_YEAR Z)), (.ref b96), (.ref b96)])
        obtain ⟨_, T97, L97, X97, hS97, hZ97, hown97, hQ97, st97⟩ := own_callNW X96 hx hZ hS0 (Nat.zero_le _) rfl hown (hw _ (List.mem_of_getElem? (i := 14) rfl)) (hw _ (List.mem_of_getElem? (i := 15) rfl)) (hw _ (List.mem_of_getElem? (i := 13) rfl)) (hw _ (List.mem_of_getElem? (i := 16) rfl)) (by decide) (rm2_3 l Z a0 hw hA [] b96 (w1_YEAR Z) h96 n0 O96 A96 F96_38 F96_40 g96) (b := b96) (W := 1) (by decide) (by decide) [(.ref (w1_YEAR Z)), (.int (1 : Int32))] rfl (lenOf pd7 rfl) (Ls := #[.val (.int p0), .val (.int p1), .val (.int p2), .val (.ref (w4_BACKUP_VAULT Z)), .val (.ref (w1_YEAR Z)), .val (.int (1 : Int32)), .unset, .unset]) (by rw [hml]; rfl) (rest := [(.ref b96)]) (Nat.le_of_eq rfl) (hb hby at_44) e96 (by decide) (by decide)
        refine st97 _ ?_
        obtain ⟨rfl, N97q, K97q, F97_0, F97_1, F97_2⟩ := hQ97
        have N97 := Fr.app N1d N97q
        have O97 := O96.keep K97q (allS g96 all0)
        have K97 : Keep h0 T97.heap [] := Keep.trans K96 K97q (allS (Or.inr y96) all0)
        show own_Wp p e below _ T97 (mkF m 47 #[.val (.int p0), .val (.int p1), .val (.int p2), .val (.ref (w4_BACKUP_VAULT Z)), .val (.ref (w1_YEAR Z)), .val (.int (1 : Int32)), .unset, .unset] [(.ref b96)])
        refine own_step (fun _ k => XS.astore X97.here hx rfl (hb hby at_47) rfl rfl (l' := #[.val (.int p0), .val (.int p1), .val (.int p2), .val (.ref (w4_BACKUP_VAULT Z)), .val (.ref (w1_YEAR Z)), .val (.int (1 : Int32)), .val (.ref b96), .unset]) rfl k) ?_
        show own_Wp p e below _ T97 (mkF m 49 #[.val (.int p0), .val (.int p1), .val (.int p2), .val (.ref (w4_BACKUP_VAULT Z)), .val (.ref (w1_YEAR Z)), .val (.int (1 : Int32)), .val (.ref b96), .unset] [])
        refine own_step (fun _ k => XS.aloadN X97.here hx rfl (hb hby at_49) rfl rfl k) ?_
        show own_Wp p e below _ T97 (mkF m 50 #[.val (.int p0), .val (.int p1), .val (.int p2), .val (.ref (w4_BACKUP_VAULT Z)), .val (.ref (w1_YEAR Z)), .val (.int (1 : Int32)), .val (.ref b96), .unset] [(.ref (w4_BACKUP_VAULT Z))])
        refine own_step (fun _ k => XS.aload X97.here hx rfl (hb hby at_50) rfl rfl k) ?_
        show own_Wp p e below _ T97 (mkF m 52 #[.val (.int p0), .val (.int p1), .val (.int p2), .val (.ref (w4_BACKUP_VAULT Z)), .val (.ref (w1_YEAR Z)), .val (.int (1 : Int32)), .val (.ref b96), .unset] [(.ref b96), (.ref (w4_BACKUP_VAULT Z))])
        obtain ⟨_, T98, L98, X98, hQ98, st98⟩ := own_callV X97 hx hZ97 hown97 (hw _ (List.mem_of_getElem? (i := 41) rfl)) (hw _ (List.mem_of_getElem? (i := 42) rfl)) (notFace_of_selects (args := #[]) (mvT hZ97 (hw _ (List.mem_of_getElem? (i := 44) rfl)))) (hw _ (List.mem_of_getElem? (i := 44) rfl)) (hw _ (List.mem_of_getElem? (i := 43) rfl)) (hw _ (List.mem_of_getElem? (i := 5) rfl)) (hw _ (List.mem_of_getElem? (i := 45) rfl)) (by decide) ((ex_w4_BACKUP_VAULT hw hA).ext O97.2) (rm6_4 l Z a0 hw hA [] (w4_BACKUP_VAULT Z) b96 T97.heap n0 O97 (fl2 hw hA)) (W := 0) (by decide) (by decide) [(.ref b96)] rfl (lenOf pd9 rfl) (Ls := #[.val (.int p0), .val (.int p1), .val (.int p2), .val (.ref (w4_BACKUP_VAULT Z)), .val (.ref (w1_YEAR Z)), .val (.int (1 : Int32)), .val (.ref b96), .unset]) (by rw [hml]; rfl) (rest := []) (Nat.le_of_eq rfl) (hb hby at_52) rfl (by decide) (by decide)
        refine st98 _ ?_
        obtain ⟨rfl, N98q, e98⟩ := hQ98
        have N98 := Fr.app N97 N98q
        show own_Wp p e below _ T98 (mkF m 55 #[.val (.int p0), .val (.int p1), .val (.int p2), .val (.ref (w4_BACKUP_VAULT Z)), .val (.ref (w1_YEAR Z)), .val (.int (1 : Int32)), .val (.ref b96), .unset] [(.ref b96)])
        refine own_step (fun _ k => XS.astore X98.here hx rfl (hb hby at_55) rfl rfl (l' := #[.val (.int p0), .val (.int p1), .val (.int p2), .val (.ref (w4_BACKUP_VAULT Z)), .val (.ref (w1_YEAR Z)), .val (.int (1 : Int32)), .val (.ref b96), .val (.ref b96)]) rfl k) ?_
        show own_Wp p e below _ T98 (mkF m 57 #[.val (.int p0), .val (.int p1), .val (.int p2), .val (.ref (w4_BACKUP_VAULT Z)), .val (.ref (w1_YEAR Z)), .val (.int (1 : Int32)), .val (.ref b96), .val (.ref b96)] [])
        refine own_step (fun _ k => XS.aload X98.here hx rfl (hb hby at_57) rfl rfl k) ?_
        show own_Wp p e below _ T98 (mkF m 59 #[.val (.int p0), .val (.int p1), .val (.int p2), .val (.ref (w4_BACKUP_VAULT Z)), .val (.ref (w1_YEAR Z)), .val (.int (1 : Int32)), .val (.ref b96), .val (.ref b96)] [(.ref b96)])
        refine own_step (fun _ k => XS.ifnonnullYes X98.here hx rfl (pc0 := 59) (pc' := 64) rfl (hb hby at_59) rfl (by decide) (by decide) k) ?_
        show own_Wp p e below _ T98 (mkF m 64 #[.val (.int p0), .val (.int p1), .val (.int p2), .val (.ref (w4_BACKUP_VAULT Z)), .val (.ref (w1_YEAR Z)), .val (.int (1 : Int32)), .val (.ref b96), .val (.ref b96)] [])
        refine own_step (fun _ k => XS.iloadN X98.here hx rfl (hb hby at_64) rfl k) ?_
        show own_Wp p e below _ T98 (mkF m 65 #[.val (.int p0), .val (.int p1), .val (.int p2), .val (.ref (w4_BACKUP_VAULT Z)), .val (.ref (w1_YEAR Z)), .val (.int (1 : Int32)), .val (.ref b96), .val (.ref b96)] [(.int p0)])
        refine own_step (fun _ k => XS.iconst X98.here hx rfl (hb hby at_65) k) ?_
        show own_Wp p e below _ T98 (mkF m 66 #[.val (.int p0), .val (.int p1), .val (.int p2), .val (.ref (w4_BACKUP_VAULT Z)), .val (.ref (w1_YEAR Z)), .val (.int (1 : Int32)), .val (.ref b96), .val (.ref b96)] [(.int (3 : Int32)), (.int p0)])
        refine own_step (fun _ k => XS.iand X98.here hx rfl (hb hby at_66) rfl k) ?_
        show own_Wp p e below _ T98 (mkF m 67 #[.val (.int p0), .val (.int p1), .val (.int p2), .val (.ref (w4_BACKUP_VAULT Z)), .val (.ref (w1_YEAR Z)), .val (.int (1 : Int32)), .val (.ref b96), .val (.ref b96)] [(.int (p0 &&& (3 : Int32)))])
        refine own_step (fun _ k => XS.iconst X98.here hx rfl (hb hby at_67) k) ?_
        show own_Wp p e below _ T98 (mkF m 68 #[.val (.int p0), .val (.int p1), .val (.int p2), .val (.ref (w4_BACKUP_VAULT Z)), .val (.ref (w1_YEAR Z)), .val (.int (1 : Int32)), .val (.ref b96), .val (.ref b96)] [(.int (2 : Int32)), (.int (p0 &&& (3 : Int32)))])
        refine own_step (fun _ k => XS.icmpYes X98.here hx rfl (pc0 := 68) (pc' := 97) rfl (hb hby at_68) rfl (feq (by rw [hq1d_0]; decide)).2 (by decide) (by decide) k) ?_
        show own_Wp p e below _ T98 (mkF m 97 #[.val (.int p0), .val (.int p1), .val (.int p2), .val (.ref (w4_BACKUP_VAULT Z)), .val (.ref (w1_YEAR Z)), .val (.int (1 : Int32)), .val (.ref b96), .val (.ref b96)] [])
        refine own_step (fun _ k => XS.aload X98.here hx rfl (hb hby at_97) rfl rfl k) ?_
        show own_Wp p e below _ T98 (mkF m 99 #[.val (.int p0), .val (.int p1), .val (.int p2), .val (.ref (w4_BACKUP_VAULT Z)), .val (.ref (w1_YEAR Z)), .val (.int (1 : Int32)), .val (.ref b96), .val (.ref b96)] [(.ref b96)])
        obtain ⟨_, T99, L99, X99, hQ99, st99⟩ := own_callV X98 hx hZ97 hown97 (hw _ (List.mem_of_getElem? (i := 48) rfl)) (hw _ (List.mem_of_getElem? (i := 49) rfl)) (notFace_of_selects (args := #[]) (mvT hZ97 (hw _ (List.mem_of_getElem? (i := 51) rfl)))) (hw _ (List.mem_of_getElem? (i := 51) rfl)) (hw _ (List.mem_of_getElem? (i := 50) rfl)) (hw _ (List.mem_of_getElem? (i := 13) rfl)) (hw _ (List.mem_of_getElem? (i := 52) rfl)) (by decide) F97_0 (rm7_9 l Z a0 hw hA [] b96 T97.heap n0 O97 F97_1) (W := 0) (by decide) (by decide) [] rfl (lenOf pd10 rfl) (Ls := #[.val (.int p0), .val (.int p1), .val (.int p2), .val (.ref (w4_BACKUP_VAULT Z)), .val (.ref (w1_YEAR Z)), .val (.int (1 : Int32)), .val (.ref b96), .val (.ref b96)]) (by rw [hml]; rfl) (rest := []) (Nat.le_of_eq rfl) (hb hby at_99) e98 (by decide) (by decide)
        refine st99 _ ?_
        obtain ⟨rfl, N99q, e99⟩ := hQ99
        have N99 := Fr.app N98 N99q
        show own_Wp p e below _ T99 (mkF m 102 #[.val (.int p0), .val (.int p1), .val (.int p2), .val (.ref (w4_BACKUP_VAULT Z)), .val (.ref (w1_YEAR Z)), .val (.int (1 : Int32)), .val (.ref b96), .val (.ref b96)] [(.ref (w1_YEAR Z))])
        refine own_step (fun _ k => XS.aload X99.here hx rfl (hb hby at_102) rfl rfl k) ?_
        show own_Wp p e below _ T99 (mkF m 104 #[.val (.int p0), .val (.int p1), .val (.int p2), .val (.ref (w4_BACKUP_VAULT Z)), .val (.ref (w1_YEAR Z)), .val (.int (1 : Int32)), .val (.ref b96), .val (.ref b96)] [(.ref (w1_YEAR Z)), (.ref (w1_YEAR Z))])
        refine own_step (fun _ k => Jvm.RoadKit.acmp (g := (mkF m 104 #[.val (.int p0), .val (.int p1), .val (.int p2), .val (.ref (w4_BACKUP_VAULT Z)), .val (.ref (w1_YEAR Z)), .val (.int (1 : Int32)), .val (.ref b96), .val (.ref b96)] [(.ref (w1_YEAR Z)), (.ref (w1_YEAR Z))])) X99 hx rfl rfl rfl (pc0 := 104) (pc' := 107) (same := true) rfl (hb hby at_104) rfl (decide_eq_true rfl) (by decide) (by decide) k) ?_
        show own_Wp p e below _ T99 (mkF m 107 #[.val (.int p0), .val (.int p1), .val (.int p2), .val (.ref (w4_BACKUP_VAULT Z)), .val (.ref (w1_YEAR Z)), .val (.int (1 : Int32)), .val (.ref b96), .val (.ref b96)] [])
        refine own_step (fun _ k => XS.aload X99.here hx rfl (hb hby at_107) rfl rfl k) ?_
        show own_Wp p e below _ T99 (mkF m 109 #[.val (.int p0), .val (.int p1), .val (.int p2), .val (.ref (w4_BACKUP_VAULT Z)), .val (.ref (w1_YEAR Z)), .val (.int (1 : Int32)), .val (.ref b96), .val (.ref b96)] [(.ref b96)])
        obtain ⟨_, T100, L100, X100, hQ100, st100⟩ := own_callV X99 hx hZ97 hown97 (hw _ (List.mem_of_getElem? (i := 53) rfl)) (hw _ (List.mem_of_getElem? (i := 54) rfl)) (notFace_of_selects (args := #[]) (mvT hZ97 (hw _ (List.mem_of_getElem? (i := 56) rfl)))) (hw _ (List.mem_of_getElem? (i := 56) rfl)) (hw _ (List.mem_of_getElem? (i := 55) rfl)) (hw _ (List.mem_of_getElem? (i := 13) rfl)) (hw _ (List.mem_of_getElem? (i := 57) rfl)) (by decide) F97_0 (rm8_6 l Z a0 hw hA [] b96 T97.heap n0 O97 F97_2) (W := 0) (by decide) (by decide) [] rfl (lenOf pd11 rfl) (Ls := #[.val (.int p0), .val (.int p1), .val (.int p2), .val (.ref (w4_BACKUP_VAULT Z)), .val (.ref (w1_YEAR Z)), .val (.int (1 : Int32)), .val (.ref b96), .val (.ref b96)]) (by rw [hml]; rfl) (rest := []) (Nat.le_of_eq rfl) (hb hby at_109) e99 (by decide) (by decide)
        refine st100 _ ?_
        obtain ⟨rfl, N100q, e100⟩ := hQ100
        have N100 := Fr.app N99 N100q
        show own_Wp p e below _ T100 (mkF m 112 #[.val (.int p0), .val (.int p1), .val (.int p2), .val (.ref (w4_BACKUP_VAULT Z)), .val (.ref (w1_YEAR Z)), .val (.int (1 : Int32)), .val (.ref b96), .val (.ref b96)] [(.int (1 : Int32))])
        refine own_step (fun _ k => XS.iload X100.here hx rfl (hb hby at_112) rfl k) ?_
        show own_Wp p e below _ T100 (mkF m 114 #[.val (.int p0), .val (.int p1), .val (.int p2), .val (.ref (w4_BACKUP_VAULT Z)), .val (.ref (w1_YEAR Z)), .val (.int (1 : Int32)), .val (.ref b96), .val (.ref b96)] [(.int (1 : Int32)), (.int (1 : Int32))])
        refine own_step (fun _ k => XS.icmpNo X100.here hx rfl (hb hby at_114) rfl (by decide) k) ?_
        show own_Wp p e below _ T100 (mkF m 117 #[.val (.int p0), .val (.int p1), .val (.int p2), .val (.ref (w4_BACKUP_VAULT Z)), .val (.ref (w1_YEAR Z)), .val (.int (1 : Int32)), .val (.ref b96), .val (.ref b96)] [])
        refine own_step (fun _ k => XS.iconst X100.here hx rfl (hb hby at_117) k) ?_
        show own_Wp p e below _ T100 (mkF m 118 #[.val (.int p0), .val (.int p1), .val (.int p2), .val (.ref (w4_BACKUP_VAULT Z)), .val (.ref (w1_YEAR Z)), .val (.int (1 : Int32)), .val (.ref b96), .val (.ref b96)] [(.int (1 : Int32))])
        refine own_step (fun _ k => XS.goto X100.here hx rfl (pc0 := 118) (pc' := 122) rfl (hb hby at_118) (by decide) (by decide) k) ?_
        show own_Wp p e below _ T100 (mkF m 122 #[.val (.int p0), .val (.int p1), .val (.int p2), .val (.ref (w4_BACKUP_VAULT Z)), .val (.ref (w1_YEAR Z)), .val (.int (1 : Int32)), .val (.ref b96), .val (.ref b96)] [(.int (1 : Int32))])
        exact own_retNW X100 hS97 (by rw [e100]; exact (Nat.le_refl _)) hx (t := .boolean) hret (by simp) hlk (hb hby at_122) (by decide) (by decide) ⟨rfl, N100⟩
      · skip
        refine own_step (fun _ k => XS.ifYes X94.here hx rfl (pc0 := 30) (pc' := 36) rfl (hb hby at_30) rfl ((if0 _ _).trans (feq hc95).2) (by decide) (by decide) k) ?_
        show own_Wp p e below _ T94 (mkF m 36 #[.val (.int p0), .val (.int p1), .val (.int p2), .val (.ref (w4_BACKUP_VAULT Z)), .val (.ref (w1_YEAR Z)), .val (.int (p2 &&& (2147483647 : Int32))), .unset, .unset] [])
        have hpos : ¬ ((p2 &&& (2147483647 : Int32)) < (1 : Int32)) := own_pos hc95
        obtain ⟨T101, h101, X101, e101, E101, A101, D101, -, st101⟩ := newO X94 hx hZ hown (hw _ (List.mem_of_getElem? (i := 11) rfl)) (hw _ (List.mem_of_getElem? (i := 12) rfl)) (hw _ (List.mem_of_getElem? (i := 13) rfl)) e94 (g := (mkF m 36 #[.val (.int p0), .val (.int p1), .val (.int p2), .val (.ref (w4_BACKUP_VAULT Z)), .val (.ref (w1_YEAR Z)), .val (.int (p2 &&& (2147483647 : Int32))), .unset, .unset] [])) rfl (hb hby at_36) (by decide) (by decide)
        obtain ⟨b101, z101⟩ : ∃ z, z = h0.size := ⟨_, rfl⟩
        rw [← z101] at A101 D101 st101
        refine own_step st101 ?_
        have g101 : n0 ≤ b101 := Nat.le_trans (O0.1 ▸ O0.2.1) (Nat.le_of_eq z101.symm)
        have y101 : h0.size ≤ b101 := Nat.le_trans (Nat.le_refl _) (Nat.le_of_eq z101.symm)
        have O101 := O0.ext E101
        have K101 : Keep h0 h101 [] := (Keep.refl h0 []).ext E101
        have F101_38 : Fld Z h101 b101 "com/example/meter_to_month/metertomonth/ledger/BillingPeriod" "unit" "Lcom/example/meter_to_month/metertomonth/ledger/BillingPeriod$Unit;" .null := D101 (Or.inr (hw _ (List.mem_of_getElem? (i := 38) rfl))) (ty := (.object "com/example/meter_to_month/metertomonth/ledger/BillingPeriod$Unit")) (by decide)
        have F101_40 : Fld Z h101 b101 "com/example/meter_to_month/metertomonth/ledger/BillingPeriod" "count" "I" (.int (0 : Int32)) := D101 (Or.inr (hw _ (List.mem_of_getElem? (i := 40) rfl))) (ty := .int) (by decide)
        show own_Wp p e below _ T101 (mkF m 39 #[.val (.int p0), .val (.int p1), .val (.int p2), .val (.ref (w4_BACKUP_VAULT Z)), .val (.ref (w1_YEAR Z)), .val (.int (p2 &&& (2147483647 : Int32))), .unset, .unset] [(.ref b101)])
        refine own_step (fun _ k => XS.dup X101.here hx rfl (hb hby at_39) rfl rfl k) ?_
        show own_Wp p e below _ T101 (mkF m 40 #[.val (.int p0), .val (.int p1), .val (.int p2), .val (.ref (w4_BACKUP_VAULT Z)), .val (.ref (w1_YEAR Z)), .val (.int (p2 &&& (2147483647 : Int32))), .unset, .unset] [(.ref b101), (.ref b101)])
        refine own_step (fun _ k => XS.aload X101.here hx rfl (hb hby at_40) rfl rfl k) ?_
        show own_Wp p e below _ T101 (mkF m 42 #[.val (.int p0), .val (.int p1), .val (.int p2), .val (.ref (w4_BACKUP_VAULT Z)), .val (.ref (w1_YEAR Z)), .val (.int (p2 &&& (2147483647 : Int32))), .unset, .unset] [(.ref (w1_YEAR Z)), (.ref b101), (.ref b101)])
        refine own_step (fun _ k => XS.iload X101.here hx rfl (hb hby at_42) rfl k) ?_
        show own_Wp p e below _ T101 (mkF m 44 #[.val (.int p0), .val (.int p1), .val (.int p2), .val (.ref (w4_BACKUP_VAULT Z)), .val (.ref (w1_YEAR Z)), .val (.int (p2 &&& (2147483647 : Int32))), .unset, .unset] [(.int (p2 &&& (2147483647 : Int32))), (.ref (w1_YEAR Z)), (.ref b101), (.ref b101)])
        obtain ⟨_, T102, L102, X102, hS102, hZ102, hown102, hQ102, st102⟩ := own_callNW X101 hx hZ hS0 (Nat.zero_le _) rfl hown (hw _ (List.mem_of_getElem? (i := 14) rfl)) (hw _ (List.mem_of_getElem? (i := 15) rfl)) (hw _ (List.mem_of_getElem? (i := 13) rfl)) (hw _ (List.mem_of_getElem? (i := 16) rfl)) (by decide) (rm2_7 l Z a0 hw hA [] b101 (w1_YEAR Z) (p2 &&& (2147483647 : Int32)) h101 n0 O101 A101 F101_38 F101_40 g101 hpos) (b := b101) (W := 1) (by decide) (by decide) [(.ref (w1_YEAR Z)), (.int (p2 &&& (2147483647 : Int32)))] rfl (lenOf pd7 rfl) (Ls := #[.val (.int p0), .val (.int p1), .val (.int p2), .val (.ref (w4_BACKUP_VAULT Z)), .val (.ref (w1_YEAR Z)), .val (.int (p2 &&& (2147483647 : Int32))), .unset, .unset]) (by rw [hml]; rfl) (rest := [(.ref b101)]) (Nat.le_of_eq rfl) (hb hby at_44) e101 (by decide) (by decide)
        refine st102 _ ?_
        obtain ⟨rfl, N102q, K102q, F102_0, F102_1, F102_2⟩ := hQ102
        have N102 := Fr.app N1d N102q
        have O102 := O101.keep K102q (allS g101 all0)
        have K102 : Keep h0 T102.heap [] := Keep.trans K101 K102q (allS (Or.inr y101) all0)
        show own_Wp p e below _ T102 (mkF m 47 #[.val (.int p0), .val (.int p1), .val (.int p2), .val (.ref (w4_BACKUP_VAULT Z)), .val (.ref (w1_YEAR Z)), .val (.int (p2 &&& (2147483647 : Int32))), .unset, .unset] [(.ref b101)])
        refine own_step (fun _ k => XS.astore X102.here hx rfl (hb hby at_47) rfl rfl (l' := #[.val (.int p0), .val (.int p1), .val (.int p2), .val (.ref (w4_BACKUP_VAULT Z)), .val (.ref (w1_YEAR Z)), .val (.int (p2 &&& (2147483647 : Int32))), .val (.ref b101), .unset]) rfl k) ?_
        show own_Wp p e below _ T102 (mkF m 49 #[.val (.int p0), .val (.int p1), .val (.int p2), .val (.ref (w4_BACKUP_VAULT Z)), .val (.ref (w1_YEAR Z)), .val (.int (p2 &&& (2147483647 : Int32))), .val (.ref b101), .unset] [])
        refine own_step (fun _ k => XS.aloadN X102.here hx rfl (hb hby at_49) rfl rfl k) ?_
        show own_Wp p e below _ T102 (mkF m 50 #[.val (.int p0), .val (.int p1), .val (.int p2), .val (.ref (w4_BACKUP_VAULT Z)), .val (.ref (w1_YEAR Z)), .val (.int (p2 &&& (2147483647 : Int32))), .val (.ref b101), .unset] [(.ref (w4_BACKUP_VAULT Z))])
        refine own_step (fun _ k => XS.aload X102.here hx rfl (hb hby at_50) rfl rfl k) ?_
        show own_Wp p e below _ T102 (mkF m 52 #[.val (.int p0), .val (.int p1), .val (.int p2), .val (.ref (w4_BACKUP_VAULT Z)), .val (.ref (w1_YEAR Z)), .val (.int (p2 &&& (2147483647 : Int32))), .val (.ref b101), .unset] [(.ref b101), (.ref (w4_BACKUP_VAULT Z))])
        obtain ⟨_, T103, L103, X103, hQ103, st103⟩ := own_callV X102 hx hZ102 hown102 (hw _ (List.mem_of_getElem? (i := 41) rfl)) (hw _ (List.mem_of_getElem? (i := 42) rfl)) (notFace_of_selects (args := #[]) (mvT hZ102 (hw _ (List.mem_of_getElem? (i := 44) rfl)))) (hw _ (List.mem_of_getElem? (i := 44) rfl)) (hw _ (List.mem_of_getElem? (i := 43) rfl)) (hw _ (List.mem_of_getElem? (i := 5) rfl)) (hw _ (List.mem_of_getElem? (i := 45) rfl)) (by decide) ((ex_w4_BACKUP_VAULT hw hA).ext O102.2) (rm6_4 l Z a0 hw hA [] (w4_BACKUP_VAULT Z) b101 T102.heap n0 O102 (fl2 hw hA)) (W := 0) (by decide) (by decide) [(.ref b101)] rfl (lenOf pd9 rfl) (Ls := #[.val (.int p0), .val (.int p1), .val (.int p2), .val (.ref (w4_BACKUP_VAULT Z)), .val (.ref (w1_YEAR Z)), .val (.int (p2 &&& (2147483647 : Int32))), .val (.ref b101), .unset]) (by rw [hml]; rfl) (rest := []) (Nat.le_of_eq rfl) (hb hby at_52) rfl (by decide) (by decide)
        refine st103 _ ?_
        obtain ⟨rfl, N103q, e103⟩ := hQ103
        have N103 := Fr.app N102 N103q
        show own_Wp p e below _ T103 (mkF m 55 #[.val (.int p0), .val (.int p1), .val (.int p2), .val (.ref (w4_BACKUP_VAULT Z)), .val (.ref (w1_YEAR Z)), .val (.int (p2 &&& (2147483647 : Int32))), .val (.ref b101), .unset] [(.ref b101)])
        refine own_step (fun _ k => XS.astore X103.here hx rfl (hb hby at_55) rfl rfl (l' := #[.val (.int p0), .val (.int p1), .val (.int p2), .val (.ref (w4_BACKUP_VAULT Z)), .val (.ref (w1_YEAR Z)), .val (.int (p2 &&& (2147483647 : Int32))), .val (.ref b101), .val (.ref b101)]) rfl k) ?_
        show own_Wp p e below _ T103 (mkF m 57 #[.val (.int p0), .val (.int p1), .val (.int p2), .val (.ref (w4_BACKUP_VAULT Z)), .val (.ref (w1_YEAR Z)), .val (.int (p2 &&& (2147483647 : Int32))), .val (.ref b101), .val (.ref b101)] [])
        refine own_step (fun _ k => XS.aload X103.here hx rfl (hb hby at_57) rfl rfl k) ?_
        show own_Wp p e below _ T103 (mkF m 59 #[.val (.int p0), .val (.int p1), .val (.int p2), .val (.ref (w4_BACKUP_VAULT Z)), .val (.ref (w1_YEAR Z)), .val (.int (p2 &&& (2147483647 : Int32))), .val (.ref b101), .val (.ref b101)] [(.ref b101)])
        refine own_step (fun _ k => XS.ifnonnullYes X103.here hx rfl (pc0 := 59) (pc' := 64) rfl (hb hby at_59) rfl (by decide) (by decide) k) ?_
        show own_Wp p e below _ T103 (mkF m 64 #[.val (.int p0), .val (.int p1), .val (.int p2), .val (.ref (w4_BACKUP_VAULT Z)), .val (.ref (w1_YEAR Z)), .val (.int (p2 &&& (2147483647 : Int32))), .val (.ref b101), .val (.ref b101)] [])
        refine own_step (fun _ k => XS.iloadN X103.here hx rfl (hb hby at_64) rfl k) ?_
        show own_Wp p e below _ T103 (mkF m 65 #[.val (.int p0), .val (.int p1), .val (.int p2), .val (.ref (w4_BACKUP_VAULT Z)), .val (.ref (w1_YEAR Z)), .val (.int (p2 &&& (2147483647 : Int32))), .val (.ref b101), .val (.ref b101)] [(.int p0)])
        refine own_step (fun _ k => XS.iconst X103.here hx rfl (hb hby at_65) k) ?_
        show own_Wp p e below _ T103 (mkF m 66 #[.val (.int p0), .val (.int p1), .val (.int p2), .val (.ref (w4_BACKUP_VAULT Z)), .val (.ref (w1_YEAR Z)), .val (.int (p2 &&& (2147483647 : Int32))), .val (.ref b101), .val (.ref b101)] [(.int (3 : Int32)), (.int p0)])
        refine own_step (fun _ k => XS.iand X103.here hx rfl (hb hby at_66) rfl k) ?_
        show own_Wp p e below _ T103 (mkF m 67 #[.val (.int p0), .val (.int p1), .val (.int p2), .val (.ref (w4_BACKUP_VAULT Z)), .val (.ref (w1_YEAR Z)), .val (.int (p2 &&& (2147483647 : Int32))), .val (.ref b101), .val (.ref b101)] [(.int (p0 &&& (3 : Int32)))])
        refine own_step (fun _ k => XS.iconst X103.here hx rfl (hb hby at_67) k) ?_
        show own_Wp p e below _ T103 (mkF m 68 #[.val (.int p0), .val (.int p1), .val (.int p2), .val (.ref (w4_BACKUP_VAULT Z)), .val (.ref (w1_YEAR Z)), .val (.int (p2 &&& (2147483647 : Int32))), .val (.ref b101), .val (.ref b101)] [(.int (2 : Int32)), (.int (p0 &&& (3 : Int32)))])
        refine own_step (fun _ k => XS.icmpYes X103.here hx rfl (pc0 := 68) (pc' := 97) rfl (hb hby at_68) rfl (feq (by rw [hq1d_0]; decide)).2 (by decide) (by decide) k) ?_
        show own_Wp p e below _ T103 (mkF m 97 #[.val (.int p0), .val (.int p1), .val (.int p2), .val (.ref (w4_BACKUP_VAULT Z)), .val (.ref (w1_YEAR Z)), .val (.int (p2 &&& (2147483647 : Int32))), .val (.ref b101), .val (.ref b101)] [])
        refine own_step (fun _ k => XS.aload X103.here hx rfl (hb hby at_97) rfl rfl k) ?_
        show own_Wp p e below _ T103 (mkF m 99 #[.val (.int p0), .val (.int p1), .val (.int p2), .val (.ref (w4_BACKUP_VAULT Z)), .val (.ref (w1_YEAR Z)), .val (.int (p2 &&& (2147483647 : Int32))), .val (.ref b101), .val (.ref b101)] [(.ref b101)])
        obtain ⟨_, T104, L104, X104, hQ104, st104⟩ := own_callV X103 hx hZ102 hown102 (hw _ (List.mem_of_getElem? (i := 48) rfl)) (hw _ (List.mem_of_getElem? (i := 49) rfl)) (notFace_of_selects (args := #[]) (mvT hZ102 (hw _ (List.mem_of_getElem? (i := 51) rfl)))) (hw _ (List.mem_of_getElem? (i := 51) rfl)) (hw _ (List.mem_of_getElem? (i := 50) rfl)) (hw _ (List.mem_of_getElem? (i := 13) rfl)) (hw _ (List.mem_of_getElem? (i := 52) rfl)) (by decide) F102_0 (rm7_9 l Z a0 hw hA [] b101 T102.heap n0 O102 F102_1) (W := 0) (by decide) (by decide) [] rfl (lenOf pd10 rfl) (Ls := #[.val (.int p0), .val (.int p1), .val (.int p2), .val (.ref (w4_BACKUP_VAULT Z)), .val (.ref (w1_YEAR Z)), .val (.int (p2 &&& (2147483647 : Int32))), .val (.ref b101), .val (.ref b101)]) (by rw [hml]; rfl) (rest := []) (Nat.le_of_eq rfl) (hb hby at_99) e103 (by decide) (by decide)
        refine st104 _ ?_
        obtain ⟨rfl, N104q, e104⟩ := hQ104
        have N104 := Fr.app N103 N104q
        show own_Wp p e below _ T104 (mkF m 102 #[.val (.int p0), .val (.int p1), .val (.int p2), .val (.ref (w4_BACKUP_VAULT Z)), .val (.ref (w1_YEAR Z)), .val (.int (p2 &&& (2147483647 : Int32))), .val (.ref b101), .val (.ref b101)] [(.ref (w1_YEAR Z))])
        refine own_step (fun _ k => XS.aload X104.here hx rfl (hb hby at_102) rfl rfl k) ?_
        show own_Wp p e below _ T104 (mkF m 104 #[.val (.int p0), .val (.int p1), .val (.int p2), .val (.ref (w4_BACKUP_VAULT Z)), .val (.ref (w1_YEAR Z)), .val (.int (p2 &&& (2147483647 : Int32))), .val (.ref b101), .val (.ref b101)] [(.ref (w1_YEAR Z)), (.ref (w1_YEAR Z))])
        refine own_step (fun _ k => Jvm.RoadKit.acmp (g := (mkF m 104 #[.val (.int p0), .val (.int p1), .val (.int p2), .val (.ref (w4_BACKUP_VAULT Z)), .val (.ref (w1_YEAR Z)), .val (.int (p2 &&& (2147483647 : Int32))), .val (.ref b101), .val (.ref b101)] [(.ref (w1_YEAR Z)), (.ref (w1_YEAR Z))])) X104 hx rfl rfl rfl (pc0 := 104) (pc' := 107) (same := true) rfl (hb hby at_104) rfl (decide_eq_true rfl) (by decide) (by decide) k) ?_
        show own_Wp p e below _ T104 (mkF m 107 #[.val (.int p0), .val (.int p1), .val (.int p2), .val (.ref (w4_BACKUP_VAULT Z)), .val (.ref (w1_YEAR Z)), .val (.int (p2 &&& (2147483647 : Int32))), .val (.ref b101), .val (.ref b101)] [])
        refine own_step (fun _ k => XS.aload X104.here hx rfl (hb hby at_107) rfl rfl k) ?_
        show own_Wp p e below _ T104 (mkF m 109 #[.val (.int p0), .val (.int p1), .val (.int p2), .val (.ref (w4_BACKUP_VAULT Z)), .val (.ref (w1_YEAR Z)), .val (.int (p2 &&& (2147483647 : Int32))), .val (.ref b101), .val (.ref b101)] [(.ref b101)])
        obtain ⟨_, T105, L105, X105, hQ105, st105⟩ := own_callV X104 hx hZ102 hown102 (hw _ (List.mem_of_getElem? (i := 53) rfl)) (hw _ (List.mem_of_getElem? (i := 54) rfl)) (notFace_of_selects (args := #[]) (mvT hZ102 (hw _ (List.mem_of_getElem? (i := 56) rfl)))) (hw _ (List.mem_of_getElem? (i := 56) rfl)) (hw _ (List.mem_of_getElem? (i := 55) rfl)) (hw _ (List.mem_of_getElem? (i := 13) rfl)) (hw _ (List.mem_of_getElem? (i := 57) rfl)) (by decide) F102_0 (rm8_8 l Z a0 hw hA [] b101 (p2 &&& (2147483647 : Int32)) T102.heap n0 O102 F102_2) (W := 0) (by decide) (by decide) [] rfl (lenOf pd11 rfl) (Ls := #[.val (.int p0), .val (.int p1), .val (.int p2), .val (.ref (w4_BACKUP_VAULT Z)), .val (.ref (w1_YEAR Z)), .val (.int (p2 &&& (2147483647 : Int32))), .val (.ref b101), .val (.ref b101)]) (by rw [hml]; rfl) (rest := []) (Nat.le_of_eq rfl) (hb hby at_109) e104 (by decide) (by decide)
        refine st105 _ ?_
        obtain ⟨rfl, N105q, e105⟩ := hQ105
        have N105 := Fr.app N104 N105q
        show own_Wp p e below _ T105 (mkF m 112 #[.val (.int p0), .val (.int p1), .val (.int p2), .val (.ref (w4_BACKUP_VAULT Z)), .val (.ref (w1_YEAR Z)), .val (.int (p2 &&& (2147483647 : Int32))), .val (.ref b101), .val (.ref b101)] [(.int (p2 &&& (2147483647 : Int32)))])
        refine own_step (fun _ k => XS.iload X105.here hx rfl (hb hby at_112) rfl k) ?_
        show own_Wp p e below _ T105 (mkF m 114 #[.val (.int p0), .val (.int p1), .val (.int p2), .val (.ref (w4_BACKUP_VAULT Z)), .val (.ref (w1_YEAR Z)), .val (.int (p2 &&& (2147483647 : Int32))), .val (.ref b101), .val (.ref b101)] [(.int (p2 &&& (2147483647 : Int32))), (.int (p2 &&& (2147483647 : Int32)))])
        refine own_step (fun _ k => XS.icmpNo X105.here hx rfl (hb hby at_114) rfl (teq (rfl : (p2 &&& (2147483647 : Int32)) = (p2 &&& (2147483647 : Int32)))).2 k) ?_
        show own_Wp p e below _ T105 (mkF m 117 #[.val (.int p0), .val (.int p1), .val (.int p2), .val (.ref (w4_BACKUP_VAULT Z)), .val (.ref (w1_YEAR Z)), .val (.int (p2 &&& (2147483647 : Int32))), .val (.ref b101), .val (.ref b101)] [])
        refine own_step (fun _ k => XS.iconst X105.here hx rfl (hb hby at_117) k) ?_
        show own_Wp p e below _ T105 (mkF m 118 #[.val (.int p0), .val (.int p1), .val (.int p2), .val (.ref (w4_BACKUP_VAULT Z)), .val (.ref (w1_YEAR Z)), .val (.int (p2 &&& (2147483647 : Int32))), .val (.ref b101), .val (.ref b101)] [(.int (1 : Int32))])
        refine own_step (fun _ k => XS.goto X105.here hx rfl (pc0 := 118) (pc' := 122) rfl (hb hby at_118) (by decide) (by decide) k) ?_
        show own_Wp p e below _ T105 (mkF m 122 #[.val (.int p0), .val (.int p1), .val (.int p2), .val (.ref (w4_BACKUP_VAULT Z)), .val (.ref (w1_YEAR Z)), .val (.int (p2 &&& (2147483647 : Int32))), .val (.ref b101), .val (.ref b101)] [(.int (1 : Int32))])
        exact own_retNW X105 hS102 (by rw [e105]; exact (Nat.le_refl _)) hx (t := .boolean) hret (by simp) hlk (hb hby at_122) (by decide) (by decide) ⟨rfl, N105⟩
set_option maxRecDepth 65536 in
set_option maxHeartbeats 40000000 in
theorem comes_1 {Post : Tables → Env → Array Value → State → Outcome → State → Prop} (hpost : ∀ tb e args s v u, (limb_1_1.after args s (.returned v) u = true ∧ limb_1_2.after args s (.returned v) u = true ∧ True) → ReturnedEndW s (.returned v) u (Jvm.fieldLocs frame_1_writes args s ++ Jvm.arrayLocs frame_1_arrays args s ++ Jvm.staticLocs frame_1_statics s) 16 1152 → Post tb e args s (.returned v) u) :
    ArmFor flags0 classFile x code maxLocals ret World_1 tables_1 room_1 Calls_1 rest_1 Pre_1 Post := by
  intro l hfl _ _ p e ha hc hk s m args below hf hA hF happ hP
  obtain ⟨hcalls, hrest, hpre⟩ := hP
  obtain ⟨-, -, -, hnamed, -, -, -, hat⟩ := (Spec.applies_iff hf).mp happ
  obtain ⟨hg, hn⟩ := and_e (Cond.before_iff.mp (show (Jvm.Cond.and given_1 narrow_1).before args s = true from hpre))
  obtain ⟨gg1, gg2⟩ := and_e hg
  obtain ⟨gg3, gg4⟩ := and_e gg2
  obtain ⟨gg5, gg6⟩ := and_e gg4
  obtain ⟨w0, w1, w2, rfl⟩ : ∃ w0 w1 w2 : Value, args = #[w0, w1, w2] := by
    have hs : args.size = 3 := by simpa [Cond.value, given_1] using gg1
    obtain ⟨L⟩ := args
    match L, hs with
    | [w0, w1, w2], _ => exact ⟨w0, w1, w2, rfl⟩
  have hw := fun d (hd : d ∈ tables_1) => atoms_spec (ws := Jvm.Cond.code x code maxLocals ret :: tables_1) hat d (List.mem_cons_of_mem _ hd)
  have hfit : Fit s := fun {y c} hc i hi => by
    obtain ⟨ha, rfl⟩ := Array.getElem?_eq_some_iff.mp hc
    have q := List.all_eq_true.mp ((Array.all_eq_true_iff_forall_mem.mp hF) _ (Array.getElem_mem ha)) i (List.mem_range.mpr hi)
    simpa [Array.getElem?_eq_getElem hi] using q
  obtain ⟨i0, ei0⟩ := is_v gg3
  obtain rfl : w0 = (.int i0) := Option.some.inj ei0
  obtain ⟨i1, ei1⟩ := is_v gg5
  obtain rfl : w1 = (.int i1) := Option.some.inj ei1
  obtain ⟨i2, ei2⟩ := is_v gg6
  obtain rfl : w2 = (.int i2) := Option.some.inj ei2
  obtain ⟨n, o, h1, h2, h3, _, L, rfl, ⟨rfl, N⟩, hq⟩ := rm0 l s _ hw (own_mem narrow_1 hn) tables_1 i0 i1 i2 s.heap s.heap.size (Old.start s) p e ha hc hk s m _ below hf ((Spec.applies_iff_loose hf).mp happ).1 ⟨rfl, State.Warmed39.refl s, rfl⟩ trivial
  refine ⟨n, _, h1, h2, h3, hpost _ _ _ _ _ _ ⟨Cond.after_iff.mpr rfl, Cond.after_iff.mpr (eq_i res_at (Term.int_eval (1)) rfl), trivial⟩ ⟨hq.1, hq.2.1, hq.2.2.1, (hq.2.2.2.sift fun y hy => Or.inr (N y hy)).mono (by decide) (by decide)⟩⟩
theorem main_1_1 : Claimed_1_1 := comes_1 fun _ _ _ _ _ _ h hF => ⟨h.1, hF⟩
theorem main_1_2 : Claimed_1_2 := comes_1 fun _ _ _ _ _ _ h hF => ⟨h.2.1, hF⟩

end Jvm.Pilot.@@N@@
namespace Jvm.Pilot.@@N@@
open Jvm Jvm.ClassFile Sem Op Lib Jvm.Free Jvm.Stand Jvm.Pilot.@@N@@.Jvm.D
/-! MADE BY PROGRAM (witnessworld.py) out of the Statement's table words and the real class files: 20 classes; the members and pool entries that the words name. The judged class is class 1, her method 2. -/
namespace start1
open Jvm.ClassFile
def u (s : String) : CpInfo := .utf8 (stringToUtf16 s)
/-- a pool by its gaps: so many unusable entries, then the entry; so many at the end -/
def gap : Nat → List CpInfo → List CpInfo
  | 0, r => r
  | n + 1, r => .unusable :: gap n r
def poolList (es : List (Nat × CpInfo)) (last : Nat) : List CpInfo := es.foldr (fun e r => gap e.1 (e.2 :: r)) (gap last [])
def pool (es : List (Nat × CpInfo)) (last : Nat) : Array CpInfo := ⟨poolList es last⟩
def fileOf (pool : Array CpInfo) (this : Nat) (attrs : Array Attribute := #[]) (ms : Array MethodInfo := #[]) (fl : Nat := 33) (sup : Nat := 0) (ifs : Array Nat := #[]) (fds : Array FieldInfo := #[]) : ClassFile where
  minorVersion := 0
  majorVersion := 65
  constantPool := pool
  accessFlags := fl
  thisClass := this
  superClass := sup
  interfaces := ifs
  fields := fds
  methods := ms
  attributes := attrs
def plain (name : String) (sup : Option ClassId) : Class where
  name := name
  kind := .ordinary
  loader := none
  accessFlags := 33
  super := sup
  interfaces := #[]
  cf := none
  fields := #[]
  methods := #[]
  instanceTypes := #[]
  staticTypes := #[]
  resolved := #[]
  callSites := []
  init := .initialized
  statics := none
  mirror := none

def pool0 : Array CpInfo := pool [(5, u "<init>"), (0, u "()V"), (1, .class_ 10), (1, u "java/lang/Object")] 113

def k0c0 : Code := { maxStack := 0, maxLocals := 1, code := object_method_1_code, exceptionTable := #[], attributes := #[] }
def k0m0 : Method := { name := "<init>", desc := "()V", sig := { parameters := [], returnType := none }, accessFlags := 1, code := some k0c0 }
/-- java/lang/Object -/
def k0 : Class := { plain "java/lang/Object" none with
  accessFlags := 33
  interfaces := #[]
  cf := some (fileOf pool0 8 #[] #[{ accessFlags := 1, nameIndex := 5, descriptorIndex := 6, attributes := #[] }] 33 0 #[] #[])
  fields := #[]
  methods := #[k0m0]
  instanceTypes := #[]
  staticTypes := #[]
  resolved := Array.replicate 124 none
  statics := none }

def pool1 : Array CpInfo := pool [(2, .class_ 4), (1, u "java/lang/Object"), (0, u "<init>"), (0, u "()V"), (0, .fieldref 8 9), (0, .class_ 10), (0, .nameAndType 11 12), (0, u "com/example/meter_to_month/metertomonth/ledger/ResourceKind"), (0, u "SEARCH_CLUSTER"), (0, u "Lcom/example/meter_to_month/metertomonth/ledger/ResourceKind;"), (0, .fieldref 8 14), (0, .nameAndType 15 12), (0, u "DATABASE_INSTANCE"), (0, .fieldref 8 17), (0, .nameAndType 18 12), (0, u "ELASTIC_IP"), (0, .fieldref 8 20), (0, .nameAndType 21 12), (0, u "BACKUP_VAULT"), (0, .methodref 23 24), (0, .class_ 25), (0, .nameAndType 26 27), (0, u "com/example/meter_to_month/metertomonth/ledger/ResourceKindRenewalOfPinLaw"), (0, u "kindOf"), (0, u "(I)Lcom/example/meter_to_month/metertomonth/ledger/ResourceKind;"), (0, .fieldref 29 30), (0, .class_ 31), (0, .nameAndType 32 33), (0, u "com/example/meter_to_month/metertomonth/ledger/BillingPeriod$Unit"), (0, u "YEAR"), (0, u "Lcom/example/meter_to_month/metertomonth/ledger/BillingPeriod$Unit;"), (0, .fieldref 29 35), (0, .nameAndType 36 33), (0, u "MONTH"), (0, .integer 2147483647), (0, .class_ 39), (0, u "com/example/meter_to_month/metertomonth/ledger/BillingPeriod"), (0, .methodref 38 41), (0, .nameAndType 5 42), (0, u "(Lcom/example/meter_to_month/metertomonth/ledger/BillingPeriod$Unit;I)V"), (0, .methodref 8 44), (0, .nameAndType 45 46), (0, u "renewalOf"), (0, u "(Lcom/example/meter_to_month/metertomonth/ledger/BillingPeriod;)Lcom/example/meter_to_month/metertomonth/ledger/BillingPeriod;"), (0, .methodref 38 48), (0, .nameAndType 49 50), (0, u "unit"), (0, u "()Lcom/example/meter_to_month/metertomonth/ledger/BillingPeriod$Unit;"), (0, .methodref 38 52), (0, .nameAndType 53 54), (0, u "count"), (0, u "()I"), (3, u "law"), (0, u "(III)Z")] 4

def k1m0 : Method := { name := "<init>", desc := "()V", sig := { parameters := [], returnType := none }, accessFlags := 1, code := none }
def k1c1 : Code := { maxStack := 2, maxLocals := 2, code := method_2_code, exceptionTable := #[], attributes := #[] }
def k1m1 : Method := { name := "kindOf", desc := "(I)Lcom/example/meter_to_month/metertomonth/ledger/ResourceKind;", sig := { parameters := [.int], returnType := some (.object "com/example/meter_to_month/metertomonth/ledger/ResourceKind") }, accessFlags := 10, code := some k1c1 }
def k1c2 : Code := { maxStack := 4, maxLocals := 8, code := code, exceptionTable := #[], attributes := #[] }
def k1m2 : Method := { name := "law", desc := "(III)Z", sig := { parameters := [.int, .int, .int], returnType := some .boolean }, accessFlags := 9, code := some k1c2 }
/-- com/example/meter_to_month/metertomonth/ledger/ResourceKindRenewalOfPinLaw -/
def k1 : Class := { plain "com/example/meter_to_month/metertomonth/ledger/ResourceKindRenewalOfPinLaw" (some 0) with
  accessFlags := 49
  interfaces := #[]
  cf := some (fileOf pool1 23 #[] #[{ accessFlags := 1, nameIndex := 5, descriptorIndex := 6, attributes := #[] }, { accessFlags := 10, nameIndex := 26, descriptorIndex := 27, attributes := #[] }, { accessFlags := 9, nameIndex := 58, descriptorIndex := 59, attributes := #[] }] 49 2 #[] #[])
  fields := #[]
  methods := #[k1m0, k1m1, k1m2]
  instanceTypes := #[]
  staticTypes := #[]
  resolved := Array.replicate 64 none
  statics := none }

def pool2 : Array CpInfo := pool [(1, .class_ 2), (0, u "java/lang/constant/Constable"), (0, .class_ 4), (0, u "java/lang/Object")] 6

/-- java/lang/constant/Constable -/
def k2 : Class := { plain "java/lang/constant/Constable" (some 0) with
  accessFlags := 1537
  interfaces := #[]
  cf := some (fileOf pool2 1 #[] #[] 1537 3 #[] #[])
  fields := #[]
  methods := #[]
  instanceTypes := #[]
  staticTypes := #[]
  resolved := Array.replicate 11 none
  statics := none }

def pool3 : Array CpInfo := pool [(1, .class_ 2), (0, u "java/lang/Comparable"), (0, .class_ 4), (0, u "java/lang/Object")] 7

/-- java/lang/Comparable -/
def k3 : Class := { plain "java/lang/Comparable" (some 0) with
  accessFlags := 1537
  interfaces := #[]
  cf := some (fileOf pool3 1 #[] #[] 1537 3 #[] #[])
  fields := #[]
  methods := #[]
  instanceTypes := #[]
  staticTypes := #[]
  resolved := Array.replicate 12 none
  statics := none }

def pool4 : Array CpInfo := pool [(1, .class_ 2), (0, u "java/io/Serializable"), (0, .class_ 4), (0, u "java/lang/Object")] 2

/-- java/io/Serializable -/
def k4 : Class := { plain "java/io/Serializable" (some 0) with
  accessFlags := 1537
  interfaces := #[]
  cf := some (fileOf pool4 1 #[] #[] 1537 3 #[] #[])
  fields := #[]
  methods := #[]
  instanceTypes := #[]
  staticTypes := #[]
  resolved := Array.replicate 7 none
  statics := none }

def pool5 : Array CpInfo := pool [(2, .class_ 4), (1, u "java/lang/Enum"), (0, u "name"), (0, u "Ljava/lang/String;"), (2, u "ordinal"), (0, u "I"), (1, .class_ 14), (1, u "java/lang/Object"), (4, u "hash"), (86, .class_ 108), (1, u "java/lang/Enum$EnumDesc"), (2, .class_ 112), (0, u "java/lang/constant/Constable"), (0, .class_ 114), (0, u "java/lang/Comparable"), (0, .class_ 116), (0, u "java/io/Serializable")] 87

/-- java/lang/Enum -/
def k5 : Class := { plain "java/lang/Enum" (some 0) with
  accessFlags := 1057
  interfaces := #[2, 3, 4]
  cf := some (fileOf pool5 2 #[.nestMembers #[106]] #[] 1057 12 #[111, 113, 115] #[{ accessFlags := 18, nameIndex := 5, descriptorIndex := 6, attributes := #[] }, { accessFlags := 18, nameIndex := 9, descriptorIndex := 10, attributes := #[] }, { accessFlags := 2, nameIndex := 19, descriptorIndex := 10, attributes := #[] }])
  fields := #[{ name := "name", type := (.object "java/lang/String"), accessFlags := 18, slot := 0, constantValue := 0 }, { name := "ordinal", type := .int, accessFlags := 18, slot := 1, constantValue := 0 }, { name := "hash", type := .int, accessFlags := 2, slot := 2, constantValue := 0 }]
  methods := #[]
  instanceTypes := #[(.object "java/lang/String"), .int, .int]
  staticTypes := #[]
  resolved := Array.replicate 204 none
  statics := none }

def pool6 : Array CpInfo := pool [(29, .class_ 30), (0, u "com/example/meter_to_month/metertomonth/ledger/Labelled"), (10, .class_ 42), (0, u "java/lang/Object")] 30

/-- com/example/meter_to_month/metertomonth/ledger/Labelled -/
def k6 : Class := { plain "com/example/meter_to_month/metertomonth/ledger/Labelled" (some 0) with
  accessFlags := 1536
  interfaces := #[]
  cf := some (fileOf pool6 29 #[] #[] 1536 41 #[] #[])
  fields := #[]
  methods := #[]
  instanceTypes := #[]
  staticTypes := #[]
  resolved := Array.replicate 73 none
  statics := none }

def pool7 : Array CpInfo := pool [(1, .class_ 2), (0, u "com/example/meter_to_month/metertomonth/ledger/ResourceKind"), (2, u "SEARCH_CLUSTER"), (0, u "Lcom/example/meter_to_month/metertomonth/ledger/ResourceKind;"), (2, u "DATABASE_INSTANCE"), (2, u "ELASTIC_IP"), (2, u "BACKUP_VAULT"), (2, u "$VALUES"), (0, u "[Lcom/example/meter_to_month/metertomonth/ledger/ResourceKind;"), (6, .class_ 28), (1, u "java/lang/Enum"), (8, u "label"), (0, u "Ljava/lang/String;"), (2, u "longestMonths"), (0, u "I"), (2, u "longestYears"), (0, .fieldref 1 47), (0, .nameAndType 48 49), (0, u "renewal"), (0, u "Lcom/example/meter_to_month/metertomonth/ledger/BillingPeriod;"), (1, .class_ 53), (1, u "com/example/meter_to_month/metertomonth/ledger/Labelled"), (3, .class_ 59), (1, u "com/example/meter_to_month/metertomonth/ledger/ResourceKind$1"), (78, u "renewalOf"), (0, u "(Lcom/example/meter_to_month/metertomonth/ledger/BillingPeriod;)Lcom/example/meter_to_month/metertomonth/ledger/BillingPeriod;")] 22

def k7c0 : Code := { maxStack := 1, maxLocals := 2, code := prog_15_method_7_code, exceptionTable := #[], attributes := #[] }
def k7m0 : Method := { name := "renewalOf", desc := "(Lcom/example/meter_to_month/metertomonth/ledger/BillingPeriod;)Lcom/example/meter_to_month/metertomonth/ledger/BillingPeriod;", sig := { parameters := [(.object "com/example/meter_to_month/metertomonth/ledger/BillingPeriod")], returnType := some (.object "com/example/meter_to_month/metertomonth/ledger/BillingPeriod") }, accessFlags := 0, code := some k7c0 }
/-- com/example/meter_to_month/metertomonth/ledger/ResourceKind -/
def k7 : Class := { plain "com/example/meter_to_month/metertomonth/ledger/ResourceKind" (some 5) with
  accessFlags := 16433
  interfaces := #[6]
  cf := some (fileOf pool7 1 #[.nestMembers #[57]] #[{ accessFlags := 0, nameIndex := 138, descriptorIndex := 139, attributes := #[] }] 16433 26 #[51] #[{ accessFlags := 16409, nameIndex := 5, descriptorIndex := 6, attributes := #[] }, { accessFlags := 16409, nameIndex := 9, descriptorIndex := 6, attributes := #[] }, { accessFlags := 16409, nameIndex := 12, descriptorIndex := 6, attributes := #[] }, { accessFlags := 16409, nameIndex := 15, descriptorIndex := 6, attributes := #[] }, { accessFlags := 18, nameIndex := 37, descriptorIndex := 38, attributes := #[] }, { accessFlags := 18, nameIndex := 41, descriptorIndex := 42, attributes := #[] }, { accessFlags := 18, nameIndex := 45, descriptorIndex := 42, attributes := #[] }, { accessFlags := 18, nameIndex := 48, descriptorIndex := 49, attributes := #[] }, { accessFlags := 4122, nameIndex := 18, descriptorIndex := 19, attributes := #[] }])
  fields := #[{ name := "SEARCH_CLUSTER", type := (.object "com/example/meter_to_month/metertomonth/ledger/ResourceKind"), accessFlags := 16409, slot := 0, constantValue := 0 }, { name := "DATABASE_INSTANCE", type := (.object "com/example/meter_to_month/metertomonth/ledger/ResourceKind"), accessFlags := 16409, slot := 1, constantValue := 0 }, { name := "ELASTIC_IP", type := (.object "com/example/meter_to_month/metertomonth/ledger/ResourceKind"), accessFlags := 16409, slot := 2, constantValue := 0 }, { name := "BACKUP_VAULT", type := (.object "com/example/meter_to_month/metertomonth/ledger/ResourceKind"), accessFlags := 16409, slot := 3, constantValue := 0 }, { name := "label", type := (.object "java/lang/String"), accessFlags := 18, slot := 3, constantValue := 0 }, { name := "longestMonths", type := .int, accessFlags := 18, slot := 4, constantValue := 0 }, { name := "longestYears", type := .int, accessFlags := 18, slot := 5, constantValue := 0 }, { name := "renewal", type := (.object "com/example/meter_to_month/metertomonth/ledger/BillingPeriod"), accessFlags := 18, slot := 6, constantValue := 0 }, { name := "$VALUES", type := (.array (.object "com/example/meter_to_month/metertomonth/ledger/ResourceKind")), accessFlags := 4122, slot := 4, constantValue := 0 }]
  methods := #[k7m0]
  instanceTypes := #[(.object "java/lang/String"), .int, .int, (.object "java/lang/String"), .int, .int, (.object "com/example/meter_to_month/metertomonth/ledger/BillingPeriod")]
  staticTypes := #[(.object "com/example/meter_to_month/metertomonth/ledger/ResourceKind"), (.object "com/example/meter_to_month/metertomonth/ledger/ResourceKind"), (.object "com/example/meter_to_month/metertomonth/ledger/ResourceKind"), (.object "com/example/meter_to_month/metertomonth/ledger/ResourceKind"), (.array (.object "com/example/meter_to_month/metertomonth/ledger/ResourceKind"))]
  resolved := Array.replicate 162 none
  statics := some 0 }

def pool8 : Array CpInfo := pool [(1, .class_ 2), (0, u "com/example/meter_to_month/metertomonth/ledger/BillingPeriod$Unit"), (2, u "MONTH"), (0, u "Lcom/example/meter_to_month/metertomonth/ledger/BillingPeriod$Unit;"), (2, u "YEAR"), (2, u "$VALUES"), (0, u "[Lcom/example/meter_to_month/metertomonth/ledger/BillingPeriod$Unit;"), (6, .class_ 22), (1, u "java/lang/Enum"), (8, u "label"), (0, u "Ljava/lang/String;"), (2, u "calendarUnit"), (0, u "Ljava/time/temporal/ChronoUnit;"), (1, .class_ 40), (1, u "com/example/meter_to_month/metertomonth/ledger/Labelled"), (39, .class_ 81), (0, u "com/example/meter_to_month/metertomonth/ledger/BillingPeriod")] 2

/-- com/example/meter_to_month/metertomonth/ledger/BillingPeriod$Unit -/
def k8 : Class := { plain "com/example/meter_to_month/metertomonth/ledger/BillingPeriod$Unit" (some 5) with
  accessFlags := 16433
  interfaces := #[6]
  cf := some (fileOf pool8 1 #[.nestHost 80] #[] 16433 20 #[38] #[{ accessFlags := 16409, nameIndex := 5, descriptorIndex := 6, attributes := #[] }, { accessFlags := 16409, nameIndex := 9, descriptorIndex := 6, attributes := #[] }, { accessFlags := 18, nameIndex := 31, descriptorIndex := 32, attributes := #[] }, { accessFlags := 18, nameIndex := 35, descriptorIndex := 36, attributes := #[] }, { accessFlags := 4122, nameIndex := 12, descriptorIndex := 13, attributes := #[] }])
  fields := #[{ name := "MONTH", type := (.object "com/example/meter_to_month/metertomonth/ledger/BillingPeriod$Unit"), accessFlags := 16409, slot := 0, constantValue := 0 }, { name := "YEAR", type := (.object "com/example/meter_to_month/metertomonth/ledger/BillingPeriod$Unit"), accessFlags := 16409, slot := 1, constantValue := 0 }, { name := "label", type := (.object "java/lang/String"), accessFlags := 18, slot := 3, constantValue := 0 }, { name := "calendarUnit", type := (.object "java/time/temporal/ChronoUnit"), accessFlags := 18, slot := 4, constantValue := 0 }, { name := "$VALUES", type := (.array (.object "com/example/meter_to_month/metertomonth/ledger/BillingPeriod$Unit")), accessFlags := 4122, slot := 2, constantValue := 0 }]
  methods := #[]
  instanceTypes := #[(.object "java/lang/String"), .int, .int, (.object "java/lang/String"), (.object "java/time/temporal/ChronoUnit")]
  staticTypes := #[(.object "com/example/meter_to_month/metertomonth/ledger/BillingPeriod$Unit"), (.object "com/example/meter_to_month/metertomonth/ledger/BillingPeriod$Unit"), (.array (.object "com/example/meter_to_month/metertomonth/ledger/BillingPeriod$Unit"))]
  resolved := Array.replicate 84 none
  statics := some 1 }

def pool9 : Array CpInfo := pool [(1, .methodref 2 3), (0, .class_ 4), (0, .nameAndType 5 6), (0, u "java/lang/Object"), (0, u "<init>"), (0, u "()V"), (0, .class_ 8), (0, u "java/lang/Record")] 13

def k9c0 : Code := { maxStack := 1, maxLocals := 1, code := jdk_30_method_1_code, exceptionTable := #[], attributes := #[] }
def k9m0 : Method := { name := "<init>", desc := "()V", sig := { parameters := [], returnType := none }, accessFlags := 4, code := some k9c0 }
/-- java/lang/Record -/
def k9 : Class := { plain "java/lang/Record" (some 0) with
  accessFlags := 1057
  interfaces := #[]
  cf := some (fileOf pool9 7 #[] #[{ accessFlags := 4, nameIndex := 5, descriptorIndex := 6, attributes := #[] }] 1057 2 #[] #[])
  fields := #[]
  methods := #[k9m0]
  instanceTypes := #[]
  staticTypes := #[]
  resolved := Array.replicate 22 none
  statics := none }

def pool10 : Array CpInfo := pool [(1, .methodref 2 3), (0, .class_ 4), (0, .nameAndType 5 6), (0, u "java/lang/Record"), (0, u "<init>"), (0, u "()V"), (0, .string 8), (0, u "unit"), (0, .methodref 10 11), (0, .class_ 12), (0, .nameAndType 13 14), (0, u "java/util/Objects"), (0, u "requireNonNull"), (0, u "(Ljava/lang/Object;Ljava/lang/String;)Ljava/lang/Object;"), (15, .fieldref 31 32), (0, .class_ 33), (0, .nameAndType 8 34), (0, u "com/example/meter_to_month/metertomonth/ledger/BillingPeriod"), (0, u "Lcom/example/meter_to_month/metertomonth/ledger/BillingPeriod$Unit;"), (0, .fieldref 31 36), (0, .nameAndType 37 38), (0, u "count"), (0, u "I"), (13, .class_ 54), (1, u "com/example/meter_to_month/metertomonth/ledger/BillingPeriod$Unit"), (24, u "(Lcom/example/meter_to_month/metertomonth/ledger/BillingPeriod$Unit;I)V"), (7, u "()I"), (1, u "()Lcom/example/meter_to_month/metertomonth/ledger/BillingPeriod$Unit;")] 31

def k10c0 : Code := { maxStack := 4, maxLocals := 3, code := prog_4_method_1_code, exceptionTable := #[], attributes := #[] }
def k10m0 : Method := { name := "<init>", desc := "(Lcom/example/meter_to_month/metertomonth/ledger/BillingPeriod$Unit;I)V", sig := { parameters := [(.object "com/example/meter_to_month/metertomonth/ledger/BillingPeriod$Unit"), .int], returnType := none }, accessFlags := 1, code := some k10c0 }
def k10c1 : Code := { maxStack := 1, maxLocals := 1, code := prog_4_method_6_code, exceptionTable := #[], attributes := #[] }
def k10m1 : Method := { name := "unit", desc := "()Lcom/example/meter_to_month/metertomonth/ledger/BillingPeriod$Unit;", sig := { parameters := [], returnType := some (.object "com/example/meter_to_month/metertomonth/ledger/BillingPeriod$Unit") }, accessFlags := 1, code := some k10c1 }
def k10c2 : Code := { maxStack := 1, maxLocals := 1, code := prog_4_method_7_code, exceptionTable := #[], attributes := #[] }
def k10m2 : Method := { name := "count", desc := "()I", sig := { parameters := [], returnType := some .int }, accessFlags := 1, code := some k10c2 }
/-- com/example/meter_to_month/metertomonth/ledger/BillingPeriod -/
def k10 : Class := { plain "com/example/meter_to_month/metertomonth/ledger/BillingPeriod" (some 9) with
  accessFlags := 49
  interfaces := #[]
  cf := some (fileOf pool10 31 #[.nestMembers #[52]] #[{ accessFlags := 1, nameIndex := 5, descriptorIndex := 79, attributes := #[] }, { accessFlags := 1, nameIndex := 8, descriptorIndex := 89, attributes := #[] }, { accessFlags := 1, nameIndex := 37, descriptorIndex := 87, attributes := #[] }] 49 2 #[] #[{ accessFlags := 18, nameIndex := 8, descriptorIndex := 34, attributes := #[] }, { accessFlags := 18, nameIndex := 37, descriptorIndex := 38, attributes := #[] }])
  fields := #[{ name := "unit", type := (.object "com/example/meter_to_month/metertomonth/ledger/BillingPeriod$Unit"), accessFlags := 18, slot := 0, constantValue := 0 }, { name := "count", type := .int, accessFlags := 18, slot := 1, constantValue := 0 }]
  methods := #[k10m0, k10m1, k10m2]
  instanceTypes := #[(.object "com/example/meter_to_month/metertomonth/ledger/BillingPeriod$Unit"), .int]
  staticTypes := #[]
  resolved := Array.replicate 121 none
  statics := none }

def pool11 : Array CpInfo := pool [(2, .class_ 4), (1, u "java/lang/CharSequence"), (42, .class_ 48), (0, u "java/lang/CharSequence$1CodePointIterator"), (10, .class_ 60), (0, u "java/lang/CharSequence$1CharIterator"), (5, .class_ 67), (0, u "java/lang/Object")] 63

/-- java/lang/CharSequence -/
def k11 : Class := { plain "java/lang/CharSequence" (some 0) with
  accessFlags := 1537
  interfaces := #[]
  cf := some (fileOf pool11 2 #[.nestMembers #[47, 59]] #[] 1537 66 #[] #[])
  fields := #[]
  methods := #[]
  instanceTypes := #[]
  staticTypes := #[]
  resolved := Array.replicate 131 none
  statics := none }

def pool12 : Array CpInfo := pool [(1, .class_ 2), (0, u "java/lang/constant/ConstantDesc"), (0, .class_ 4), (0, u "java/lang/Object")] 32

/-- java/lang/constant/ConstantDesc -/
def k12 : Class := { plain "java/lang/constant/ConstantDesc" (some 0) with
  accessFlags := 1537
  interfaces := #[]
  cf := some (fileOf pool12 1 #[] #[] 1537 3 #[] #[])
  fields := #[]
  methods := #[]
  instanceTypes := #[]
  staticTypes := #[]
  resolved := Array.replicate 37 none
  statics := none }

def pool13 : Array CpInfo := pool [(2, .class_ 4), (1, u "java/lang/Object"), (0, u "<init>"), (0, u "()V"), (3, .class_ 12), (1, u "java/lang/String"), (0, u "value"), (0, u "[B"), (2, u "coder"), (0, u "B"), (2, u "hash"), (0, u "I"), (2, u "hashIsZero"), (0, u "Z"), (13, u "COMPACT_STRINGS"), (534, .class_ 576), (0, u "java/lang/CharSequence"), (22, u "CASE_INSENSITIVE_ORDER"), (0, u "Ljava/util/Comparator;"), (500, u "serialPersistentFields"), (0, u "[Ljava/io/ObjectStreamField;"), (0, .class_ 1104), (0, u "java/lang/String$CaseInsensitiveComparator"), (1, .class_ 1107), (0, u "java/io/Serializable"), (0, .class_ 1109), (0, u "java/lang/Comparable"), (0, .class_ 1111), (0, u "java/lang/constant/Constable"), (0, .class_ 1113), (0, u "java/lang/constant/ConstantDesc"), (2, u "serialVersionUID"), (0, u "J"), (3, u "REPL"), (0, u "C"), (2, u "LATIN1"), (1, u "UTF16")] 323

def k13m0 : Method := { name := "<init>", desc := "()V", sig := { parameters := [], returnType := none }, accessFlags := 1, code := none }
/-- java/lang/String -/
def k13 : Class := { plain "java/lang/String" (some 0) with
  accessFlags := 49
  interfaces := #[4, 3, 11, 2, 12]
  cf := some (fileOf pool13 10 #[.nestMembers #[1103]] #[{ accessFlags := 1, nameIndex := 5, descriptorIndex := 6, attributes := #[] }] 49 2 #[1106, 1108, 575, 1110, 1112] #[{ accessFlags := 18, nameIndex := 13, descriptorIndex := 14, attributes := #[] }, { accessFlags := 18, nameIndex := 17, descriptorIndex := 18, attributes := #[] }, { accessFlags := 2, nameIndex := 21, descriptorIndex := 22, attributes := #[] }, { accessFlags := 2, nameIndex := 25, descriptorIndex := 26, attributes := #[] }, { accessFlags := 26, nameIndex := 1116, descriptorIndex := 1117, attributes := #[] }, { accessFlags := 24, nameIndex := 40, descriptorIndex := 26, attributes := #[] }, { accessFlags := 26, nameIndex := 1101, descriptorIndex := 1102, attributes := #[] }, { accessFlags := 26, nameIndex := 1121, descriptorIndex := 1122, attributes := #[] }, { accessFlags := 25, nameIndex := 599, descriptorIndex := 600, attributes := #[] }, { accessFlags := 24, nameIndex := 1125, descriptorIndex := 18, attributes := #[] }, { accessFlags := 24, nameIndex := 1127, descriptorIndex := 18, attributes := #[] }])
  fields := #[{ name := "value", type := (.array .byte), accessFlags := 18, slot := 0, constantValue := 0 }, { name := "coder", type := .byte, accessFlags := 18, slot := 1, constantValue := 0 }, { name := "hash", type := .int, accessFlags := 2, slot := 2, constantValue := 0 }, { name := "hashIsZero", type := .boolean, accessFlags := 2, slot := 3, constantValue := 0 }, { name := "serialVersionUID", type := .long, accessFlags := 26, slot := 0, constantValue := 0 }, { name := "COMPACT_STRINGS", type := .boolean, accessFlags := 24, slot := 1, constantValue := 0 }, { name := "serialPersistentFields", type := (.array (.object "java/io/ObjectStreamField")), accessFlags := 26, slot := 2, constantValue := 0 }, { name := "REPL", type := .char, accessFlags := 26, slot := 3, constantValue := 0 }, { name := "CASE_INSENSITIVE_ORDER", type := (.object "java/util/Comparator"), accessFlags := 25, slot := 4, constantValue := 0 }, { name := "LATIN1", type := .byte, accessFlags := 24, slot := 5, constantValue := 0 }, { name := "UTF16", type := .byte, accessFlags := 24, slot := 6, constantValue := 0 }]
  methods := #[k13m0]
  instanceTypes := #[(.array .byte), .byte, .int, .boolean]
  staticTypes := #[.long, .boolean, (.array (.object "java/io/ObjectStreamField")), .char, (.object "java/util/Comparator"), .byte, .byte]
  resolved := Array.replicate 1451 none
  statics := none }

def pool14 : Array CpInfo := pool [(2, .class_ 4), (1, u "java/lang/Object"), (0, u "<init>"), (0, u "()V"), (35, .class_ 44), (1, u "java/util/Objects"), (0, u "requireNonNull"), (48, u "(Ljava/lang/Object;Ljava/lang/String;)Ljava/lang/Object;")] 89

def k14m0 : Method := { name := "<init>", desc := "()V", sig := { parameters := [], returnType := none }, accessFlags := 2, code := none }
def k14c1 : Code := { maxStack := 3, maxLocals := 2, code := jdk_31_method_11_code, exceptionTable := #[], attributes := #[] }
def k14m1 : Method := { name := "requireNonNull", desc := "(Ljava/lang/Object;Ljava/lang/String;)Ljava/lang/Object;", sig := { parameters := [(.object "java/lang/Object"), (.object "java/lang/String")], returnType := some (.object "java/lang/Object") }, accessFlags := 9, code := some k14c1 }
/-- java/util/Objects -/
def k14 : Class := { plain "java/util/Objects" (some 0) with
  accessFlags := 49
  interfaces := #[]
  cf := some (fileOf pool14 42 #[] #[{ accessFlags := 2, nameIndex := 5, descriptorIndex := 6, attributes := #[] }, { accessFlags := 9, nameIndex := 45, descriptorIndex := 94, attributes := #[] }] 49 2 #[] #[])
  fields := #[]
  methods := #[k14m0, k14m1]
  instanceTypes := #[]
  staticTypes := #[]
  resolved := Array.replicate 184 none
  statics := none }

def pool15 : Array CpInfo := pool [(1, u "java/lang/Cloneable"), (0, .class_ 1), (0, u "java/lang/Object"), (0, .class_ 3)] 3

/-- java/lang/Cloneable -/
def k15 : Class := { plain "java/lang/Cloneable" (some 0) with
  accessFlags := 1537
  interfaces := #[]
  cf := some (fileOf pool15 2 #[] #[] 1537 4 #[] #[])
  fields := #[]
  methods := #[]
  instanceTypes := #[]
  staticTypes := #[]
  resolved := Array.replicate 8 none
  statics := none }

/-- the primitive byte -/
def k16 : Class := { plain "byte" none with kind := .primitive 'B', accessFlags := 0x411 }
/-- [B -/
def k17 : Class := { plain "[B" (some 0) with kind := .array 16 .byte, interfaces := #[15, 4], accessFlags := 1041 }

/-- the primitive int -/
def k18 : Class := { plain "int" none with kind := .primitive 'I', accessFlags := 0x411 }
/-- [I -/
def k19 : Class := { plain "[I" (some 0) with kind := .array 18 .int, interfaces := #[15, 4], accessFlags := 1041 }

def heap : Heap := #[{ cls := 7, slots := #[.ref 2, .ref 4, .ref 7, .ref 6, .null], vm := .statics 7 },
  { cls := 8, slots := #[.ref 5, .ref 3, .null], vm := .statics 8 },
  { cls := 7, slots := #[.null, .int 0, .int 0, .null, .int 0, .int 0, .null], vm := .none },
  { cls := 8, slots := #[.null, .int 0, .int 0, .null, .null], vm := .none },
  { cls := 7, slots := #[.null, .int 0, .int 0, .null, .int 0, .int 0, .null], vm := .none },
  { cls := 8, slots := #[.null, .int 0, .int 0, .null, .null], vm := .none },
  { cls := 7, slots := #[.null, .int 0, .int 0, .null, .int 0, .int 0, .null], vm := .none },
  { cls := 7, slots := #[.null, .int 0, .int 0, .null, .int 0, .int 0, .ref 8], vm := .none },
  { cls := 10, slots := #[.ref 5, .int 1], vm := .none }]
def classes : Array Class := #[k0, k1, k2, k3, k4, k5, k6, k7, k8, k9, k10, k11, k12, k13, k14, k15, k16, k17, k18, k19]
def interned : List (Array UInt16 × Addr) := []
def slotsUsed : Nat := 48
def theMethod : MethodId := ⟨1, 2⟩
def args0 : Array Value := #[.int 5, .int 3, .int 4]
def aboutOver (below : List Frame) : State where
  vm := { classes := classes, interned := interned.toArray }
  heap := heap
  slotsUsed := slotsUsed
  threads := #[{ frames := .invoking theMethod args0 :: below }]
def below0 : List Frame := [.native { method := ⟨0, 0⟩, args := #[] }]
def about1 : State := aboutOver below0
def p0 : Program := .bare "" "" ""
def e0 : Env := launch0.env 0 0 0
theorem w_frames : about1.frames = Frame.invoking theMethod args0 :: below0 := rfl
set_option maxRecDepth 65536 in
theorem w_args : argsFit about1.vm theMethod args0 = true := by decide +kernel
set_option maxRecDepth 65536 in
theorem w_heap : heapFits about1 = true := by decide +kernel
set_option maxRecDepth 65536 in
theorem w_runnable : about1.curStatus? = some .runnable := by decide +kernel
set_option maxRecDepth 65536 in
theorem w_alone : about1.alone = true := by decide +kernel
set_option maxRecDepth 65536 in
theorem w_named : about1.methodNamed? x = some theMethod := by decide +kernel
set_option maxRecDepth 65536 in
theorem w_hears : about1.hears theMethod below0 = true := by decide +kernel
set_option maxRecDepth 65536 in
theorem w_ripe : about1.ripe theMethod args0 below0 = true := by decide +kernel
theorem w_running : about1.status = .running := rfl
set_option maxRecDepth 65536 in
theorem w_room : about1.hasRoom e0.platform room_1 = true :=
  launch0.hasRoom_least _ room_1 (by decide +kernel) (by decide +kernel) (by decide +kernel) (by decide +kernel) (by decide +kernel) (by decide +kernel)
theorem allAtoms_all (ts : List Jvm.Cond) (a : Array Jvm.Value) (st : Jvm.State) : (allAtoms ts).before a st = ts.all (fun c => c.before a st) := by
  induction ts with
  | nil => rfl
  | cons c t ih =>
    show (Jvm.Cond.and c (allAtoms t)).before a st = _
    rw [Jvm.Cond.before_and, ih, List.all_cons]
def words1 : List Jvm.Cond := Jvm.Cond.code x code maxLocals ret :: tables_1
/-- a 'code' word, met by the world's own term for the bytes: nothing is compared byte by byte -/
theorem code_word {y : MethodName} {bytes : ByteArray} {mx : Nat} {rt : Option FieldType} {a : Array Value} {s : State} {m : MethodId} {meth : Method} {c : Code} (h1 : s.methodNamed? y = some m) (h2 : s.vm.method? m = some meth) (h3 : meth.code = some c) (h4 : c.code = bytes)
    (h5 : (c.maxLocals == mx && c.exceptionTable.isEmpty && decide (c.maxStack ≤ mostOperands) && decide (meth.sig.returnType = rt) && !meth.locks && decide (parseMethodDescriptor y.desc = some meth.sig)) = true) : (Jvm.Cond.code y bytes mx rt).before a s = true := by
  simp only [Bool.and_eq_true, beq_iff_eq, Bool.not_eq_true', decide_eq_true_eq] at h5
  obtain ⟨⟨⟨⟨⟨g1, g2⟩, g3⟩, g4⟩, g5⟩, g6⟩ := h5
  simp [Cond.before, Cond.holds, Cond.value, h1, h2, h3, h4, g1, g2, g3, g4, g5, g6]
def isCode : Jvm.Cond → Bool
  | .code _ _ _ _ => true
  | _ => false
theorem all_split {L : List Jvm.Cond} {P : Jvm.Cond → Bool} (h1 : L.all (fun c => isCode c || P c) = true) (h2 : ∀ c ∈ L.filter isCode, P c = true) : L.all P = true := by
  refine List.all_eq_true.mpr fun c hc => ?_
  have h := List.all_eq_true.mp h1 c hc
  rcases Bool.eq_false_or_eq_true (isCode c) with hi | hi
  · exact h2 c (List.mem_filter.mpr ⟨hc, hi⟩)
  · simpa [hi] using h
set_option maxRecDepth 65536 in
theorem w_c0 : (Jvm.Cond.code x code maxLocals ret).before args0 about1 = true := code_word (m := ⟨1, 2⟩) (meth := k1m2) (c := k1c2) (by decide +kernel) rfl rfl rfl (by decide +kernel)
set_option maxRecDepth 65536 in
theorem w_c1 : (Jvm.Cond.code ({ cls := "com/example/meter_to_month/metertomonth/ledger/ResourceKindRenewalOfPinLaw", name := "kindOf", desc := "(I)Lcom/example/meter_to_month/metertomonth/ledger/ResourceKind;" } : Jvm.MethodName) method_2_code (2 : Nat) (Option.some (Jvm.ClassFile.FieldType.object "com/example/meter_to_month/metertomonth/ledger/ResourceKind"))).before args0 about1 = true := code_word (m := ⟨1, 1⟩) (meth := k1m1) (c := k1c1) (by decide +kernel) rfl rfl rfl (by decide +kernel)
set_option maxRecDepth 65536 in
theorem w_c2 : (Jvm.Cond.code ({ cls := "com/example/meter_to_month/metertomonth/ledger/BillingPeriod", name := "<init>", desc := "(Lcom/example/meter_to_month/metertomonth/ledger/BillingPeriod$Unit;I)V" } : Jvm.MethodName) prog_4_method_1_code (3 : Nat) (Option.none : Option Jvm.ClassFile.FieldType)).before args0 about1 = true := code_word (m := ⟨10, 0⟩) (meth := k10m0) (c := k10c0) (by decide +kernel) rfl rfl rfl (by decide +kernel)
set_option maxRecDepth 65536 in
theorem w_c3 : (Jvm.Cond.code ({ cls := "java/lang/Record", name := "<init>", desc := "()V" } : Jvm.MethodName) jdk_30_method_1_code (1 : Nat) (Option.none : Option Jvm.ClassFile.FieldType)).before args0 about1 = true := code_word (m := ⟨9, 0⟩) (meth := k9m0) (c := k9c0) (by decide +kernel) rfl rfl rfl (by decide +kernel)
set_option maxRecDepth 65536 in
theorem w_c4 : (Jvm.Cond.code ({ cls := "java/lang/Object", name := "<init>", desc := "()V" } : Jvm.MethodName) object_method_1_code (1 : Nat) (Option.none : Option Jvm.ClassFile.FieldType)).before args0 about1 = true := code_word (m := ⟨0, 0⟩) (meth := k0m0) (c := k0c0) (by decide +kernel) rfl rfl rfl (by decide +kernel)
set_option maxRecDepth 65536 in
theorem w_c5 : (Jvm.Cond.code ({ cls := "java/util/Objects", name := "requireNonNull", desc := "(Ljava/lang/Object;Ljava/lang/String;)Ljava/lang/Object;" } : Jvm.MethodName) jdk_31_method_11_code (2 : Nat) (Option.some (Jvm.ClassFile.FieldType.object "java/lang/Object"))).before args0 about1 = true := code_word (m := ⟨14, 1⟩) (meth := k14m1) (c := k14c1) (by decide +kernel) rfl rfl rfl (by decide +kernel)
set_option maxRecDepth 65536 in
theorem w_c6 : (Jvm.Cond.code ({ cls := "com/example/meter_to_month/metertomonth/ledger/ResourceKind", name := "renewalOf", desc := "(Lcom/example/meter_to_month/metertomonth/ledger/BillingPeriod;)Lcom/example/meter_to_month/metertomonth/ledger/BillingPeriod;" } : Jvm.MethodName) prog_15_method_7_code (2 : Nat) (Option.some (Jvm.ClassFile.FieldType.object "com/example/meter_to_month/metertomonth/ledger/BillingPeriod"))).before args0 about1 = true := code_word (m := ⟨7, 0⟩) (meth := k7m0) (c := k7c0) (by decide +kernel) rfl rfl rfl (by decide +kernel)
set_option maxRecDepth 65536 in
theorem w_c7 : (Jvm.Cond.code ({ cls := "com/example/meter_to_month/metertomonth/ledger/BillingPeriod", name := "unit", desc := "()Lcom/example/meter_to_month/metertomonth/ledger/BillingPeriod$Unit;" } : Jvm.MethodName) prog_4_method_6_code (1 : Nat) (Option.some (Jvm.ClassFile.FieldType.object "com/example/meter_to_month/metertomonth/ledger/BillingPeriod$Unit"))).before args0 about1 = true := code_word (m := ⟨10, 1⟩) (meth := k10m1) (c := k10c1) (by decide +kernel) rfl rfl rfl (by decide +kernel)
set_option maxRecDepth 65536 in
theorem w_c8 : (Jvm.Cond.code ({ cls := "com/example/meter_to_month/metertomonth/ledger/BillingPeriod", name := "count", desc := "()I" } : Jvm.MethodName) prog_4_method_7_code (1 : Nat) (Option.some Jvm.ClassFile.FieldType.int)).before args0 about1 = true := code_word (m := ⟨10, 2⟩) (meth := k10m2) (c := k10c2) (by decide +kernel) rfl rfl rfl (by decide +kernel)
def codes1 : List Jvm.Cond := [Jvm.Cond.code x code maxLocals ret, Jvm.Cond.code ({ cls := "com/example/meter_to_month/metertomonth/ledger/ResourceKindRenewalOfPinLaw", name := "kindOf", desc := "(I)Lcom/example/meter_to_month/metertomonth/ledger/ResourceKind;" } : Jvm.MethodName) method_2_code (2 : Nat) (Option.some (Jvm.ClassFile.FieldType.object "com/example/meter_to_month/metertomonth/ledger/ResourceKind")), Jvm.Cond.code ({ cls := "com/example/meter_to_month/metertomonth/ledger/BillingPeriod", name := "<init>", desc := "(Lcom/example/meter_to_month/metertomonth/ledger/BillingPeriod$Unit;I)V" } : Jvm.MethodName) prog_4_method_1_code (3 : Nat) (Option.none : Option Jvm.ClassFile.FieldType), Jvm.Cond.code ({ cls := "java/lang/Record", name := "<init>", desc := "()V" } : Jvm.MethodName) jdk_30_method_1_code (1 : Nat) (Option.none : Option Jvm.ClassFile.FieldType), Jvm.Cond.code ({ cls := "java/lang/Object", name := "<init>", desc := "()V" } : Jvm.MethodName) object_method_1_code (1 : Nat) (Option.none : Option Jvm.ClassFile.FieldType), Jvm.Cond.code ({ cls := "java/util/Objects", name := "requireNonNull", desc := "(Ljava/lang/Object;Ljava/lang/String;)Ljava/lang/Object;" } : Jvm.MethodName) jdk_31_method_11_code (2 : Nat) (Option.some (Jvm.ClassFile.FieldType.object "java/lang/Object")), Jvm.Cond.code ({ cls := "com/example/meter_to_month/metertomonth/ledger/ResourceKind", name := "renewalOf", desc := "(Lcom/example/meter_to_month/metertomonth/ledger/BillingPeriod;)Lcom/example/meter_to_month/metertomonth/ledger/BillingPeriod;" } : Jvm.MethodName) prog_15_method_7_code (2 : Nat) (Option.some (Jvm.ClassFile.FieldType.object "com/example/meter_to_month/metertomonth/ledger/BillingPeriod")), Jvm.Cond.code ({ cls := "com/example/meter_to_month/metertomonth/ledger/BillingPeriod", name := "unit", desc := "()Lcom/example/meter_to_month/metertomonth/ledger/BillingPeriod$Unit;" } : Jvm.MethodName) prog_4_method_6_code (1 : Nat) (Option.some (Jvm.ClassFile.FieldType.object "com/example/meter_to_month/metertomonth/ledger/BillingPeriod$Unit")), Jvm.Cond.code ({ cls := "com/example/meter_to_month/metertomonth/ledger/BillingPeriod", name := "count", desc := "()I" } : Jvm.MethodName) prog_4_method_7_code (1 : Nat) (Option.some Jvm.ClassFile.FieldType.int)]
set_option maxRecDepth 65536 in
theorem codes_eq : words1.filter isCode = codes1 := rfl
theorem w_codes : ∀ c ∈ words1.filter isCode, c.before args0 about1 = true := by
  rw [codes_eq]
  intro c hc
  simp only [codes1, List.mem_cons, List.not_mem_nil, or_false] at hc
  rcases hc with rfl | rfl | rfl | rfl | rfl | rfl | rfl | rfl | rfl
  · exact w_c0
  · exact w_c1
  · exact w_c2
  · exact w_c3
  · exact w_c4
  · exact w_c5
  · exact w_c6
  · exact w_c7
  · exact w_c8
set_option maxRecDepth 65536 in
theorem w_t1 : (words1.take 24).all (fun c => isCode c || c.before args0 about1) = true := by decide +kernel
set_option maxRecDepth 65536 in
theorem w_t2 : ((words1.drop 24).take 24).all (fun c => isCode c || c.before args0 about1) = true := by decide +kernel
set_option maxRecDepth 65536 in
theorem w_t3 : ((words1.drop 24).drop 24).all (fun c => isCode c || c.before args0 about1) = true := by decide +kernel
theorem w_tables : (allAtoms (Jvm.Cond.code x code maxLocals ret :: tables_1)).before args0 about1 = true := by
  rw [allAtoms_all]
  show words1.all (fun c => c.before args0 about1) = true
  refine all_split ?_ w_codes
  rw [← List.take_append_drop 24 words1, List.all_append, w_t1, ← List.take_append_drop 24 (words1.drop 24), List.all_append, w_t2, w_t3]
  rfl
set_option maxRecDepth 65536 in
theorem w_case : (Jvm.Cond.and given_1 narrow_1).before args0 about1 = true := by decide +kernel
theorem w_applies : (headSpec (Jvm.Cond.code x code maxLocals ret :: tables_1) room_1).applies x e0.platform about1 = true :=
  (Spec.applies_iff w_frames).mpr ⟨w_running, w_runnable, w_alone, w_named, w_hears, w_ripe, w_room, w_tables⟩
theorem atStart : AtStart classFile x code maxLocals ret World_1 tables_1 room_1 Calls_1 rest_1 Pre_1 launch0 p0 e0 about1 theMethod args0 below0 :=
  ⟨lists_1, trivial, launch0.admits_env _ _ _, launch0.least_env, fairChoices_fair.cas, fairChoices_fair.clock, w_frames, w_args, w_heap, w_applies, trivial, trivial, w_case⟩
end start1
theorem witness_1 : WitnessClaimed_1 := ⟨start1.p0, start1.e0, start1.about1, start1.theMethod, start1.args0, start1.below0, start1.atStart⟩
end Jvm.Pilot.@@N@@
