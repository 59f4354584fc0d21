import JvmDerived
import JvmDerived.Pilot.@@N@@Statement
import JvmDerived.Pilot.@@N@@Code
set_option linter.unusedVariables false
set_option linter.unusedSimpArgs false
@@BLOCK:Masks.lean.txt@@
@@BLOCK:NumsL.lean.txt@@
namespace Jvm.Pilot.@@N@@
open Jvm Jvm.ClassFile Sem Op Lib Jvm.Free Jvm.Stand Jvm.LawKit Jvm.RoadKit Bundle Jvm.Pilot.@@N@@.Jvm.D
/-! own layer: a walk as "from here the body comes to a good end" (own_Wp), so that a walk may fork in its middle -/
section OwnLayer
variable {p : Program} {l : Launch} {e : Env} {R : Room} {s : State} {m : MethodId} {args : Array Value} {below : List Frame} {meth : Method} {c : Code} {T T' : State} {locs : List Loc} {cells slots cs sl pc : Nat} {g g' : JFrame} {F : State → Outcome → Prop} {Q : Option Value → Heap → List Loc → Prop} {Ls : Array Slot} {rest : List Value} {Z : State} {a0 : Array Value} {h : Heap}
def own_Wp (p : Program) (e : Env) (below : List Frame) (F : State → Outcome → Prop) (T : State) (g : JFrame) : Prop := ∃ s₂ o, Steps p.tables e below (T.setTop g) s₂ ∧ F s₂ o
def own_Fin (below : List Frame) (s : State) (Q : Option Value → Heap → List Loc → Prop) (cs sl : Nat) (s₂ : State) (o : Outcome) : Prop := s₂.status = .running ∧ Ended s₂ below o ∧ ∃ v L, o = .returned v ∧ Q v s₂.heap L ∧ FrameEnd s o s₂ L cs sl
theorem own_step (st : ∀ target, Steps p.tables e below (T'.setTop g') target → Steps p.tables e below (T.setTop g) target) (k : own_Wp p e below F T' g') : own_Wp p e below F T g := by
  obtain ⟨a, b, h1, h2⟩ := k
  exact ⟨a, b, st _ h1, h2⟩
theorem own_cast (q : g = g') (k : own_Wp p e below F T g') : own_Wp p e below F T g := q ▸ k
theorem own_leave {v : Option Value} {fs : List Frame} (st : Steps p.tables e below (T.setTop g) (T.setFrames fs)) (hrun : (T.setFrames fs).status = .running) (hended : Ended (T.setFrames fs) below (.returned v)) (hW : s.WarmedH (T.setFrames fs).vm) (hsame : s.sameButNew ({ T.setFrames fs with vm := s.vm } : State) locs cells slots) (hc : cells ≤ cs) (hs : slots ≤ sl) (hQ : Q v T.heap locs) : own_Wp p e below (own_Fin below s Q cs sl) T g :=
  ⟨_, _, st, hrun, hended, v, locs, rfl, hQ, ⟨_, rfl⟩, hW, hsame.mono hc hs⟩
theorem own_retN (X : Stand p l e R s m args below meth c T locs cells slots) (hx : p.tables.exec = Jvm.exec) {t : FieldType} {z : Int32} (hret : meth.sig.returnType = some t) (ht : t = .boolean ∨ t = .byte ∨ t = .char ∨ t = .short) (hlocks : meth.locks = false) (hd : decode c.code pc = .ok (.ireturn, 1)) (hc : cells ≤ cs) (hs : slots ≤ sl) (hQ : Q (some (.int (nar t z))) T.heap locs) : own_Wp p e below (own_Fin below s Q cs sl) T (mkF m pc Ls (.int z :: rest)) := by
  obtain ⟨fs, hr, hrun, hended, hW, hsame⟩ := X.leave (v := some (.int (nar t z))) (fun h => by rw [hret] at h; cases h) hlocks
  exact own_leave (retN X hx hret ht hd hr) hrun hended hW hsame hc hs hQ
theorem own_retI (X : Stand p l e R s m args below meth c T locs cells slots) (hx : p.tables.exec = Jvm.exec) {z : Int32} (hret : meth.sig.returnType = some .int) (hlocks : meth.locks = false) (hd : decode c.code pc = .ok (.ireturn, 1)) (hc : cells ≤ cs) (hs : slots ≤ sl) (hQ : Q (some (.int z)) T.heap locs) : own_Wp p e below (own_Fin below s Q cs sl) T (mkF m pc Ls (.int z :: rest)) := by
  obtain ⟨fs, hr, hrun, hended, hW, hsame⟩ := X.leave (v := some (.int z)) (fun h => by rw [hret] at h; cases h) hlocks
  refine own_leave ?_ hrun hended hW hsame hc hs hQ
  have hm' : T.vm.method? m = some meth := X.method'
  have hn : narrow .int (.int z) = .int z := rfl
  show Steps p.tables e below (T.setTop { method := m, pc := pc, locals := Ls, stack := _ :: rest, locked := none }) _
  jvm_step X.here [X.here.top, hx, hd, hm', hret, hn]
  first | (intro acts; rw [hr _ acts rfl rfl rfl]) | rw [hr _ _ rfl rfl rfl]
  exact Steps.refl _
theorem own_retJ (X : Stand p l e R s m args below meth c T locs cells slots) (hx : p.tables.exec = Jvm.exec) {z : Int64} (hret : meth.sig.returnType = some .long) (hlocks : meth.locks = false) (hd : decode c.code pc = .ok (.lreturn, 1)) (hc : cells ≤ cs) (hs : slots ≤ sl) (hQ : Q (some (.long z)) T.heap locs) : own_Wp p e below (own_Fin below s Q cs sl) T (mkF m pc Ls (.long z :: rest)) := by
  obtain ⟨fs, hr, hrun, hended, hW, hsame⟩ := X.leave (v := some (.long z)) (fun h => by rw [hret] at h; cases h) hlocks
  refine own_leave ?_ hrun hended hW hsame hc hs hQ
  have hm' : T.vm.method? m = some meth := X.method'
  have hn : narrow .long (.long z) = .long z := rfl
  show Steps p.tables e below (T.setTop { method := m, pc := pc, locals := Ls, stack := _ :: rest, locked := none }) _
  jvm_step X.here [X.here.top, hx, hd, hm', hret, hn]
  first | (intro acts; rw [hr _ acts rfl rfl rfl]) | rw [hr _ _ rfl rfl rfl]
  exact Steps.refl _
theorem own_retA (X : Stand p l e R s m args below meth c T locs cells slots) (hx : p.tables.exec = Jvm.exec) {t : FieldType} {v : Value} (hret : meth.sig.returnType = some t) (ht : t.isReference = true) (hv : v.isRef = true) (hlocks : meth.locks = false) (hd : decode c.code pc = .ok (.areturn, 1)) (hc : cells ≤ cs) (hs : slots ≤ sl) (hQ : Q (some v) T.heap locs) : own_Wp p e below (own_Fin below s Q cs sl) T (mkF m pc Ls (v :: rest)) := by
  obtain ⟨fs, hr, hrun, hended, hW, hsame⟩ := X.leave (v := some v) (fun h => by rw [hret] at h; cases h) hlocks
  refine own_leave ?_ hrun hended hW hsame hc hs hQ
  have hm' : T.vm.method? m = some meth := X.method'
  rcases ref_cases hv with rfl | ⟨a, rfl⟩
  · show Steps p.tables e below (T.setTop { method := m, pc := pc, locals := Ls, stack := _ :: rest, locked := none }) _
    jvm_step X.here [X.here.top, hx, hd, hm', hret, Value.isRef, ht]
    first | (intro acts; rw [hr _ acts rfl rfl rfl]) | rw [hr _ _ rfl rfl rfl]
    exact Steps.refl _
  · show Steps p.tables e below (T.setTop { method := m, pc := pc, locals := Ls, stack := _ :: rest, locked := none }) _
    jvm_step X.here [X.here.top, hx, hd, hm', hret, Value.isRef, ht]
    first | (intro acts; rw [hr _ acts rfl rfl rfl]) | rw [hr _ _ rfl rfl rfl]
    exact Steps.refl _
theorem own_retV (X : Stand p l e R s m args below meth c T locs cells slots) (hx : p.tables.exec = Jvm.exec) (hret : meth.sig.returnType = none) (hlocks : meth.locks = false) (hd : decode c.code pc = .ok (.return_, 1)) (hc : cells ≤ cs) (hs : slots ≤ sl) (hQ : Q none T.heap locs) : own_Wp p e below (own_Fin below s Q cs sl) T (mkF m pc Ls []) := by
  obtain ⟨fs, hr, hrun, hended, hW, hsame⟩ := X.leave (v := none) (fun _ => rfl) hlocks
  exact own_leave (X.returnOut hx hret hd hr) hrun hended hW hsame hc hs hQ
/-- a contract, as every body of this text has one -/
def own_Met (l : Launch) (Z : State) (y : MethodName) (cd : Cond) (ws : List Cond) (rm : Room) (as' : Array Value) (h : Heap) (Q : Option Value → Heap → List Loc → Prop) : Prop :=
  MetFree l y (head1 (cd :: ws) rm) (fun a U => a = as' ∧ Z.Warmed39 U.vm ∧ U.heap = h) (fun _ _ _ _ _ => True) (fun _ U o U' => ∃ v L, o = .returned v ∧ Q v U'.heap L ∧ FrameEnd U o U' L rm.cells rm.slots)
theorem own_met {y : MethodName} {bytes : ByteArray} {maxL : Nat} {ret : Option FieldType} {ws : List Cond} {rm : Room} {as' : Array Value} {own : String} (hpl : plainFor y = true) (ho : y.cls = own)
    (body : ∀ p e s m below meth c s₁, p.tables.exec = Jvm.exec → c.code = bytes → c.maxLocals = maxL → s.vm.findClass own = some m.cls → meth.name = y.name → meth.sig.returnType = ret → meth.locks = false → Z.Warmed39 s.vm → s₁.heap = h →
      Stand p l e rm s m as' below meth c s₁ [] 0 0 → own_Wp p e below (own_Fin below s Q rm.cells rm.slots) s₁ (entryFrame m as' maxL)) : own_Met l Z y (Cond.code y bytes maxL ret) ws rm as' h Q := by
  refine MetFree.of_bodySF hpl hisR ?_
  intro p e s m args below meth c s₁ Bd hml0 hP hK
  obtain ⟨rfl, hZ, hh⟩ := hP
  exact body p e s m below meth c s₁ Bd.exec Bd.bytes hml0 (ho ▸ findClass_of_methodNamed Bd.named) (name_of_methodNamed Bd.named Bd.method).1 Bd.returns Bd.notSynchronized hZ (by rw [← hh, Bd.state]; rfl) (Stand.of_body Bd)
theorem own_callS (X : Stand p l e R s m args below meth c T locs cells slots) (hx : p.tables.exec = Jvm.exec) (hZ : Z.Warmed39 s.vm) {own : String} {index : Nat} {y : MethodName} {bytes : ByteArray} {maxL W : Nat} {ret : Option FieldType} {rm : Room} {as' : Array Value}
    (hown : s.vm.findClass own = some m.cls) (w1 : (Cond.methodLink own index y).before a0 Z = true) (w2 : (Cond.static y).before a0 Z = true) (w3 : (Cond.initialized y.cls).before a0 Z = true) (w4 : (Cond.code y bytes maxL ret).before a0 Z = true) (hy : y.cls ≠ "java/lang/invoke/MethodHandle" ∧ y.cls ≠ "java/lang/invoke/VarHandle")
    (hM : own_Met l Z y (Cond.code y bytes maxL ret) [] rm as' h Q) (hf : rm.frames + 1 ≤ R.frames) (hl : W + (maxL + 11) + rm.locals ≤ R.locals) (argsL : List Value) (ha : argsL.toArray = as') (hlen : ∀ sig, parseMethodDescriptor y.desc = some sig → argsL.length = sig.parameters.length)
    (hsz : Ls.size = c.maxLocals) (hW : (rest.map fun v => v.category).sum ≤ W) (hd : decode c.code pc = .ok (.invokestatic index, 3)) (eT : T.heap = h) (hc : cells + rm.cells ≤ R.cells) (hs : slots + rm.slots ≤ R.slots) :
    ∃ (v : Option Value) (T' : State) (L : List Loc), Stand p l e R s m args below meth c T' (locs ++ L) (cells + rm.cells) (slots + rm.slots) ∧ Q v T'.heap L ∧ ∀ F, own_Wp p e below F T' (mkF m (pc + 3) Ls (v.toList ++ rest)) → own_Wp p e below F T (mkF m pc Ls (argsL.reverse ++ rest)) := by
  obtain ⟨v, _, ⟨T1, L1, k1, n1⟩, -, X1, ⟨Lc, hQ, l1, y1, z1⟩, st⟩ := Jvm.LawKit.callS X hx (y := y) hown (mvT hZ w1) (mvT hZ w2) (mvT hZ w3) (mvT hZ w4) hy (backOf (W := W) hM hZ w4 w3 hf hl) (g := mkF m pc Ls (argsL.reverse ++ rest)) rfl hsz (argsL := argsL) (rest := rest) hlen rfl (by show 2 * 0 + _ ≤ _; omega) hd (fun _ _ => ⟨ha, eT, hc, hs⟩)
  dsimp only [Pt.U, Pt.locs, Pt.cells, Pt.slots] at X1 l1 y1 z1 st hQ
  subst l1 y1 z1
  exact ⟨v, T1, Lc, X1, hQ, fun F k => own_step st k⟩
theorem own_callV (X : Stand p l e R s m args below meth c T locs cells slots) (hx : p.tables.exec = Jvm.exec) (hZ : Z.Warmed39 s.vm) {own C : String} {index : Nat} {y z : MethodName} {bytes : ByteArray} {maxL W : Nat} {ret : Option FieldType} {rm : Room} {as' : Array Value} {b : Addr}
    (hown : s.vm.findClass own = some m.cls) (w1 : (Cond.methodLink own index y).before a0 Z = true) (w2 : (Cond.declares y).before a0 Z = true) (hnf : NotFace s y) (w3 : (Cond.selects C y z).before a0 Z = true) (w5 : (Cond.instanceMethod z).before a0 Z = true) (w6 : (Cond.initialized z.cls).before a0 Z = true) (w4 : (Cond.code z bytes maxL ret).before a0 Z = true) (hy : y.cls ≠ "java/lang/invoke/MethodHandle" ∧ y.cls ≠ "java/lang/invoke/VarHandle") (E : Exa Z h b C)
    (hM : own_Met l Z z (Cond.code z bytes maxL ret) [] rm as' h Q) (hf : rm.frames + 1 ≤ R.frames) (hl : W + (maxL + 11) + rm.locals ≤ R.locals) (argsL : List Value) (ha : (.ref b :: argsL).toArray = as') (hlen : ∀ sig, parseMethodDescriptor y.desc = some sig → argsL.length = sig.parameters.length)
    (hsz : Ls.size = c.maxLocals) (hW : (rest.map fun v => v.category).sum ≤ W) (hd : decode c.code pc = .ok (.invokevirtual index, 3)) (eT : T.heap = h) (hc : cells + rm.cells ≤ R.cells) (hs : slots + rm.slots ≤ R.slots) :
    ∃ (v : Option Value) (T' : State) (L : List Loc), Stand p l e R s m args below meth c T' (locs ++ L) (cells + rm.cells) (slots + rm.slots) ∧ Q v T'.heap L ∧ ∀ F, own_Wp p e below F T' (mkF m (pc + 3) Ls (v.toList ++ rest)) → own_Wp p e below F T (mkF m pc Ls (argsL.reverse ++ .ref b :: rest)) := by
  obtain ⟨cq, kq, qa, qb, qc⟩ := isOf hZ eT E
  obtain ⟨v, _, ⟨T1, L1, k1, n1⟩, -, X1, ⟨Lc, hQ, l1, y1, z1⟩, st⟩ := X.virtualBack hx (y := y) (z := z) hown (mvT hZ w1) (mvT hZ w2) hnf (mvT hZ w3) (mvT hZ w5) hy (backOf (W := W) hM hZ w4 w6 hf hl) qa qc (g := mkF m pc Ls (argsL.reverse ++ .ref b :: rest)) rfl hsz (Steps.refl _) (argsL := argsL) (rest := rest) hlen rfl (by show 2 * 0 + _ ≤ _; omega) hd (fun _ _ => ⟨ha, eT, hc, hs⟩)
  dsimp only [Pt.U, Pt.locs, Pt.cells, Pt.slots] at X1 l1 y1 z1 st hQ
  subst l1 y1 z1
  exact ⟨v, T1, Lc, X1, hQ, fun F k => own_step (fun _ q => st.trans q) k⟩
theorem own_callN (X : Stand p l e R s m args below meth c T locs cells slots) (hx : p.tables.exec = Jvm.exec) (hZ : Z.Warmed39 s.vm) {own : String} {index : Nat} {y : MethodName} {bytes : ByteArray} {maxL W : Nat} {rm : Room} {as' : Array Value} {b : Addr}
    (hn : y.name = "<init>") (hown : s.vm.findClass own = some m.cls) (w1 : (Cond.methodLink own index y).before a0 Z = true) (w5 : (Cond.instanceMethod y).before a0 Z = true) (w6 : (Cond.initialized y.cls).before a0 Z = true) (w4 : (Cond.code y bytes maxL none).before a0 Z = true) (hy : y.cls ≠ "java/lang/invoke/MethodHandle" ∧ y.cls ≠ "java/lang/invoke/VarHandle")
    (hM : own_Met l Z y (Cond.code y bytes maxL none) [] rm as' h Q) (hf : rm.frames + 1 ≤ R.frames) (hl : W + (maxL + 11) + rm.locals ≤ R.locals) (argsL : List Value) (ha : (.ref b :: argsL).toArray = as') (hlen : ∀ sig, parseMethodDescriptor y.desc = some sig → argsL.length = sig.parameters.length)
    (hsz : Ls.size = c.maxLocals) (hW : (rest.map fun v => v.category).sum ≤ W) (hd : decode c.code pc = .ok (.invokespecial index, 3)) (eT : T.heap = h) (hc : cells + rm.cells ≤ R.cells) (hs : slots + rm.slots ≤ R.slots) :
    ∃ (v : Option Value) (T' : State) (L : List Loc), Stand p l e R s m args below meth c T' (locs ++ L) (cells + rm.cells) (slots + rm.slots) ∧ Q v T'.heap L ∧ ∀ F, own_Wp p e below F T' (mkF m (pc + 3) Ls (v.toList ++ rest)) → own_Wp p e below F T (mkF m pc Ls (argsL.reverse ++ .ref b :: rest)) := by
  obtain ⟨v, _, ⟨T1, L1, k1, n1⟩, -, X1, ⟨Lc, hQ, l1, y1, z1⟩, st⟩ := X.specialBack hx (y := y) hn hown (mvT hZ w1) (mvT hZ w5) (mvT hZ w4) hy (backOf (W := W) hM hZ w4 w6 hf hl) (g := mkF m pc Ls (argsL.reverse ++ .ref b :: rest)) rfl hsz (Steps.refl _) (a := b) (argsL := argsL) (rest := rest) hlen rfl (by show 2 * 0 + _ ≤ _; omega) hd (fun _ _ => ⟨ha, eT, hc, hs⟩)
  dsimp only [Pt.U, Pt.locs, Pt.cells, Pt.slots] at X1 l1 y1 z1 st hQ
  subst l1 y1 z1
  exact ⟨v, T1, Lc, X1, hQ, fun F k => own_step (fun _ q => st.trans q) k⟩
theorem own_callU (X : Stand p l e R s m args below meth c T locs cells slots) (hx : p.tables.exec = Jvm.exec) (hZ : Z.Warmed39 s.vm) {own C owner : String} {index : Nat} {y z : MethodName} {bytes : ByteArray} {maxL W : Nat} {ret : Option FieldType} {rm : Room} {as' : Array Value} {b : Addr}
    (hown : s.vm.findClass own = some m.cls) (w1 : (Cond.methodLink own index y).before a0 Z = true) (w2 : (Cond.sameMethod y.cls owner y.name y.desc).before a0 Z = true) (w7 : (Cond.declares ⟨owner, y.name, y.desc⟩).before a0 Z = true) (w3 : (Cond.selects C y z).before a0 Z = true) (w5 : (Cond.instanceMethod z).before a0 Z = true) (w6 : (Cond.initialized z.cls).before a0 Z = true) (w4 : (Cond.code z bytes maxL ret).before a0 Z = true) (hy : owner ≠ "java/lang/invoke/MethodHandle" ∧ owner ≠ "java/lang/invoke/VarHandle") (E : Exa Z h b C)
    (hM : own_Met l Z z (Cond.code z bytes maxL ret) [] rm as' h Q) (hf : rm.frames + 1 ≤ R.frames) (hl : W + (maxL + 11) + rm.locals ≤ R.locals) (argsL : List Value) (ha : (.ref b :: argsL).toArray = as') (hlen : ∀ sig, parseMethodDescriptor y.desc = some sig → argsL.length = sig.parameters.length)
    (hsz : Ls.size = c.maxLocals) (hW : (rest.map fun v => v.category).sum ≤ W) (hd : decode c.code pc = .ok (.invokevirtual index, 3)) (eT : T.heap = h) (hc : cells + rm.cells ≤ R.cells) (hs : slots + rm.slots ≤ R.slots) :
    ∃ (v : Option Value) (T' : State) (L : List Loc), Stand p l e R s m args below meth c T' (locs ++ L) (cells + rm.cells) (slots + rm.slots) ∧ Q v T'.heap L ∧ ∀ F, own_Wp p e below F T' (mkF m (pc + 3) Ls (v.toList ++ rest)) → own_Wp p e below F T (mkF m pc Ls (argsL.reverse ++ .ref b :: rest)) := by
  obtain ⟨cq, kq, qa, qb, qc⟩ := isOf hZ eT E
  obtain ⟨v, _, ⟨T1, L1, k1, n1⟩, -, X1, ⟨Lc, hQ, l1, y1, z1⟩, st⟩ := X.virtualBackUp hx (x := y) (y := z) hown (mvT hZ w1) (mvT hZ w2) (mvT hZ w7) hy (mvT hZ w3) (mvT hZ w5) (backOf (W := W) hM hZ w4 w6 hf hl) qa qc (g := mkF m pc Ls (argsL.reverse ++ .ref b :: rest)) rfl hsz (Steps.refl _) (argsL := argsL) (rest := rest) hlen rfl (by show 2 * 0 + _ ≤ _; omega) hd (fun _ _ => ⟨ha, eT, hc, hs⟩)
  dsimp only [Pt.U, Pt.locs, Pt.cells, Pt.slots] at X1 l1 y1 z1 st hQ
  subst l1 y1 z1
  exact ⟨v, T1, Lc, X1, hQ, fun F k => own_step (fun _ q => st.trans q) k⟩
theorem own_callF (X : Stand p l e R s m args below meth c T locs cells slots) (hx : p.tables.exec = Jvm.exec) (hZ : Z.Warmed39 s.vm) {own C : String} {index count : Nat} {y z : MethodName} {bytes : ByteArray} {maxL W : Nat} {ret : Option FieldType} {rm : Room} {as' : Array Value} {b : Addr}
    (hown : s.vm.findClass own = some m.cls) (w1 : (Cond.methodLink own index y).before a0 Z = true) (w2 : (Cond.declares y).before a0 Z = true) (w7 : (Cond.interfaceMethod y.cls y.cls y.name y.desc).before a0 Z = true) (hfa : ((Cond.interfaceMethod y.cls y.cls y.name y.desc).onTables && (Cond.interfaceMethod y.cls y.cls y.name y.desc).keepsFace) = true) (w3 : (Cond.selects C y z).before a0 Z = true) (w5 : (Cond.instanceMethod z).before a0 Z = true) (w8 : (Cond.publicMethod z).before a0 Z = true) (w9 : (Cond.unhidden C y.name y.desc).before a0 Z = true) (w10 : (Cond.castable C y.cls).before a0 Z = true) (w6 : (Cond.initialized z.cls).before a0 Z = true) (w4 : (Cond.code z bytes maxL ret).before a0 Z = true) (hy : y.cls ≠ "java/lang/invoke/MethodHandle" ∧ y.cls ≠ "java/lang/invoke/VarHandle") (E : Exa Z h b C)
    (hM : own_Met l Z z (Cond.code z bytes maxL ret) [] rm as' h Q) (hf : rm.frames + 1 ≤ R.frames) (hl : W + (maxL + 11) + rm.locals ≤ R.locals) (argsL : List Value) (ha : (.ref b :: argsL).toArray = as') (hlen : ∀ sig, parseMethodDescriptor y.desc = some sig → argsL.length = sig.parameters.length)
    (hsz : Ls.size = c.maxLocals) (hW : (rest.map fun v => v.category).sum ≤ W) (hd : decode c.code pc = .ok (.invokeinterface index count, 5)) (eT : T.heap = h) (hc : cells + rm.cells ≤ R.cells) (hs : slots + rm.slots ≤ R.slots) :
    ∃ (v : Option Value) (T' : State) (L : List Loc), Stand p l e R s m args below meth c T' (locs ++ L) (cells + rm.cells) (slots + rm.slots) ∧ Q v T'.heap L ∧ ∀ F, own_Wp p e below F T' (mkF m (pc + 5) Ls (v.toList ++ rest)) → own_Wp p e below F T (mkF m pc Ls (argsL.reverse ++ .ref b :: rest)) := by
  obtain ⟨cq, kq, qa, qb, qc⟩ := isOf hZ eT E
  obtain ⟨v, _, ⟨T1, L1, k1, n1⟩, -, X1, ⟨Lc, hQ, l1, y1, z1⟩, st⟩ := X.interfaceBack hx (xi := y) (y := z) hown (mvT hZ w1) (mvT hZ w2) (mvT hZ w7 hfa) (mvT hZ w3) (mvT hZ w5) (mvT hZ w8) (mvT hZ w9) (mvT hZ w10) hy (backOf (W := W) hM hZ w4 w6 hf hl) qa qb qc (g := mkF m pc Ls (argsL.reverse ++ .ref b :: rest)) rfl hsz (Steps.refl _) (argsL := argsL) (rest := rest) hlen rfl (by show 2 * 0 + _ ≤ _; omega) hd (fun _ _ => ⟨ha, eT, hc, hs⟩)
  dsimp only [Pt.U, Pt.locs, Pt.cells, Pt.slots] at X1 l1 y1 z1 st hQ
  subst l1 y1 z1
  exact ⟨v, T1, Lc, X1, hQ, fun F k => own_step (fun _ q => st.trans q) k⟩
theorem own_callP (X : Stand p l e R s m args below meth c T locs cells slots) (hx : p.tables.exec = Jvm.exec) (hZ : Z.Warmed39 s.vm) {own : String} {index : Nat} {y : MethodName} {bytes : ByteArray} {maxL W : Nat} {ret : Option FieldType} {rm : Room} {as' : Array Value} {b : Addr}
    (hown : s.vm.findClass own = some m.cls) (w1 : (Cond.methodLink own index y).before a0 Z = true) (w5 : (Cond.instanceMethod y).before a0 Z = true) (w7 : (Cond.selects y.cls y y).before a0 Z = true) (w8 : (Cond.privateMethod y).before a0 Z = true) (w6 : (Cond.initialized y.cls).before a0 Z = true) (w4 : (Cond.code y bytes maxL ret).before a0 Z = true) (hy : y.cls ≠ "java/lang/invoke/MethodHandle" ∧ y.cls ≠ "java/lang/invoke/VarHandle") {C : String} (E : Exa Z h b C)
    (hM : own_Met l Z y (Cond.code y bytes maxL ret) [] rm as' h Q) (hf : rm.frames + 1 ≤ R.frames) (hl : W + (maxL + 11) + rm.locals ≤ R.locals) (argsL : List Value) (ha : (.ref b :: argsL).toArray = as') (hlen : ∀ sig, parseMethodDescriptor y.desc = some sig → argsL.length = sig.parameters.length)
    (hsz : Ls.size = c.maxLocals) (hW : (rest.map fun v => v.category).sum ≤ W) (hd : decode c.code pc = .ok (.invokevirtual index, 3)) (eT : T.heap = h) (hc : cells + rm.cells ≤ R.cells) (hs : slots + rm.slots ≤ R.slots) :
    ∃ (v : Option Value) (T' : State) (L : List Loc), Stand p l e R s m args below meth c T' (locs ++ L) (cells + rm.cells) (slots + rm.slots) ∧ Q v T'.heap L ∧ ∀ F, own_Wp p e below F T' (mkF m (pc + 3) Ls (v.toList ++ rest)) → own_Wp p e below F T (mkF m pc Ls (argsL.reverse ++ .ref b :: rest)) := by
  obtain ⟨cq, q1, q2⟩ := E.cell
  obtain ⟨v, _, ⟨T1, L1, k1, n1⟩, -, X1, ⟨Lc, hQ, l1, y1, z1⟩, st⟩ := X.privateBack hx (y := y) hown (mvT hZ w1) (mvT hZ w5) (mvT hZ w7) (Cond.privateMethod_at (mvP hZ w8 (args := #[]))) (mvT hZ w4) hy (backOf (W := W) hM hZ w4 w6 hf hl) (g := mkF m pc Ls (argsL.reverse ++ .ref b :: rest)) rfl hsz (Steps.refl _) (a := b) (by rw [eT]; exact q1) q2 (argsL := argsL) (rest := rest) hlen rfl (by show 2 * 0 + _ ≤ _; omega) hd (fun _ _ => ⟨ha, eT, hc, hs⟩)
  dsimp only [Pt.U, Pt.locs, Pt.cells, Pt.slots] at X1 l1 y1 z1 st hQ
  subst l1 y1 z1
  exact ⟨v, T1, Lc, X1, hQ, fun F k => own_step (fun _ q => st.trans q) k⟩
/-- the words of a long conjunction, as a list -/
def own_flat : Cond → List Cond
  | .and a b => a :: own_flat b
  | c => [c]
theorem own_mem {args : Array Value} {Z : State} : ∀ c : Cond, c.value args Z none Z [] = some true → ∀ d ∈ own_flat c, d.value args Z none Z [] = some true
  | .and a b, h, d, hd => by
    obtain ⟨h1, h2⟩ := and_e h
    rcases List.mem_cons.mp hd with rfl | q
    · exact h1
    · exact own_mem b h2 d q
  | .tt, h, d, hd => by cases List.mem_singleton.mp hd; exact h
  | c, h, d, hd => by
    unfold own_flat at hd
    split at hd
    · rename_i a b
      obtain ⟨h1, h2⟩ := and_e h
      rcases List.mem_cons.mp hd with rfl | q
      · exact h1
      · exact own_mem b h2 d q
    · cases List.mem_singleton.mp hd; exact h
/-- the object that a term of the start names -/
def own_t (Z : State) (t : Term) : Addr := match t.eval #[] Z none [] Z with
  | some (.ref a) => a
  | _ => 0
theorem own_t_eq {t : Term} {a : Addr} (h : t.eval a0 Z none [] Z = some (.ref a)) (hr : t.eval a0 Z none [] Z = t.eval #[] Z none [] Z) : own_t Z t = a := by
  rw [hr] at h
  simp only [own_t, h]
theorem own_ev {t : Term} {K : String} (h : (Cond.exactly t K).value a0 Z none Z [] = some true) (hr : t.eval a0 Z none [] Z = t.eval #[] Z none [] Z) : t.eval a0 Z none [] Z = some (.ref (own_t Z t)) := by
  obtain ⟨a, ev⟩ := exa_v h
  rw [own_t_eq ev hr]
  exact ev
theorem own_evA {t : Term} {ty : FieldType} (h : (Cond.arrayOf t ty).value a0 Z none Z [] = some true) (hr : t.eval a0 Z none [] Z = t.eval #[] Z none [] Z) : t.eval a0 Z none [] Z = some (.ref (own_t Z t)) := by
  obtain ⟨a, ev⟩ := arr_v h
  rw [own_t_eq ev hr]
  exact ev
theorem own_eqI {t : Term} {z : Int32} (q : (Cond.eq t (.int z)).value a0 Z none Z [] = some true) : t.eval a0 Z none [] Z = some (.int z) := by
  cases hf : t.eval a0 Z none [] Z with
  | none => simp [Cond.value, hf] at q
  | some v => cases v <;> simp [Cond.value, Term.eval, hf] at q <;> first | (rw [q]; done) | exact congrArg (fun z => some (Value.int z)) q | skip
theorem own_eqR {t u : Term} {b : Addr} (q : (Cond.eq t u).value a0 Z none Z [] = some true) (ev : u.eval a0 Z none [] Z = some (.ref b)) : t.eval a0 Z none [] Z = some (.ref b) := by
  cases hf : t.eval a0 Z none [] Z with
  | none => simp [Cond.value, hf] at q
  | some v => cases v <;> simp [Cond.value, hf, ev] at q <;> first | (rw [q]; done) | exact congrArg (fun z => some (Value.ref z)) q | skip
theorem own_fld {t : Term} {O f d : String} {a : Addr} {v : Value} (ev : t.eval a0 Z none [] Z = some (.ref a)) (q : (Term.field t O f d).eval a0 Z none [] Z = some v) : Fld Z Z.heap a O f d v := by
  refine Fld.start ?_
  simp only [Term.eval, ev, Option.bind_eq_bind, Option.bind_some] at q
  exact q
theorem own_len {t : Term} {ty : FieldType} {a : Addr} {cl : Cell} {z : Int32} (A : Arr Z Z.heap a cl ty) (ev : t.eval a0 Z none [] Z = some (.ref a)) (q : (Cond.eq (.length t) (.int z)).value a0 Z none Z [] = some true) : cl.slots.size < 2 ^ 31 ∧ cl.slots.size.toInt32 = z := by
  have e0 : Z.arrayAt? a = some cl := Arr.fin (Vm.Alike.refl _) A
  have q2 := own_eqI q
  simp only [Term.eval, ev, e0, Option.bind_eq_bind, Option.bind_some] at q2
  split at q2
  · rename_i g
    exact ⟨g, by simpa using q2⟩
  · cases q2
theorem own_el {t : Term} {ty : FieldType} {a : Addr} {cl : Cell} {i : Int32} {v : Value} (A : Arr Z Z.heap a cl ty) (ev : t.eval a0 Z none [] Z = some (.ref a)) (q : (Term.elem t (.int i)).eval a0 Z none [] Z = some v) : cl.slots[i.toNatClampNeg]? = some v := by
  have e0 : Z.arrayAt? a = some cl := Arr.fin (Vm.Alike.refl _) A
  simp only [Term.eval, ev, e0, Option.bind_eq_bind, Option.bind_some] at q
  split at q
  · cases q
  · exact q
def own_i (Z : State) (t : Term) : Int32 := match t.eval #[] Z none [] Z with
  | some (.int a) => a
  | _ => 0
theorem own_evI {t : Term} (h : (Cond.isInt t).value a0 Z none Z [] = some true) (hr : t.eval a0 Z none [] Z = t.eval #[] Z none [] Z) : t.eval a0 Z none [] Z = some (.int (own_i Z t)) := by
  obtain ⟨a, ev⟩ := is_v h
  have q := ev
  rw [hr] at q
  have e : own_i Z t = a := by simp only [own_i, q]
  rw [e]
  exact ev
theorem own_neI {t : Term} {z a : Int32} (h : (Cond.not (.eq t (.int z))).value a0 Z none Z [] = some true) (ev : t.eval a0 Z none [] Z = some (.int a)) : ¬ (a = z) := by
  have q := not_v h
  simp only [Cond.value, ev, Term.eval] at q
  intro e
  subst e
  simp at q
theorem own_fitc {c : Int32} (h : nar .char c = c) : fits .char (.int c) = true := by
  have q := fits_nar_char c
  rw [h] at q
  exact q
theorem own_narb {c : Int32} (h : c = (0 : Int32) ∨ c = (1 : Int32)) : nar .boolean c = c := by rcases h with rfl | rfl <;> rfl
theorem own_nb {c : Int32} (h : c = (0 : Int32) ∨ c = (1 : Int32)) : narrow .boolean (.int c) = .int c := by rcases h with rfl | rfl <;> rfl
theorem own_fb {c : Int32} (h : c = (0 : Int32) ∨ c = (1 : Int32)) : fits .boolean (.int c) = true := by rcases h with rfl | rfl <;> rfl
theorem own_lc3 (a b : Int64) : (a < b ∧ lcmpW a b = -1) ∨ (a = b ∧ lcmpW a b = 0) ∨ (b < a ∧ lcmpW a b = 1) := by
  by_cases h : b < a
  · exact Or.inr (Or.inr ⟨h, if_pos h⟩)
  · by_cases h2 : a = b
    · exact Or.inr (Or.inl ⟨h2, (if_neg h).trans (if_pos h2)⟩)
    · refine Or.inl ⟨?_, (if_neg h).trans (if_neg h2)⟩
      simp only [Int64.lt_iff_toInt_lt, ← Int64.toInt_inj] at h h2 ⊢
      omega
theorem own_lcltY {a b : Int64} (h : a < b) : ifCond.holds .lt (lcmpW a b) = true := by
  rcases own_lc3 a b with ⟨h1, e⟩ | ⟨h1, e⟩ | ⟨h1, e⟩ <;> first | (rw [e]; decide) | (exfalso; simp only [Int64.lt_iff_toInt_lt, ← Int64.toInt_inj] at h h1; omega)
theorem own_lcltN {a b : Int64} (h : ¬ (a < b)) : ifCond.holds .lt (lcmpW a b) = false := by
  rcases own_lc3 a b with ⟨h1, e⟩ | ⟨h1, e⟩ | ⟨h1, e⟩ <;> first | (rw [e]; decide) | (exfalso; simp only [Int64.lt_iff_toInt_lt, ← Int64.toInt_inj] at h h1; omega)
theorem own_lcgeY {a b : Int64} (h : ¬ (a < b)) : ifCond.holds .ge (lcmpW a b) = true := by
  rcases own_lc3 a b with ⟨h1, e⟩ | ⟨h1, e⟩ | ⟨h1, e⟩ <;> first | (rw [e]; decide) | (exfalso; simp only [Int64.lt_iff_toInt_lt, ← Int64.toInt_inj] at h h1; omega)
theorem own_lcgeN {a b : Int64} (h : a < b) : ifCond.holds .ge (lcmpW a b) = false := by
  rcases own_lc3 a b with ⟨h1, e⟩ | ⟨h1, e⟩ | ⟨h1, e⟩ <;> first | (rw [e]; decide) | (exfalso; simp only [Int64.lt_iff_toInt_lt, ← Int64.toInt_inj] at h h1; omega)
theorem own_lcgtY {a b : Int64} (h : b < a) : ifCond.holds .gt (lcmpW a b) = true := by
  rcases own_lc3 a b with ⟨h1, e⟩ | ⟨h1, e⟩ | ⟨h1, e⟩ <;> first | (rw [e]; decide) | (exfalso; simp only [Int64.lt_iff_toInt_lt, ← Int64.toInt_inj] at h h1; omega)
theorem own_lcgtN {a b : Int64} (h : ¬ (b < a)) : ifCond.holds .gt (lcmpW a b) = false := by
  rcases own_lc3 a b with ⟨h1, e⟩ | ⟨h1, e⟩ | ⟨h1, e⟩ <;> first | (rw [e]; decide) | (exfalso; simp only [Int64.lt_iff_toInt_lt, ← Int64.toInt_inj] at h h1; omega)
theorem own_lcleY {a b : Int64} (h : ¬ (b < a)) : ifCond.holds .le (lcmpW a b) = true := by
  rcases own_lc3 a b with ⟨h1, e⟩ | ⟨h1, e⟩ | ⟨h1, e⟩ <;> first | (rw [e]; decide) | (exfalso; simp only [Int64.lt_iff_toInt_lt, ← Int64.toInt_inj] at h h1; omega)
theorem own_lcleN {a b : Int64} (h : b < a) : ifCond.holds .le (lcmpW a b) = false := by
  rcases own_lc3 a b with ⟨h1, e⟩ | ⟨h1, e⟩ | ⟨h1, e⟩ <;> first | (rw [e]; decide) | (exfalso; simp only [Int64.lt_iff_toInt_lt, ← Int64.toInt_inj] at h h1; omega)
theorem own_lceqY {a b : Int64} (h : a = b) : ifCond.holds .eq (lcmpW a b) = true := by
  rcases own_lc3 a b with ⟨h1, e⟩ | ⟨h1, e⟩ | ⟨h1, e⟩ <;> first | (rw [e]; decide) | (exfalso; simp only [Int64.lt_iff_toInt_lt, ← Int64.toInt_inj] at h h1; omega)
theorem own_lceqN {a b : Int64} (h : ¬ (a = b)) : ifCond.holds .eq (lcmpW a b) = false := by
  rcases own_lc3 a b with ⟨h1, e⟩ | ⟨h1, e⟩ | ⟨h1, e⟩ <;> first | (rw [e]; decide) | (exfalso; simp only [Int64.lt_iff_toInt_lt, ← Int64.toInt_inj] at h h1; omega)
theorem own_lcneY {a b : Int64} (h : ¬ (a = b)) : ifCond.holds .ne (lcmpW a b) = true := by
  rcases own_lc3 a b with ⟨h1, e⟩ | ⟨h1, e⟩ | ⟨h1, e⟩ <;> first | (rw [e]; decide) | (exfalso; simp only [Int64.lt_iff_toInt_lt, ← Int64.toInt_inj] at h h1; omega)
theorem own_lcneN {a b : Int64} (h : a = b) : ifCond.holds .ne (lcmpW a b) = false := by
  rcases own_lc3 a b with ⟨h1, e⟩ | ⟨h1, e⟩ | ⟨h1, e⟩ <;> first | (rw [e]; decide) | (exfalso; simp only [Int64.lt_iff_toInt_lt, ← Int64.toInt_inj] at h h1; omega)
end OwnLayer
theorem own_get {c : Cell} {vs : List Value} {d : Value} {z j : Int32} (S : c.slots.size = z.toNatClampNeg) (H : Has c vs d) (q : ¬ (j < 0 ∨ c.slots.size ≤ j.toNatClampNeg)) (i : Nat) (hj : j.toNatClampNeg = i) : c.slots[j.toNatClampNeg]? = some (vs.getD i d) := by
  subst hj
  exact H _ (Nat.lt_of_not_le fun r => q (Or.inr r))
theorem own_mod (x : Int32) {n : Int32} (hn : 0 < n.toInt) : 0 ≤ ((x &&& (2147483647 : Int32)) % n).toInt ∧ ((x &&& (2147483647 : Int32)) % n).toInt < n.toInt := by
  have h := (Jvm.Kit.i32_and_bounds x (m := (2147483647 : Int32)) (by decide)).1
  have h0 : 0 ≤ (x &&& (2147483647 : Int32)).toInt := Jvm.Kit.i32_nonneg.mp h
  rw [Int32.toInt_mod]
  exact ⟨Int.tmod_nonneg _ h0, Int.tmod_lt_of_pos _ hn⟩
section OwnWide
variable {p : Program} {l : Launch} {e : Env} {R : Room} {s : State} {m : MethodId} {args : Array Value} {below : List Frame} {meth : Method} {c : Code} {T T' : State} {locs : List Loc} {cells slots cs sl pc k0 : Nat} {vm0 : Vm} {g g' : JFrame} {F : State → Outcome → Prop} {Q : Option Value → Heap → List Loc → Prop} {Ls : Array Slot} {rest : List Value} {Z : State} {a0 : Array Value} {h : Heap}
def own_FinW (below : List Frame) (s : State) (Q : Option Value → Heap → List Loc → Prop) (cs sl : Nat) (s₂ : State) (o : Outcome) : Prop := s₂.status = .running ∧ Ended s₂ below o ∧ ∃ v L, o = .returned v ∧ Q v s₂.heap L ∧ ReturnedEndW s o s₂ L cs sl
theorem own_leaveW {v : Option Value} {fs : List Frame} (st : Steps p.tables e below (T.setTop g) (T.setFrames fs)) (hrun : (T.setFrames fs).status = .running) (hended : Ended (T.setFrames fs) below (.returned v)) (hE : ReturnedEndW s (.returned v) (T.setFrames fs) locs cells slots) (hc : cells ≤ cs) (hs : slots ≤ sl) (hQ : Q v T.heap locs) : own_Wp p e below (own_FinW below s Q cs sl) T g :=
  ⟨_, _, st, hrun, hended, v, locs, rfl, hQ, hE.1, hE.2.1, hE.2.2.1, hE.2.2.2.mono hc hs⟩
theorem own_retNW (X : Stand p l e R (s.setVm vm0) m args below meth c T locs cells slots) (hS : s.Since vm0 k0) (hn0 : k0 ≤ T.heap.size) (hx : p.tables.exec = Jvm.exec) {t : FieldType} {z : Int32} (hret : meth.sig.returnType = some t) (ht : t = .boolean ∨ t = .byte ∨ t = .char ∨ t = .short) (hlocks : meth.locks = false) (hd : decode c.code pc = .ok (.ireturn, 1)) (hc : cells ≤ cs) (hs : slots ≤ sl) (hQ : Q (some (.int (nar t z))) T.heap locs) : own_Wp p e below (own_FinW below s Q cs sl) T (mkF m pc Ls (.int z :: rest)) := by
  obtain ⟨fs, hr, hrun, hended, hE⟩ := X.leaveW hS hn0 (v := some (.int (nar t z))) (fun h => by rw [hret] at h; cases h) hlocks
  exact own_leaveW (retN X hx hret ht hd hr) hrun hended hE hc hs hQ
theorem own_retIW (X : Stand p l e R (s.setVm vm0) m args below meth c T locs cells slots) (hS : s.Since vm0 k0) (hn0 : k0 ≤ T.heap.size) (hx : p.tables.exec = Jvm.exec) {z : Int32} (hret : meth.sig.returnType = some .int) (hlocks : meth.locks = false) (hd : decode c.code pc = .ok (.ireturn, 1)) (hc : cells ≤ cs) (hs : slots ≤ sl) (hQ : Q (some (.int z)) T.heap locs) : own_Wp p e below (own_FinW below s Q cs sl) T (mkF m pc Ls (.int z :: rest)) := by
  obtain ⟨fs, hr, hrun, hended, hE⟩ := X.leaveW hS hn0 (v := some (.int z)) (fun h => by rw [hret] at h; cases h) hlocks
  refine own_leaveW ?_ hrun hended hE hc hs hQ
  have hm' : T.vm.method? m = some meth := X.method'
  have hn : narrow .int (.int z) = .int z := rfl
  show Steps p.tables e below (T.setTop { method := m, pc := pc, locals := Ls, stack := _ :: rest, locked := none }) _
  jvm_step X.here [X.here.top, hx, hd, hm', hret, hn]
  first | (intro acts; rw [hr _ acts rfl rfl rfl]) | rw [hr _ _ rfl rfl rfl]
  exact Steps.refl _
theorem own_retJW (X : Stand p l e R (s.setVm vm0) m args below meth c T locs cells slots) (hS : s.Since vm0 k0) (hn0 : k0 ≤ T.heap.size) (hx : p.tables.exec = Jvm.exec) {z : Int64} (hret : meth.sig.returnType = some .long) (hlocks : meth.locks = false) (hd : decode c.code pc = .ok (.lreturn, 1)) (hc : cells ≤ cs) (hs : slots ≤ sl) (hQ : Q (some (.long z)) T.heap locs) : own_Wp p e below (own_FinW below s Q cs sl) T (mkF m pc Ls (.long z :: rest)) := by
  obtain ⟨fs, hr, hrun, hended, hE⟩ := X.leaveW hS hn0 (v := some (.long z)) (fun h => by rw [hret] at h; cases h) hlocks
  refine own_leaveW ?_ hrun hended hE hc hs hQ
  have hm' : T.vm.method? m = some meth := X.method'
  have hn : narrow .long (.long z) = .long z := rfl
  show Steps p.tables e below (T.setTop { method := m, pc := pc, locals := Ls, stack := _ :: rest, locked := none }) _
  jvm_step X.here [X.here.top, hx, hd, hm', hret, hn]
  first | (intro acts; rw [hr _ acts rfl rfl rfl]) | rw [hr _ _ rfl rfl rfl]
  exact Steps.refl _
theorem own_retAW (X : Stand p l e R (s.setVm vm0) m args below meth c T locs cells slots) (hS : s.Since vm0 k0) (hn0 : k0 ≤ T.heap.size) (hx : p.tables.exec = Jvm.exec) {t : FieldType} {v : Value} (hret : meth.sig.returnType = some t) (ht : t.isReference = true) (hv : v.isRef = true) (hlocks : meth.locks = false) (hd : decode c.code pc = .ok (.areturn, 1)) (hc : cells ≤ cs) (hs : slots ≤ sl) (hQ : Q (some v) T.heap locs) : own_Wp p e below (own_FinW below s Q cs sl) T (mkF m pc Ls (v :: rest)) := by
  obtain ⟨fs, hr, hrun, hended, hE⟩ := X.leaveW hS hn0 (v := some v) (fun h => by rw [hret] at h; cases h) hlocks
  refine own_leaveW ?_ hrun hended hE hc hs hQ
  have hm' : T.vm.method? m = some meth := X.method'
  rcases ref_cases hv with rfl | ⟨a, rfl⟩
  · show Steps p.tables e below (T.setTop { method := m, pc := pc, locals := Ls, stack := _ :: rest, locked := none }) _
    jvm_step X.here [X.here.top, hx, hd, hm', hret, Value.isRef, ht]
    first | (intro acts; rw [hr _ acts rfl rfl rfl]) | rw [hr _ _ rfl rfl rfl]
    exact Steps.refl _
  · show Steps p.tables e below (T.setTop { method := m, pc := pc, locals := Ls, stack := _ :: rest, locked := none }) _
    jvm_step X.here [X.here.top, hx, hd, hm', hret, Value.isRef, ht]
    first | (intro acts; rw [hr _ acts rfl rfl rfl]) | rw [hr _ _ rfl rfl rfl]
    exact Steps.refl _
theorem own_retVW (X : Stand p l e R (s.setVm vm0) m args below meth c T locs cells slots) (hS : s.Since vm0 k0) (hn0 : k0 ≤ T.heap.size) (hx : p.tables.exec = Jvm.exec) (hret : meth.sig.returnType = none) (hlocks : meth.locks = false) (hd : decode c.code pc = .ok (.return_, 1)) (hc : cells ≤ cs) (hs : slots ≤ sl) (hQ : Q none T.heap locs) : own_Wp p e below (own_FinW below s Q cs sl) T (mkF m pc Ls []) := by
  obtain ⟨fs, hr, hrun, hended, hE⟩ := X.leaveW hS hn0 (v := none) (fun _ => rfl) hlocks
  exact own_leaveW (X.returnOut hx hret hd hr) hrun hended hE hc hs hQ
def own_MetW (l : Launch) (Z : State) (y : MethodName) (cd : Cond) (ws : List Cond) (rm : Room) (as' : Array Value) (h : Heap) (Q : Option Value → Heap → List Loc → Prop) : Prop :=
  MetFree l y (head1 (cd :: ws) rm) (fun a U => a = as' ∧ Z.Warmed39 U.vm ∧ U.heap = h) (fun _ _ _ _ _ => True) (fun _ U o U' => ∃ v L, o = .returned v ∧ Q v U'.heap L ∧ ReturnedEndW U o U' L rm.cells rm.slots)
theorem own_metW {y : MethodName} {bytes : ByteArray} {maxL : Nat} {ret : Option FieldType} {ws : List Cond} {rm : Room} {as' : Array Value} {own : String} (hpl : plainFor y = true) (ho : y.cls = own)
    (body : ∀ p e s m below meth c s₁, p.tables.exec = Jvm.exec → c.code = bytes → c.maxLocals = maxL → (s.setVm s.vm).vm.findClass own = some m.cls → meth.name = y.name → meth.sig.returnType = ret → meth.locks = false → Z.Warmed39 (s.setVm s.vm).vm → s₁.heap = h →
      Stand p l e rm (s.setVm s.vm) m as' below meth c s₁ [] 0 0 → s.Since s.vm 0 → own_Wp p e below (own_FinW below s Q rm.cells rm.slots) s₁ (entryFrame m as' maxL)) : own_MetW l Z y (Cond.code y bytes maxL ret) ws rm as' h Q := by
  refine MetFree.of_bodySF hpl hisR ?_
  intro p e s m args below meth c s₁ Bd hml0 hP hK
  obtain ⟨rfl, hZ, hh⟩ := hP
  exact body p e s m below meth c s₁ Bd.exec Bd.bytes hml0 (ho ▸ findClass_of_methodNamed Bd.named) (name_of_methodNamed Bd.named Bd.method).1 Bd.returns Bd.notSynchronized hZ (by rw [← hh, Bd.state]; rfl) (Stand.of_body Bd) ((State.WarmedH.refl s).since 0)
theorem own_callSW (X : Stand p l e R (s.setVm vm0) m args below meth c T locs cells slots) (hx : p.tables.exec = Jvm.exec) (hZ : Z.Warmed39 (s.setVm vm0).vm) (hS : s.Since vm0 k0) (hk : k0 ≤ h.size) {own : String} {index : Nat} {y : MethodName} {bytes : ByteArray} {maxL W : Nat} {ret : Option FieldType} {rm : Room} {as' : Array Value}
    (hown : (s.setVm vm0).vm.findClass own = some m.cls) (w1 : (Cond.methodLink own index y).before a0 Z = true) (w2 : (Cond.static y).before a0 Z = true) (w3 : (Cond.initialized y.cls).before a0 Z = true) (w4 : (Cond.code y bytes maxL ret).before a0 Z = true) (hy : y.cls ≠ "java/lang/invoke/MethodHandle" ∧ y.cls ≠ "java/lang/invoke/VarHandle")
    (hM : own_MetW l Z y (Cond.code y bytes maxL ret) [] rm as' h Q) (hf : rm.frames + 1 ≤ R.frames) (hl : W + (maxL + 11) + rm.locals ≤ R.locals) (argsL : List Value) (ha : argsL.toArray = as') (hlen : ∀ sig, parseMethodDescriptor y.desc = some sig → argsL.length = sig.parameters.length)
    (hsz : Ls.size = c.maxLocals) (hW : (rest.map fun v => v.category).sum ≤ W) (hd : decode c.code pc = .ok (.invokestatic index, 3)) (eT : T.heap = h) (hc : cells + rm.cells ≤ R.cells) (hs : slots + rm.slots ≤ R.slots) :
    ∃ (v : Option Value) (T' : State) (L : List Loc), Stand p l e R (s.setVm T'.vm) m args below meth c T' (locs ++ L) (cells + rm.cells) (slots + rm.slots) ∧ s.Since T'.vm T'.heap.size ∧ Z.Warmed39 (s.setVm T'.vm).vm ∧ (s.setVm T'.vm).vm.findClass own = some m.cls ∧ Q v T'.heap L ∧ ∀ F, own_Wp p e below F T' (mkF m (pc + 3) Ls (v.toList ++ rest)) → own_Wp p e below F T (mkF m pc Ls (argsL.reverse ++ rest)) := by
  obtain ⟨v, _, ⟨T1, L1, k1, n1⟩, -, X1, hS1, hg1, ⟨Lc, hQ, l1, y1, z1⟩, st⟩ := callSS X hx (y := y) hown (mvT hZ w1) (mvT hZ w2) (mvT hZ w3) (mvT hZ w4) hy (backOfS (W := W) hM hZ w4 w3 hf hl) (g := mkF m pc Ls (argsL.reverse ++ rest)) rfl hsz (argsL := argsL) (rest := rest) hlen rfl (by show 2 * 0 + _ ≤ _; omega) hd (fun _ _ => ⟨ha, eT, hc, hs⟩)
  dsimp only [Pt.U, Pt.locs, Pt.cells, Pt.slots] at X1 l1 y1 z1 st hQ hS1 hg1
  subst l1 y1 z1
  have hk' : k0 ≤ T.heap.size := by rw [eT]; exact hk
  obtain ⟨X2, hS2, hZ2, ho2⟩ := rebS hS hk' X1 hS1 hg1 hZ hown
  exact ⟨v, T1, Lc, X2, hS2, hZ2, ho2, hQ, fun F k => own_step (fun _ q => st.trans q) k⟩
theorem own_callVW (X : Stand p l e R (s.setVm vm0) m args below meth c T locs cells slots) (hx : p.tables.exec = Jvm.exec) (hZ : Z.Warmed39 (s.setVm vm0).vm) (hS : s.Since vm0 k0) (hk : k0 ≤ h.size) {own C : String} {index : Nat} {y z : MethodName} {bytes : ByteArray} {maxL W : Nat} {ret : Option FieldType} {rm : Room} {as' : Array Value} {b : Addr}
    (hown : (s.setVm vm0).vm.findClass own = some m.cls) (w1 : (Cond.methodLink own index y).before a0 Z = true) (w2 : (Cond.declares y).before a0 Z = true) (hnf : NotFace (s.setVm vm0) y) (w3 : (Cond.selects C y z).before a0 Z = true) (w5 : (Cond.instanceMethod z).before a0 Z = true) (w6 : (Cond.initialized z.cls).before a0 Z = true) (w4 : (Cond.code z bytes maxL ret).before a0 Z = true) (hy : y.cls ≠ "java/lang/invoke/MethodHandle" ∧ y.cls ≠ "java/lang/invoke/VarHandle") (E : Exa Z h b C)
    (hM : own_MetW l Z z (Cond.code z bytes maxL ret) [] rm as' h Q) (hf : rm.frames + 1 ≤ R.frames) (hl : W + (maxL + 11) + rm.locals ≤ R.locals) (argsL : List Value) (ha : (.ref b :: argsL).toArray = as') (hlen : ∀ sig, parseMethodDescriptor y.desc = some sig → argsL.length = sig.parameters.length)
    (hsz : Ls.size = c.maxLocals) (hW : (rest.map fun v => v.category).sum ≤ W) (hd : decode c.code pc = .ok (.invokevirtual index, 3)) (eT : T.heap = h) (hc : cells + rm.cells ≤ R.cells) (hs : slots + rm.slots ≤ R.slots) :
    ∃ (v : Option Value) (T' : State) (L : List Loc), Stand p l e R (s.setVm T'.vm) m args below meth c T' (locs ++ L) (cells + rm.cells) (slots + rm.slots) ∧ s.Since T'.vm T'.heap.size ∧ Z.Warmed39 (s.setVm T'.vm).vm ∧ (s.setVm T'.vm).vm.findClass own = some m.cls ∧ Q v T'.heap L ∧ ∀ F, own_Wp p e below F T' (mkF m (pc + 3) Ls (v.toList ++ rest)) → own_Wp p e below F T (mkF m pc Ls (argsL.reverse ++ .ref b :: rest)) := by
  obtain ⟨cq, kq, qa, qb, qc⟩ := isOf hZ eT E
  obtain ⟨v, _, ⟨T1, L1, k1, n1⟩, -, X1, hS1, hg1, ⟨Lc, hQ, l1, y1, z1⟩, st⟩ := X.virtualBackS hx (y := y) (z := z) hown (mvT hZ w1) (mvT hZ w2) hnf (mvT hZ w3) (mvT hZ w5) hy (backOfS (W := W) hM hZ w4 w6 hf hl) qa qc (g := mkF m pc Ls (argsL.reverse ++ .ref b :: rest)) rfl hsz (Steps.refl _) (argsL := argsL) (rest := rest) hlen rfl (by show 2 * 0 + _ ≤ _; omega) hd (fun _ _ => ⟨ha, eT, hc, hs⟩)
  dsimp only [Pt.U, Pt.locs, Pt.cells, Pt.slots] at X1 l1 y1 z1 st hQ hS1 hg1
  subst l1 y1 z1
  have hk' : k0 ≤ T.heap.size := by rw [eT]; exact hk
  obtain ⟨X2, hS2, hZ2, ho2⟩ := rebS hS hk' X1 hS1 hg1 hZ hown
  exact ⟨v, T1, Lc, X2, hS2, hZ2, ho2, hQ, fun F k => own_step (fun _ q => st.trans q) k⟩
theorem own_callNW (X : Stand p l e R (s.setVm vm0) m args below meth c T locs cells slots) (hx : p.tables.exec = Jvm.exec) (hZ : Z.Warmed39 (s.setVm vm0).vm) (hS : s.Since vm0 k0) (hk : k0 ≤ h.size) {own : String} {index : Nat} {y : MethodName} {bytes : ByteArray} {maxL W : Nat} {rm : Room} {as' : Array Value} {b : Addr}
    (hn : y.name = "<init>") (hown : (s.setVm vm0).vm.findClass own = some m.cls) (w1 : (Cond.methodLink own index y).before a0 Z = true) (w5 : (Cond.instanceMethod y).before a0 Z = true) (w6 : (Cond.initialized y.cls).before a0 Z = true) (w4 : (Cond.code y bytes maxL none).before a0 Z = true) (hy : y.cls ≠ "java/lang/invoke/MethodHandle" ∧ y.cls ≠ "java/lang/invoke/VarHandle")
    (hM : own_MetW l Z y (Cond.code y bytes maxL none) [] rm as' h Q) (hf : rm.frames + 1 ≤ R.frames) (hl : W + (maxL + 11) + rm.locals ≤ R.locals) (argsL : List Value) (ha : (.ref b :: argsL).toArray = as') (hlen : ∀ sig, parseMethodDescriptor y.desc = some sig → argsL.length = sig.parameters.length)
    (hsz : Ls.size = c.maxLocals) (hW : (rest.map fun v => v.category).sum ≤ W) (hd : decode c.code pc = .ok (.invokespecial index, 3)) (eT : T.heap = h) (hc : cells + rm.cells ≤ R.cells) (hs : slots + rm.slots ≤ R.slots) :
    ∃ (v : Option Value) (T' : State) (L : List Loc), Stand p l e R (s.setVm T'.vm) m args below meth c T' (locs ++ L) (cells + rm.cells) (slots + rm.slots) ∧ s.Since T'.vm T'.heap.size ∧ Z.Warmed39 (s.setVm T'.vm).vm ∧ (s.setVm T'.vm).vm.findClass own = some m.cls ∧ Q v T'.heap L ∧ ∀ F, own_Wp p e below F T' (mkF m (pc + 3) Ls (v.toList ++ rest)) → own_Wp p e below F T (mkF m pc Ls (argsL.reverse ++ .ref b :: rest)) := by
  obtain ⟨v, _, ⟨T1, L1, k1, n1⟩, -, X1, hS1, hg1, ⟨Lc, hQ, l1, y1, z1⟩, st⟩ := X.specialBackS hx (y := y) hn hown (mvT hZ w1) (mvT hZ w5) (mvT hZ w4) hy (backOfS (W := W) hM hZ w4 w6 hf hl) (g := mkF m pc Ls (argsL.reverse ++ .ref b :: rest)) rfl hsz (Steps.refl _) (a := b) (argsL := argsL) (rest := rest) hlen rfl (by show 2 * 0 + _ ≤ _; omega) hd (fun _ _ => ⟨ha, eT, hc, hs⟩)
  dsimp only [Pt.U, Pt.locs, Pt.cells, Pt.slots] at X1 l1 y1 z1 st hQ hS1 hg1
  subst l1 y1 z1
  have hk' : k0 ≤ T.heap.size := by rw [eT]; exact hk
  obtain ⟨X2, hS2, hZ2, ho2⟩ := rebS hS hk' X1 hS1 hg1 hZ hown
  exact ⟨v, T1, Lc, X2, hS2, hZ2, ho2, hQ, fun F k => own_step (fun _ q => st.trans q) k⟩
end OwnWide
theorem own_satoms : ∀ d ∈ Bundle.stringAtoms, d ∈ tables_1 := by decide +kernel
theorem own_and3 (x : Int32) : (x &&& (3 : Int32)) = (0 : Int32) ∨ (x &&& (3 : Int32)) = (1 : Int32) ∨ (x &&& (3 : Int32)) = (2 : Int32) ∨ (x &&& (3 : Int32)) = (3 : Int32) := by
  have h := Jvm.Kit.i32_and_bounds x (m := (3 : Int32)) (by decide)
  generalize (x &&& (3 : Int32)) = y at h ⊢
  simp only [Int32.le_iff_toInt_le] at h
  have e : (3 : Int32).toInt = 3 := rfl
  have e0 : (0 : Int32).toInt = 0 := rfl
  rw [e, e0] at h
  simp only [← Int32.toInt_inj]
  show y.toInt = 0 ∨ y.toInt = 1 ∨ y.toInt = 2 ∨ y.toInt = 3
  omega
theorem own_pos {x : Int32} (h : ¬ ((x &&& (2147483647 : Int32)) = (0 : Int32))) : ¬ ((x &&& (2147483647 : Int32)) < (1 : Int32)) := by
  have g := (Jvm.Kit.i32_and_bounds x (m := (2147483647 : Int32)) (by decide)).1
  generalize (x &&& (2147483647 : Int32)) = y at h g ⊢
  rw [← Int32.toInt_inj] at h
  rw [Int32.le_iff_toInt_le] at g
  rw [Int32.lt_iff_toInt_lt]
  have e0 : (0 : Int32).toInt = 0 := rfl
  have e1 : (1 : Int32).toInt = 1 := rfl
  rw [e0] at h g
  rw [e1]
  omega
theorem own_r0 (x : Int32) {n : Int32} (h1 : 0 < n.toInt) (h2 : n.toInt < 100) : ((1 : Int32) + (x &&& (2147483647 : Int32)) % n).toInt = 1 + ((x &&& (2147483647 : Int32)) % n).toInt ∧ 0 ≤ ((x &&& (2147483647 : Int32)) % n).toInt ∧ ((x &&& (2147483647 : Int32)) % n).toInt < n.toInt := by
  have h := own_mod x h1
  have e1 : (1 : Int32).toInt = 1 := rfl
  refine ⟨?_, h⟩
  rw [Jvm.Kit.i32_add (by rw [e1]; omega) (by rw [e1]; omega), e1]
theorem own_r1 (x : Int32) {n : Int32} (h1 : 0 < n.toInt) (h2 : n.toInt < 100) : ¬ ((1 : Int32) + (x &&& (2147483647 : Int32)) % n < (1 : Int32)) := by
  have h := own_r0 x h1 h2
  have e1 : (1 : Int32).toInt = 1 := rfl
  rw [Int32.lt_iff_toInt_lt, h.1, e1]
  omega
theorem own_r2 (x : Int32) {n : Int32} (h1 : 0 < n.toInt) (h2 : n.toInt < 100) : ¬ (n < (1 : Int32) + (x &&& (2147483647 : Int32)) % n) := by
  have h := own_r0 x h1 h2
  rw [Int32.lt_iff_toInt_lt, h.1]
  omega
theorem own_r3 {y : Int32} (h : ¬ ((3 : Int32) < y)) : ¬ ((9 : Int32) < y) := by
  rw [Int32.lt_iff_toInt_lt] at h ⊢
  have e1 : (3 : Int32).toInt = 3 := rfl
  have e2 : (9 : Int32).toInt = 9 := rfl
  rw [e1] at h
  rw [e2]
  omega
def w0_SEARCH_CLUSTER (Z : State) : Addr := own_t Z (Jvm.Term.static "com/example/meter_to_month/metertomonth/ledger/ResourceKind" "SEARCH_CLUSTER" "Lcom/example/meter_to_month/metertomonth/ledger/ResourceKind;")
theorem ev_w0_SEARCH_CLUSTER {Z : State} {a0 : Array Value} (hw : ∀ d ∈ tables_1, d.before a0 Z = true) (hA : ∀ d ∈ own_flat narrow_1, d.value a0 Z none Z [] = some true) (hF : Fit Z) : (Jvm.Term.static "com/example/meter_to_month/metertomonth/ledger/ResourceKind" "SEARCH_CLUSTER" "Lcom/example/meter_to_month/metertomonth/ledger/ResourceKind;").eval a0 Z none [] Z = some (.ref (w0_SEARCH_CLUSTER Z)) := own_ev (hA _ (List.mem_of_getElem? (i := 0) rfl)) rfl
def w1_YEAR (Z : State) : Addr := own_t Z (Jvm.Term.static "com/example/meter_to_month/metertomonth/ledger/BillingPeriod$Unit" "YEAR" "Lcom/example/meter_to_month/metertomonth/ledger/BillingPeriod$Unit;")
theorem ev_w1_YEAR {Z : State} {a0 : Array Value} (hw : ∀ d ∈ tables_1, d.before a0 Z = true) (hA : ∀ d ∈ own_flat narrow_1, d.value a0 Z none Z [] = some true) (hF : Fit Z) : (Jvm.Term.static "com/example/meter_to_month/metertomonth/ledger/BillingPeriod$Unit" "YEAR" "Lcom/example/meter_to_month/metertomonth/ledger/BillingPeriod$Unit;").eval a0 Z none [] Z = some (.ref (w1_YEAR Z)) := own_ev (hA _ (List.mem_of_getElem? (i := 1) rfl)) rfl
def w2_h_metertomonth_ledger_BillingPeriod_Unit (Z : State) : Addr := own_t Z (Jvm.Term.static "com/example/meter_to_month/metertomonth/ledger/ResourceKind$1" "$SwitchMap$com$example$meter_to_month$metertomonth$ledger$BillingPeriod$Unit" "[I")
theorem ev_w2_h_metertomonth_ledger_BillingPeriod_Unit {Z : State} {a0 : Array Value} (hw : ∀ d ∈ tables_1, d.before a0 Z = true) (hA : ∀ d ∈ own_flat narrow_1, d.value a0 Z none Z [] = some true) (hF : Fit Z) : (Jvm.Term.static "com/example/meter_to_month/metertomonth/ledger/ResourceKind$1" "$SwitchMap$com$example$meter_to_month$metertomonth$ledger$BillingPeriod$Unit" "[I").eval a0 Z none [] Z = some (.ref (w2_h_metertomonth_ledger_BillingPeriod_Unit Z)) := own_evA (hA _ (List.mem_of_getElem? (i := 2) rfl)) rfl
def w3_DATABASE_INSTANCE (Z : State) : Addr := own_t Z (Jvm.Term.static "com/example/meter_to_month/metertomonth/ledger/ResourceKind" "DATABASE_INSTANCE" "Lcom/example/meter_to_month/metertomonth/ledger/ResourceKind;")
theorem ev_w3_DATABASE_INSTANCE {Z : State} {a0 : Array Value} (hw : ∀ d ∈ tables_1, d.before a0 Z = true) (hA : ∀ d ∈ own_flat narrow_1, d.value a0 Z none Z [] = some true) (hF : Fit Z) : (Jvm.Term.static "com/example/meter_to_month/metertomonth/ledger/ResourceKind" "DATABASE_INSTANCE" "Lcom/example/meter_to_month/metertomonth/ledger/ResourceKind;").eval a0 Z none [] Z = some (.ref (w3_DATABASE_INSTANCE Z)) := own_ev (hA _ (List.mem_of_getElem? (i := 7) rfl)) rfl
def w4_MONTH (Z : State) : Addr := own_t Z (Jvm.Term.static "com/example/meter_to_month/metertomonth/ledger/BillingPeriod$Unit" "MONTH" "Lcom/example/meter_to_month/metertomonth/ledger/BillingPeriod$Unit;")
theorem ev_w4_MONTH {Z : State} {a0 : Array Value} (hw : ∀ d ∈ tables_1, d.before a0 Z = true) (hA : ∀ d ∈ own_flat narrow_1, d.value a0 Z none Z [] = some true) (hF : Fit Z) : (Jvm.Term.static "com/example/meter_to_month/metertomonth/ledger/BillingPeriod$Unit" "MONTH" "Lcom/example/meter_to_month/metertomonth/ledger/BillingPeriod$Unit;").eval a0 Z none [] Z = some (.ref (w4_MONTH Z)) := own_ev (hA _ (List.mem_of_getElem? (i := 8) rfl)) rfl
def w5_BACKUP_VAULT (Z : State) : Addr := own_t Z (Jvm.Term.static "com/example/meter_to_month/metertomonth/ledger/ResourceKind" "BACKUP_VAULT" "Lcom/example/meter_to_month/metertomonth/ledger/ResourceKind;")
theorem ev_w5_BACKUP_VAULT {Z : State} {a0 : Array Value} (hw : ∀ d ∈ tables_1, d.before a0 Z = true) (hA : ∀ d ∈ own_flat narrow_1, d.value a0 Z none Z [] = some true) (hF : Fit Z) : (Jvm.Term.static "com/example/meter_to_month/metertomonth/ledger/ResourceKind" "BACKUP_VAULT" "Lcom/example/meter_to_month/metertomonth/ledger/ResourceKind;").eval a0 Z none [] Z = some (.ref (w5_BACKUP_VAULT Z)) := own_ev (hA _ (List.mem_of_getElem? (i := 13) rfl)) rfl
def w6_ELASTIC_IP (Z : State) : Addr := own_t Z (Jvm.Term.static "com/example/meter_to_month/metertomonth/ledger/ResourceKind" "ELASTIC_IP" "Lcom/example/meter_to_month/metertomonth/ledger/ResourceKind;")
theorem ev_w6_ELASTIC_IP {Z : State} {a0 : Array Value} (hw : ∀ d ∈ tables_1, d.before a0 Z = true) (hA : ∀ d ∈ own_flat narrow_1, d.value a0 Z none Z [] = some true) (hF : Fit Z) : (Jvm.Term.static "com/example/meter_to_month/metertomonth/ledger/ResourceKind" "ELASTIC_IP" "Lcom/example/meter_to_month/metertomonth/ledger/ResourceKind;").eval a0 Z none [] Z = some (.ref (w6_ELASTIC_IP Z)) := own_ev (hA _ (List.mem_of_getElem? (i := 15) rfl)) rfl
theorem ex_w0_SEARCH_CLUSTER {Z : State} {a0 : Array Value} (hw : ∀ d ∈ tables_1, d.before a0 Z = true) (hA : ∀ d ∈ own_flat narrow_1, d.value a0 Z none Z [] = some true) (hF : Fit Z) : Exa Z Z.heap (w0_SEARCH_CLUSTER Z) "com/example/meter_to_month/metertomonth/ledger/ResourceKind" := Exa.start (ev_w0_SEARCH_CLUSTER hw hA hF) (hA _ (List.mem_of_getElem? (i := 0) rfl))
theorem ex_w1_YEAR {Z : State} {a0 : Array Value} (hw : ∀ d ∈ tables_1, d.before a0 Z = true) (hA : ∀ d ∈ own_flat narrow_1, d.value a0 Z none Z [] = some true) (hF : Fit Z) : Exa Z Z.heap (w1_YEAR Z) "com/example/meter_to_month/metertomonth/ledger/BillingPeriod$Unit" := Exa.start (ev_w1_YEAR hw hA hF) (hA _ (List.mem_of_getElem? (i := 1) rfl))
theorem ex_w3_DATABASE_INSTANCE {Z : State} {a0 : Array Value} (hw : ∀ d ∈ tables_1, d.before a0 Z = true) (hA : ∀ d ∈ own_flat narrow_1, d.value a0 Z none Z [] = some true) (hF : Fit Z) : Exa Z Z.heap (w3_DATABASE_INSTANCE Z) "com/example/meter_to_month/metertomonth/ledger/ResourceKind" := Exa.start (ev_w3_DATABASE_INSTANCE hw hA hF) (hA _ (List.mem_of_getElem? (i := 7) rfl))
theorem ex_w4_MONTH {Z : State} {a0 : Array Value} (hw : ∀ d ∈ tables_1, d.before a0 Z = true) (hA : ∀ d ∈ own_flat narrow_1, d.value a0 Z none Z [] = some true) (hF : Fit Z) : Exa Z Z.heap (w4_MONTH Z) "com/example/meter_to_month/metertomonth/ledger/BillingPeriod$Unit" := Exa.start (ev_w4_MONTH hw hA hF) (hA _ (List.mem_of_getElem? (i := 8) rfl))
theorem ex_w5_BACKUP_VAULT {Z : State} {a0 : Array Value} (hw : ∀ d ∈ tables_1, d.before a0 Z = true) (hA : ∀ d ∈ own_flat narrow_1, d.value a0 Z none Z [] = some true) (hF : Fit Z) : Exa Z Z.heap (w5_BACKUP_VAULT Z) "com/example/meter_to_month/metertomonth/ledger/ResourceKind" := Exa.start (ev_w5_BACKUP_VAULT hw hA hF) (hA _ (List.mem_of_getElem? (i := 13) rfl))
theorem ex_w6_ELASTIC_IP {Z : State} {a0 : Array Value} (hw : ∀ d ∈ tables_1, d.before a0 Z = true) (hA : ∀ d ∈ own_flat narrow_1, d.value a0 Z none Z [] = some true) (hF : Fit Z) : Exa Z Z.heap (w6_ELASTIC_IP Z) "com/example/meter_to_month/metertomonth/ledger/ResourceKind" := Exa.start (ev_w6_ELASTIC_IP hw hA hF) (hA _ (List.mem_of_getElem? (i := 15) rfl))
theorem st_w0_SEARCH_CLUSTER {Z : State} {a0 : Array Value} (hw : ∀ d ∈ tables_1, d.before a0 Z = true) (hA : ∀ d ∈ own_flat narrow_1, d.value a0 Z none Z [] = some true) (hF : Fit Z) : Sta Z Z.heap "com/example/meter_to_month/metertomonth/ledger/ResourceKind" "SEARCH_CLUSTER" "Lcom/example/meter_to_month/metertomonth/ledger/ResourceKind;" (.ref (w0_SEARCH_CLUSTER Z)) := Sta.start (ev_w0_SEARCH_CLUSTER hw hA hF) (Or.inr ⟨(hw _ (List.mem_of_getElem? (i := 1) rfl)), (hw _ (List.mem_of_getElem? (i := 2) rfl))⟩)
theorem st_w1_YEAR {Z : State} {a0 : Array Value} (hw : ∀ d ∈ tables_1, d.before a0 Z = true) (hA : ∀ d ∈ own_flat narrow_1, d.value a0 Z none Z [] = some true) (hF : Fit Z) : Sta Z Z.heap "com/example/meter_to_month/metertomonth/ledger/BillingPeriod$Unit" "YEAR" "Lcom/example/meter_to_month/metertomonth/ledger/BillingPeriod$Unit;" (.ref (w1_YEAR Z)) := Sta.start (ev_w1_YEAR hw hA hF) (Or.inr ⟨(hw _ (List.mem_of_getElem? (i := 4) rfl)), (hw _ (List.mem_of_getElem? (i := 5) rfl))⟩)
theorem st_w2_h_metertomonth_ledger_BillingPeriod_Unit {Z : State} {a0 : Array Value} (hw : ∀ d ∈ tables_1, d.before a0 Z = true) (hA : ∀ d ∈ own_flat narrow_1, d.value a0 Z none Z [] = some true) (hF : Fit Z) : Sta Z Z.heap "com/example/meter_to_month/metertomonth/ledger/ResourceKind$1" "$SwitchMap$com$example$meter_to_month$metertomonth$ledger$BillingPeriod$Unit" "[I" (.ref (w2_h_metertomonth_ledger_BillingPeriod_Unit Z)) := Sta.start (ev_w2_h_metertomonth_ledger_BillingPeriod_Unit hw hA hF) (Or.inr ⟨(hw _ (List.mem_of_getElem? (i := 13) rfl)), (hw _ (List.mem_of_getElem? (i := 14) rfl))⟩)
theorem st_w3_DATABASE_INSTANCE {Z : State} {a0 : Array Value} (hw : ∀ d ∈ tables_1, d.before a0 Z = true) (hA : ∀ d ∈ own_flat narrow_1, d.value a0 Z none Z [] = some true) (hF : Fit Z) : Sta Z Z.heap "com/example/meter_to_month/metertomonth/ledger/ResourceKind" "DATABASE_INSTANCE" "Lcom/example/meter_to_month/metertomonth/ledger/ResourceKind;" (.ref (w3_DATABASE_INSTANCE Z)) := Sta.start (ev_w3_DATABASE_INSTANCE hw hA hF) (Or.inr ⟨(hw _ (List.mem_of_getElem? (i := 1) rfl)), (hw _ (List.mem_of_getElem? (i := 67) rfl))⟩)
theorem st_w4_MONTH {Z : State} {a0 : Array Value} (hw : ∀ d ∈ tables_1, d.before a0 Z = true) (hA : ∀ d ∈ own_flat narrow_1, d.value a0 Z none Z [] = some true) (hF : Fit Z) : Sta Z Z.heap "com/example/meter_to_month/metertomonth/ledger/BillingPeriod$Unit" "MONTH" "Lcom/example/meter_to_month/metertomonth/ledger/BillingPeriod$Unit;" (.ref (w4_MONTH Z)) := Sta.start (ev_w4_MONTH hw hA hF) (Or.inr ⟨(hw _ (List.mem_of_getElem? (i := 4) rfl)), (hw _ (List.mem_of_getElem? (i := 69) rfl))⟩)
theorem st_w5_BACKUP_VAULT {Z : State} {a0 : Array Value} (hw : ∀ d ∈ tables_1, d.before a0 Z = true) (hA : ∀ d ∈ own_flat narrow_1, d.value a0 Z none Z [] = some true) (hF : Fit Z) : Sta Z Z.heap "com/example/meter_to_month/metertomonth/ledger/ResourceKind" "BACKUP_VAULT" "Lcom/example/meter_to_month/metertomonth/ledger/ResourceKind;" (.ref (w5_BACKUP_VAULT Z)) := Sta.start (ev_w5_BACKUP_VAULT hw hA hF) (Or.inr ⟨(hw _ (List.mem_of_getElem? (i := 1) rfl)), (hw _ (List.mem_of_getElem? (i := 73) rfl))⟩)
theorem st_w6_ELASTIC_IP {Z : State} {a0 : Array Value} (hw : ∀ d ∈ tables_1, d.before a0 Z = true) (hA : ∀ d ∈ own_flat narrow_1, d.value a0 Z none Z [] = some true) (hF : Fit Z) : Sta Z Z.heap "com/example/meter_to_month/metertomonth/ledger/ResourceKind" "ELASTIC_IP" "Lcom/example/meter_to_month/metertomonth/ledger/ResourceKind;" (.ref (w6_ELASTIC_IP Z)) := Sta.start (ev_w6_ELASTIC_IP hw hA hF) (Or.inr ⟨(hw _ (List.mem_of_getElem? (i := 1) rfl)), (hw _ (List.mem_of_getElem? (i := 75) rfl))⟩)
theorem fl0 {Z : State} {a0 : Array Value} (hw : ∀ d ∈ tables_1, d.before a0 Z = true) (hA : ∀ d ∈ own_flat narrow_1, d.value a0 Z none Z [] = some true) (hF : Fit Z) : Fld Z Z.heap (w1_YEAR Z) "java/lang/Enum" "ordinal" "I" (.int (1 : Int32)) := own_fld (ev_w1_YEAR hw hA hF) (own_eqI (hA _ (List.mem_of_getElem? (i := 4) rfl)))
theorem fl1 {Z : State} {a0 : Array Value} (hw : ∀ d ∈ tables_1, d.before a0 Z = true) (hA : ∀ d ∈ own_flat narrow_1, d.value a0 Z none Z [] = some true) (hF : Fit Z) : Fld Z Z.heap (w0_SEARCH_CLUSTER Z) "com/example/meter_to_month/metertomonth/ledger/ResourceKind" "longestYears" "I" (.int (3 : Int32)) := own_fld (ev_w0_SEARCH_CLUSTER hw hA hF) (own_eqI (hA _ (List.mem_of_getElem? (i := 6) rfl)))
theorem fl2 {Z : State} {a0 : Array Value} (hw : ∀ d ∈ tables_1, d.before a0 Z = true) (hA : ∀ d ∈ own_flat narrow_1, d.value a0 Z none Z [] = some true) (hF : Fit Z) : Fld Z Z.heap (w4_MONTH Z) "java/lang/Enum" "ordinal" "I" (.int (0 : Int32)) := own_fld (ev_w4_MONTH hw hA hF) (own_eqI (hA _ (List.mem_of_getElem? (i := 9) rfl)))
theorem fl3 {Z : State} {a0 : Array Value} (hw : ∀ d ∈ tables_1, d.before a0 Z = true) (hA : ∀ d ∈ own_flat narrow_1, d.value a0 Z none Z [] = some true) (hF : Fit Z) : Fld Z Z.heap (w3_DATABASE_INSTANCE Z) "com/example/meter_to_month/metertomonth/ledger/ResourceKind" "longestMonths" "I" (.int (9 : Int32)) := own_fld (ev_w3_DATABASE_INSTANCE hw hA hF) (own_eqI (hA _ (List.mem_of_getElem? (i := 11) rfl)))
theorem fl4 {Z : State} {a0 : Array Value} (hw : ∀ d ∈ tables_1, d.before a0 Z = true) (hA : ∀ d ∈ own_flat narrow_1, d.value a0 Z none Z [] = some true) (hF : Fit Z) : Fld Z Z.heap (w0_SEARCH_CLUSTER Z) "com/example/meter_to_month/metertomonth/ledger/ResourceKind" "longestMonths" "I" (.int (9 : Int32)) := own_fld (ev_w0_SEARCH_CLUSTER hw hA hF) (own_eqI (hA _ (List.mem_of_getElem? (i := 12) rfl)))
theorem fl5 {Z : State} {a0 : Array Value} (hw : ∀ d ∈ tables_1, d.before a0 Z = true) (hA : ∀ d ∈ own_flat narrow_1, d.value a0 Z none Z [] = some true) (hF : Fit Z) : Fld Z Z.heap (w5_BACKUP_VAULT Z) "com/example/meter_to_month/metertomonth/ledger/ResourceKind" "longestMonths" "I" (.int (9 : Int32)) := own_fld (ev_w5_BACKUP_VAULT hw hA hF) (own_eqI (hA _ (List.mem_of_getElem? (i := 14) rfl)))
theorem fl6 {Z : State} {a0 : Array Value} (hw : ∀ d ∈ tables_1, d.before a0 Z = true) (hA : ∀ d ∈ own_flat narrow_1, d.value a0 Z none Z [] = some true) (hF : Fit Z) : Fld Z Z.heap (w6_ELASTIC_IP Z) "com/example/meter_to_month/metertomonth/ledger/ResourceKind" "longestYears" "I" (.int (9 : Int32)) := own_fld (ev_w6_ELASTIC_IP hw hA hF) (own_eqI (hA _ (List.mem_of_getElem? (i := 16) rfl)))
theorem fl7 {Z : State} {a0 : Array Value} (hw : ∀ d ∈ tables_1, d.before a0 Z = true) (hA : ∀ d ∈ own_flat narrow_1, d.value a0 Z none Z [] = some true) (hF : Fit Z) : Fld Z Z.heap (w5_BACKUP_VAULT Z) "com/example/meter_to_month/metertomonth/ledger/ResourceKind" "longestYears" "I" (.int (9 : Int32)) := own_fld (ev_w5_BACKUP_VAULT hw hA hF) (own_eqI (hA _ (List.mem_of_getElem? (i := 17) rfl)))
theorem fl8 {Z : State} {a0 : Array Value} (hw : ∀ d ∈ tables_1, d.before a0 Z = true) (hA : ∀ d ∈ own_flat narrow_1, d.value a0 Z none Z [] = some true) (hF : Fit Z) : Fld Z Z.heap (w6_ELASTIC_IP Z) "com/example/meter_to_month/metertomonth/ledger/ResourceKind" "longestMonths" "I" (.int (9 : Int32)) := own_fld (ev_w6_ELASTIC_IP hw hA hF) (own_eqI (hA _ (List.mem_of_getElem? (i := 18) rfl)))
theorem fl9 {Z : State} {a0 : Array Value} (hw : ∀ d ∈ tables_1, d.before a0 Z = true) (hA : ∀ d ∈ own_flat narrow_1, d.value a0 Z none Z [] = some true) (hF : Fit Z) : Fld Z Z.heap (w3_DATABASE_INSTANCE Z) "com/example/meter_to_month/metertomonth/ledger/ResourceKind" "longestYears" "I" (.int (3 : Int32)) := own_fld (ev_w3_DATABASE_INSTANCE hw hA hF) (own_eqI (hA _ (List.mem_of_getElem? (i := 19) rfl)))
theorem ar_w2_h_metertomonth_ledger_BillingPeriod_Unit {Z : State} {a0 : Array Value} (hw : ∀ d ∈ tables_1, d.before a0 Z = true) (hA : ∀ d ∈ own_flat narrow_1, d.value a0 Z none Z [] = some true) (hF : Fit Z) : ∃ k, Arv Z Z.heap (w2_h_metertomonth_ledger_BillingPeriod_Unit Z) k .int (2 : Int32) [(.int (1 : Int32)), (.int (2 : Int32))] (.int (0 : Int32)) := by
  obtain ⟨cl, A⟩ := Arr.start (ev_w2_h_metertomonth_ledger_BillingPeriod_Unit hw hA hF) (hA _ (List.mem_of_getElem? (i := 2) rfl))
  obtain ⟨q, e⟩ := own_len A (ev_w2_h_metertomonth_ledger_BillingPeriod_Unit hw hA hF) (hA _ (List.mem_of_getElem? (i := 3) rfl))
  exact ⟨cl.cls, Arv.start hF A q e (by decide) rfl (And.intro (own_el A (ev_w2_h_metertomonth_ledger_BillingPeriod_Unit hw hA hF) (own_eqI (hA _ (List.mem_of_getElem? (i := 10) rfl)))) (And.intro (own_el A (ev_w2_h_metertomonth_ledger_BillingPeriod_Unit hw hA hF) (own_eqI (hA _ (List.mem_of_getElem? (i := 5) rfl)))) True.intro))⟩
theorem d1_0 : decode prog_15_method_6_code 0 = .ok (.getstatic 56, 3) := by decide +kernel
theorem d1_3 : decode prog_15_method_6_code 3 = .ok (.aload_n 1, 1) := by decide +kernel
theorem d1_4 : decode prog_15_method_6_code 4 = .ok (.invokevirtual 62, 3) := by decide +kernel
theorem d2_0 : decode jdk_37_method_2_code 0 = .ok (.aload_n 0, 1) := by decide +kernel
theorem d2_1 : decode jdk_37_method_2_code 1 = .ok (.getfield 7, 3) := by decide +kernel
theorem d2_4 : decode jdk_37_method_2_code 4 = .ok (.ireturn, 1) := by decide +kernel
theorem pn0 : plainName "java/lang/Enum" = true := by first | (simp [plainName, overriddenIn]; done) | decide +kernel
theorem pd1 : parseMethodDescriptor "()I" = some ⟨[], some .int⟩ := by decide +kernel
theorem d1_7 : decode prog_15_method_6_code 7 = .ok (.iaload, 1) := by decide +kernel
theorem d1_8 : decode prog_15_method_6_code 8 = .ok (.lookupswitch 28 #[(1, 38), (2, 45)], 28) := by decide +kernel
theorem d1_46 : decode prog_15_method_6_code 46 = .ok (.aload_n 0, 1) := by decide +kernel
theorem d1_47 : decode prog_15_method_6_code 47 = .ok (.getfield 39, 3) := by decide +kernel
theorem d1_50 : decode prog_15_method_6_code 50 = .ok (.goto 7, 3) := by decide +kernel
theorem d1_57 : decode prog_15_method_6_code 57 = .ok (.istore_n 3, 1) := by decide +kernel
theorem d1_58 : decode prog_15_method_6_code 58 = .ok (.iload_n 2, 1) := by decide +kernel
theorem d1_59 : decode prog_15_method_6_code 59 = .ok (.iconst 1, 1) := by decide +kernel
theorem d1_60 : decode prog_15_method_6_code 60 = .ok (.if_icmp .lt 8, 3) := by decide +kernel
theorem d1_63 : decode prog_15_method_6_code 63 = .ok (.iload_n 2, 1) := by decide +kernel
theorem d1_64 : decode prog_15_method_6_code 64 = .ok (.iload_n 3, 1) := by decide +kernel
theorem d1_65 : decode prog_15_method_6_code 65 = .ok (.if_icmp .le 32, 3) := by decide +kernel
theorem d1_97 : decode prog_15_method_6_code 97 = .ok (.new 98, 3) := by decide +kernel
theorem d1_100 : decode prog_15_method_6_code 100 = .ok (.dup, 1) := by decide +kernel
theorem d1_101 : decode prog_15_method_6_code 101 = .ok (.aload_n 1, 1) := by decide +kernel
theorem d1_102 : decode prog_15_method_6_code 102 = .ok (.iload_n 2, 1) := by decide +kernel
theorem d1_103 : decode prog_15_method_6_code 103 = .ok (.invokespecial 100, 3) := by decide +kernel
theorem d3_0 : decode prog_4_method_1_code 0 = .ok (.aload_n 0, 1) := by decide +kernel
theorem d3_1 : decode prog_4_method_1_code 1 = .ok (.invokespecial 1, 3) := by decide +kernel
theorem d4_0 : decode jdk_30_method_1_code 0 = .ok (.aload_n 0, 1) := by decide +kernel
theorem d4_1 : decode jdk_30_method_1_code 1 = .ok (.invokespecial 1, 3) := by decide +kernel
theorem d4_4 : decode jdk_30_method_1_code 4 = .ok (.return_, 1) := by decide +kernel
theorem pn2 : plainName "java/lang/Record" = true := by first | (simp [plainName, overriddenIn]; done) | decide +kernel
theorem pd3 : parseMethodDescriptor "()V" = some ⟨[], none⟩ := by decide +kernel
theorem d3_4 : decode prog_4_method_1_code 4 = .ok (.aload_n 1, 1) := by decide +kernel
theorem d3_5 : decode prog_4_method_1_code 5 = .ok (.ldc 7, 2) := by decide +kernel
theorem d3_7 : decode prog_4_method_1_code 7 = .ok (.invokestatic 9, 3) := by decide +kernel
theorem d6_0 : decode jdk_31_method_11_code 0 = .ok (.aload_n 0, 1) := by decide +kernel
theorem d6_1 : decode jdk_31_method_11_code 1 = .ok (.ifnonnull 12, 3) := by decide +kernel
theorem d6_13 : decode jdk_31_method_11_code 13 = .ok (.aload_n 0, 1) := by decide +kernel
theorem d6_14 : decode jdk_31_method_11_code 14 = .ok (.areturn, 1) := by decide +kernel
theorem pn4 : plainName "java/util/Objects" = true := by first | (simp [plainName, overriddenIn]; done) | decide +kernel
theorem pd5 : parseMethodDescriptor "(Ljava/lang/Object;Ljava/lang/String;)Ljava/lang/Object;" = some ⟨[(.object "java/lang/Object"), (.object "java/lang/String")], some (.object "java/lang/Object")⟩ := by decide +kernel
theorem d3_10 : decode prog_4_method_1_code 10 = .ok (.pop, 1) := by decide +kernel
theorem d3_11 : decode prog_4_method_1_code 11 = .ok (.iload_n 2, 1) := by decide +kernel
theorem d3_12 : decode prog_4_method_1_code 12 = .ok (.iconst 1, 1) := by decide +kernel
theorem d3_13 : decode prog_4_method_1_code 13 = .ok (.if_icmp .ge 21, 3) := by decide +kernel
theorem d3_34 : decode prog_4_method_1_code 34 = .ok (.aload_n 0, 1) := by decide +kernel
theorem d3_35 : decode prog_4_method_1_code 35 = .ok (.aload_n 1, 1) := by decide +kernel
theorem d3_36 : decode prog_4_method_1_code 36 = .ok (.putfield 30, 3) := by decide +kernel
theorem d3_39 : decode prog_4_method_1_code 39 = .ok (.aload_n 0, 1) := by decide +kernel
theorem d3_40 : decode prog_4_method_1_code 40 = .ok (.iload_n 2, 1) := by decide +kernel
theorem d3_41 : decode prog_4_method_1_code 41 = .ok (.putfield 35, 3) := by decide +kernel
theorem d3_44 : decode prog_4_method_1_code 44 = .ok (.return_, 1) := by decide +kernel
theorem pn6 : plainName "com/example/meter_to_month/metertomonth/ledger/BillingPeriod" = true := by first | (simp [plainName, overriddenIn]; done) | decide +kernel
theorem pd7 : parseMethodDescriptor "(Lcom/example/meter_to_month/metertomonth/ledger/BillingPeriod$Unit;I)V" = some ⟨[(.object "com/example/meter_to_month/metertomonth/ledger/BillingPeriod$Unit"), .int], none⟩ := by decide +kernel
theorem d1_106 : decode prog_15_method_6_code 106 = .ok (.areturn, 1) := by decide +kernel
theorem pn8 : plainName "com/example/meter_to_month/metertomonth/ledger/ResourceKind" = true := by first | (simp [plainName, overriddenIn]; done) | decide +kernel
theorem pd9 : parseMethodDescriptor "(Lcom/example/meter_to_month/metertomonth/ledger/BillingPeriod$Unit;I)Lcom/example/meter_to_month/metertomonth/ledger/BillingPeriod;" = some ⟨[(.object "com/example/meter_to_month/metertomonth/ledger/BillingPeriod$Unit"), .int], some (.object "com/example/meter_to_month/metertomonth/ledger/BillingPeriod")⟩ := by decide +kernel
theorem d7_0 : decode prog_4_method_6_code 0 = .ok (.aload_n 0, 1) := by decide +kernel
theorem d7_1 : decode prog_4_method_6_code 1 = .ok (.getfield 30, 3) := by decide +kernel
theorem d7_4 : decode prog_4_method_6_code 4 = .ok (.areturn, 1) := by decide +kernel
theorem pd10 : parseMethodDescriptor "()Lcom/example/meter_to_month/metertomonth/ledger/BillingPeriod$Unit;" = some ⟨[], some (.object "com/example/meter_to_month/metertomonth/ledger/BillingPeriod$Unit")⟩ := by decide +kernel
theorem d8_0 : decode prog_4_method_7_code 0 = .ok (.aload_n 0, 1) := by decide +kernel
theorem d8_1 : decode prog_4_method_7_code 1 = .ok (.getfield 35, 3) := by decide +kernel
theorem d8_4 : decode prog_4_method_7_code 4 = .ok (.ireturn, 1) := by decide +kernel
theorem d1_53 : decode prog_15_method_6_code 53 = .ok (.aload_n 0, 1) := by decide +kernel
theorem d1_54 : decode prog_15_method_6_code 54 = .ok (.getfield 43, 3) := by decide +kernel
theorem pn11 : plainName "com/example/meter_to_month/metertomonth/ledger/ResourceKindPeriodPinLaw" = true := by first | (simp [plainName, overriddenIn]; done) | decide +kernel
set_option maxRecDepth 65536 in
set_option maxHeartbeats 40000000 in
theorem rm2_0 (l : Launch) (Z : State) (a0 : Array Value) (hw : ∀ d ∈ tables_1, d.before a0 Z = true) (hA : ∀ d ∈ own_flat narrow_1, d.value a0 Z none Z [] = some true) (hF : Fit Z) (ws : List Jvm.Cond) (px1 : Addr) (h0 : Heap) (n0 : Nat) (O0 : Old Z n0 h0) (D0 : Fld Z Z.heap px1 "java/lang/Enum" "ordinal" "I" (.int (0 : Int32))) :
    own_Met l Z (⟨"java/lang/Enum", "ordinal", "()I"⟩ : MethodName) (Jvm.Cond.code (⟨"java/lang/Enum", "ordinal", "()I"⟩ : MethodName) jdk_37_method_2_code 1 (some .int)) ws ({ frames := 0, cells := 0, slots := 0, locals := 0 } : Room) #[(.ref px1)] h0 (fun v h L => (v = some (.int (0 : Int32)) ∧ Fr n0 L ∧ h = h0)) := by
  refine own_met (own := "java/lang/Enum") (plainFor_of_name pn0) rfl ?_
  intro p e s m below meth c s₁ hx hby hml hown hnm hret hlk hZ e0 X0
  refine own_cast (g' := (mkF m 0 #[.val (.ref px1)] [])) (by first | (simp [entryFrame, mkF, argsToLocals, Value.category]; done) | rfl) ?_
  refine own_step (fun _ k => XS.aloadN X0.here hx rfl (hb hby d2_0) rfl rfl k) ?_
  show own_Wp p e below _ s₁ (mkF m 1 #[.val (.ref px1)] [(.ref px1)])
  obtain ⟨T1, X1, e1, st1⟩ := getF X0 hx hZ hown (host := "") (Or.inl (hw _ (List.mem_of_getElem? (i := 22) rfl))) Via.refl e0 (D0.ext O0.2) (g := (mkF m 1 #[.val (.ref px1)] [(.ref px1)])) rfl rfl (hb hby d2_1)
  refine own_step st1 ?_
  show own_Wp p e below _ T1 (mkF m 4 #[.val (.ref px1)] [(.int (0 : Int32))])
  exact own_retI X1 hx hret hlk (hb hby d2_4) (by decide) (by decide) (by rw [e1]; exact ⟨rfl, (Fr.nil n0), rfl⟩)

set_option maxRecDepth 65536 in
set_option maxHeartbeats 40000000 in
theorem rm4_1 (l : Launch) (Z : State) (a0 : Array Value) (hw : ∀ d ∈ tables_1, d.before a0 Z = true) (hA : ∀ d ∈ own_flat narrow_1, d.value a0 Z none Z [] = some true) (hF : Fit Z) (ws : List Jvm.Cond) (px1 : Addr) (h0 : Heap) (n0 : Nat) (O0 : Old Z n0 h0) :
    own_Met l Z (⟨"java/lang/Record", "<init>", "()V"⟩ : MethodName) (Jvm.Cond.code (⟨"java/lang/Record", "<init>", "()V"⟩ : MethodName) jdk_30_method_1_code 1 none) ws ({ frames := 1, cells := 0, slots := 0, locals := 12 } : Room) #[(.ref px1)] h0 (fun v h L => (v = none ∧ Fr n0 L ∧ h = h0)) := by
  refine own_met (own := "java/lang/Record") (plainFor_of_name pn2) rfl ?_
  intro p e s m below meth c s₁ hx hby hml hown hnm hret hlk hZ e0 X0
  refine own_cast (g' := (mkF m 0 #[.val (.ref px1)] [])) (by first | (simp [entryFrame, mkF, argsToLocals, Value.category]; done) | rfl) ?_
  refine own_step (fun _ k => XS.aloadN X0.here hx rfl (hb hby d4_0) rfl rfl k) ?_
  show own_Wp p e below _ s₁ (mkF m 1 #[.val (.ref px1)] [(.ref px1)])
  obtain ⟨T1, X1, e1, st1⟩ := initO X0 hx hZ hown (hw _ (List.mem_of_getElem? (i := 37) rfl)) (hw _ (List.mem_of_getElem? (i := 38) rfl)) (hw _ (List.mem_of_getElem? (i := 39) rfl)) e0 (g := (mkF m 1 #[.val (.ref px1)] [(.ref px1)])) rfl (by rw [hml]; rfl) rfl (hb hby d4_1) (by decide) (W := 0) (by show 2 * 0 + _ ≤ _; exact Nat.le_of_eq rfl) (by decide)
  refine own_step st1 ?_
  show own_Wp p e below _ T1 (mkF m 4 #[.val (.ref px1)] [])
  exact own_retV X1 hx hret hlk (hb hby d4_4) (by decide) (by decide) (by rw [e1]; exact ⟨rfl, (Fr.nil n0), rfl⟩)

set_option maxRecDepth 65536 in
set_option maxHeartbeats 40000000 in
theorem rm6_2 (l : Launch) (Z : State) (a0 : Array Value) (hw : ∀ d ∈ tables_1, d.before a0 Z = true) (hA : ∀ d ∈ own_flat narrow_1, d.value a0 Z none Z [] = some true) (hF : Fit Z) (ws : List Jvm.Cond) (px1 : Addr) (px2 : Addr) (h0 : Heap) (n0 : Nat) (O0 : Old Z n0 h0) :
    own_Met l Z (⟨"java/util/Objects", "requireNonNull", "(Ljava/lang/Object;Ljava/lang/String;)Ljava/lang/Object;"⟩ : MethodName) (Jvm.Cond.code (⟨"java/util/Objects", "requireNonNull", "(Ljava/lang/Object;Ljava/lang/String;)Ljava/lang/Object;"⟩ : MethodName) jdk_31_method_11_code 2 (some (.object "java/lang/Object"))) ws ({ frames := 0, cells := 0, slots := 0, locals := 0 } : Room) #[(.ref px1), (.ref px2)] h0 (fun v h L => (v = some (.ref px1) ∧ Fr n0 L ∧ h = h0)) := by
  refine own_met (own := "java/util/Objects") (plainFor_of_name pn4) rfl ?_
  intro p e s m below meth c s₁ hx hby hml hown hnm hret hlk hZ e0 X0
  refine own_cast (g' := (mkF m 0 #[.val (.ref px1), .val (.ref px2)] [])) (by first | (simp [entryFrame, mkF, argsToLocals, Value.category]; done) | rfl) ?_
  refine own_step (fun _ k => XS.aloadN X0.here hx rfl (hb hby d6_0) rfl rfl k) ?_
  show own_Wp p e below _ s₁ (mkF m 1 #[.val (.ref px1), .val (.ref px2)] [(.ref px1)])
  refine own_step (fun _ k => XS.ifnonnullYes X0.here hx rfl (pc0 := 1) (pc' := 13) rfl (hb hby d6_1) rfl (by decide) (by decide) k) ?_
  show own_Wp p e below _ s₁ (mkF m 13 #[.val (.ref px1), .val (.ref px2)] [])
  refine own_step (fun _ k => XS.aloadN X0.here hx rfl (hb hby d6_13) rfl rfl k) ?_
  show own_Wp p e below _ s₁ (mkF m 14 #[.val (.ref px1), .val (.ref px2)] [(.ref px1)])
  exact own_retA X0 hx hret rfl rfl hlk (hb hby d6_14) (by decide) (by decide) (by rw [e0]; exact ⟨rfl, (Fr.nil n0), rfl⟩)

set_option maxRecDepth 65536 in
set_option maxHeartbeats 40000000 in
theorem rm3_3 (l : Launch) (Z : State) (a0 : Array Value) (hw : ∀ d ∈ tables_1, d.before a0 Z = true) (hA : ∀ d ∈ own_flat narrow_1, d.value a0 Z none Z [] = some true) (hF : Fit Z) (ws : List Jvm.Cond) (px1 : Addr) (px2 : Addr) (pi1 : Int32) (h0 : Heap) (n0 : Nat) (O0 : Old Z n0 h0) (P0 : Exa Z h0 px1 "com/example/meter_to_month/metertomonth/ledger/BillingPeriod") (P1 : Fld Z h0 px1 "com/example/meter_to_month/metertomonth/ledger/BillingPeriod" "unit" "Lcom/example/meter_to_month/metertomonth/ledger/BillingPeriod$Unit;" .null) (P2 : Fld Z h0 px1 "com/example/meter_to_month/metertomonth/ledger/BillingPeriod" "count" "I" (.int (0 : Int32))) (G3 : n0 ≤ px1) (H4 : ¬ (pi1 < (1 : Int32))) :
    own_MetW l Z (⟨"com/example/meter_to_month/metertomonth/ledger/BillingPeriod", "<init>", "(Lcom/example/meter_to_month/metertomonth/ledger/BillingPeriod$Unit;I)V"⟩ : MethodName) (Jvm.Cond.code (⟨"com/example/meter_to_month/metertomonth/ledger/BillingPeriod", "<init>", "(Lcom/example/meter_to_month/metertomonth/ledger/BillingPeriod$Unit;I)V"⟩ : MethodName) prog_4_method_1_code 3 none) ws ({ frames := 2, cells := 2, slots := 20, locals := 24 } : Room) #[(.ref px1), (.ref px2), (.int pi1)] h0 (fun v h L => (v = none ∧ Fr n0 L ∧ Keep h0 h [px1] ∧ Exa Z h px1 "com/example/meter_to_month/metertomonth/ledger/BillingPeriod" ∧ Fld Z h px1 "com/example/meter_to_month/metertomonth/ledger/BillingPeriod" "unit" "Lcom/example/meter_to_month/metertomonth/ledger/BillingPeriod$Unit;" (.ref px2) ∧ Fld Z h px1 "com/example/meter_to_month/metertomonth/ledger/BillingPeriod" "count" "I" (.int pi1))) := by
  refine own_metW (own := "com/example/meter_to_month/metertomonth/ledger/BillingPeriod") (plainFor_of_name pn6) rfl ?_
  intro p e s m below meth c s₁ hx hby hml hown hnm hret hlk hZ e0 X0 hS0
  refine own_cast (g' := (mkF m 0 #[.val (.ref px1), .val (.ref px2), .val (.int pi1)] [])) (by first | (simp [entryFrame, mkF, argsToLocals, Value.category]; done) | rfl) ?_
  refine own_step (fun _ k => XS.aloadN X0.here hx rfl (hb hby d3_0) rfl rfl k) ?_
  show own_Wp p e below _ s₁ (mkF m 1 #[.val (.ref px1), .val (.ref px2), .val (.int pi1)] [(.ref px1)])
  obtain ⟨_, T1, L1, X1, hQ1, st1⟩ := own_callN X0 hx hZ rfl hown (hw _ (List.mem_of_getElem? (i := 32) rfl)) (hw _ (List.mem_of_getElem? (i := 33) rfl)) (hw _ (List.mem_of_getElem? (i := 35) rfl)) (hw _ (List.mem_of_getElem? (i := 36) rfl)) (by decide) (rm4_1 l Z a0 hw hA hF [] px1 h0 n0 O0) (b := px1) (W := 0) (by decide) (by decide) [] rfl (lenOf pd3 rfl) (Ls := #[.val (.ref px1), .val (.ref px2), .val (.int pi1)]) (by rw [hml]; rfl) (rest := []) (Nat.le_of_eq rfl) (hb hby d3_1) e0 (by decide) (by decide)
  refine st1 _ ?_
  obtain ⟨rfl, N1q, e1⟩ := hQ1
  have N1 := Fr.app (Fr.nil n0) N1q
  show own_Wp p e below _ T1 (mkF m 4 #[.val (.ref px1), .val (.ref px2), .val (.int pi1)] [])
  refine own_step (fun _ k => XS.aloadN X1.here hx rfl (hb hby d3_4) rfl rfl k) ?_
  show own_Wp p e below _ T1 (mkF m 5 #[.val (.ref px1), .val (.ref px2), .val (.int pi1)] [(.ref px2)])
  obtain ⟨b2, T2, h2, k2, X2, e2, E2, hS2, hk2, hZ2, hown2, st2⟩ := ldcS X1 hx hZ hown (hw _ (List.mem_of_getElem? (i := 40) rfl)) (fun d hd => hw d (own_satoms d hd)) e1 hS0 (Nat.zero_le _) (g := (mkF m 5 #[.val (.ref px1), .val (.ref px2), .val (.int pi1)] [(.ref px2)])) rfl (hb hby d3_5) (n := 16) (by decide) (by decide) (by decide) (by decide)
  refine own_step st2 ?_
  have O2 := O0.ext E2
  have K2 : Keep h0 h2 [px1] := (Keep.refl h0 [px1]).ext E2
  show own_Wp p e below _ T2 (mkF m 7 #[.val (.ref px1), .val (.ref px2), .val (.int pi1)] [(.ref b2), (.ref px2)])
  obtain ⟨_, T3, L3, X3, hQ3, st3⟩ := own_callS X2 hx hZ2 hown2 (hw _ (List.mem_of_getElem? (i := 48) rfl)) (hw _ (List.mem_of_getElem? (i := 49) rfl)) (hw _ (List.mem_of_getElem? (i := 50) rfl)) (hw _ (List.mem_of_getElem? (i := 51) rfl)) (by decide) (rm6_2 l Z a0 hw hA hF [] px2 b2 h2 n0 O2) (W := 0) (by decide) (by decide) [(.ref px2), (.ref b2)] rfl (lenOf pd5 rfl) (Ls := #[.val (.ref px1), .val (.ref px2), .val (.int pi1)]) (by rw [hml]; rfl) (rest := []) (Nat.le_of_eq rfl) (hb hby d3_7) e2 (by decide) (by decide)
  refine st3 _ ?_
  obtain ⟨rfl, N3q, e3⟩ := hQ3
  have N3 := Fr.app N1 N3q
  show own_Wp p e below _ T3 (mkF m 10 #[.val (.ref px1), .val (.ref px2), .val (.int pi1)] [(.ref px2)])
  refine own_step (fun _ k => XS.pop X3.here hx rfl (hb hby d3_10) rfl rfl k) ?_
  show own_Wp p e below _ T3 (mkF m 11 #[.val (.ref px1), .val (.ref px2), .val (.int pi1)] [])
  refine own_step (fun _ k => XS.iloadN X3.here hx rfl (hb hby d3_11) rfl k) ?_
  show own_Wp p e below _ T3 (mkF m 12 #[.val (.ref px1), .val (.ref px2), .val (.int pi1)] [(.int pi1)])
  refine own_step (fun _ k => XS.iconst X3.here hx rfl (hb hby d3_12) k) ?_
  show own_Wp p e below _ T3 (mkF m 13 #[.val (.ref px1), .val (.ref px2), .val (.int pi1)] [(.int (1 : Int32)), (.int pi1)])
  refine own_step (fun _ k => XS.icmpYes X3.here hx rfl (pc0 := 13) (pc' := 34) rfl (hb hby d3_13) rfl (flt H4).2.1 (by decide) (by decide) k) ?_
  show own_Wp p e below _ T3 (mkF m 34 #[.val (.ref px1), .val (.ref px2), .val (.int pi1)] [])
  refine own_step (fun _ k => XS.aloadN X3.here hx rfl (hb hby d3_34) rfl rfl k) ?_
  show own_Wp p e below _ T3 (mkF m 35 #[.val (.ref px1), .val (.ref px2), .val (.int pi1)] [(.ref px1)])
  refine own_step (fun _ k => XS.aloadN X3.here hx rfl (hb hby d3_35) rfl rfl k) ?_
  show own_Wp p e below _ T3 (mkF m 36 #[.val (.ref px1), .val (.ref px2), .val (.int pi1)] [(.ref px2), (.ref px1)])
  have f4 := (P1.ext E2)
  have f5 := (P0.ext E2)
  obtain ⟨T6, h6, X6, e6, W6, st6⟩ := putF X3 hx hZ2 hown2 (host := "") (Or.inl (hw _ (List.mem_of_getElem? (i := 52) rfl))) Via.refl e3 f4 f5 (Or.inr ⟨(hw _ (List.mem_of_getElem? (i := 53) rfl)), rfl, hnm⟩) (hw _ (List.mem_of_getElem? (i := 27) rfl)) (ty := (.object "com/example/meter_to_month/metertomonth/ledger/BillingPeriod$Unit")) (by decide) rfl rfl (g := (mkF m 36 #[.val (.ref px1), .val (.ref px2), .val (.int pi1)] [(.ref px2), (.ref px1)])) rfl rfl (hb hby d3_36)
  refine own_step st6 ?_
  have N6 := Fr.snoc X6 N3 G3
  have O6 := O2.wr W6 G3
  have K6 : Keep h0 h6 [px1] := K2.wr W6 (Or.inl (by simp))
  have Fw6 := f4.same W6
  show own_Wp p e below _ T6 (mkF m 39 #[.val (.ref px1), .val (.ref px2), .val (.int pi1)] [])
  refine own_step (fun _ k => XS.aloadN X6.here hx rfl (hb hby d3_39) rfl rfl k) ?_
  show own_Wp p e below _ T6 (mkF m 40 #[.val (.ref px1), .val (.ref px2), .val (.int pi1)] [(.ref px1)])
  refine own_step (fun _ k => XS.iloadN X6.here hx rfl (hb hby d3_40) rfl k) ?_
  show own_Wp p e below _ T6 (mkF m 41 #[.val (.ref px1), .val (.ref px2), .val (.int pi1)] [(.int pi1), (.ref px1)])
  have f7 := ((P2.ext E2).other W6 (Or.inr (slot_ne (Or.inr (hw _ (List.mem_of_getElem? (i := 55) rfl))) (Or.inr (hw _ (List.mem_of_getElem? (i := 53) rfl))) (by decide) (t := .int) (t' := (.object "com/example/meter_to_month/metertomonth/ledger/BillingPeriod$Unit")) (by decide) (by decide))))
  have f8 := (f5.wr W6)
  obtain ⟨T9, h9, X9, e9, W9, st9⟩ := putF X6 hx hZ2 hown2 (host := "") (Or.inl (hw _ (List.mem_of_getElem? (i := 54) rfl))) Via.refl e6 f7 f8 (Or.inr ⟨(hw _ (List.mem_of_getElem? (i := 55) rfl)), rfl, hnm⟩) (hw _ (List.mem_of_getElem? (i := 27) rfl)) (ty := .int) (by decide) rfl rfl (g := (mkF m 41 #[.val (.ref px1), .val (.ref px2), .val (.int pi1)] [(.int pi1), (.ref px1)])) rfl rfl (hb hby d3_41)
  refine own_step st9 ?_
  have N9 := Fr.snoc X9 N6 G3
  have O9 := O6.wr W9 G3
  have K9 : Keep h0 h9 [px1] := K6.wr W9 (Or.inl (by simp))
  have Fw9 := f7.same W9
  show own_Wp p e below _ T9 (mkF m 44 #[.val (.ref px1), .val (.ref px2), .val (.int pi1)] [])
  have f10 := (f8.wr W9)
  have f11 := (Fw6.other W9 (Or.inr (slot_ne (Or.inr (hw _ (List.mem_of_getElem? (i := 53) rfl))) (Or.inr (hw _ (List.mem_of_getElem? (i := 55) rfl))) (by decide) (t := (.object "com/example/meter_to_month/metertomonth/ledger/BillingPeriod$Unit")) (t' := .int) (by decide) (by decide))))
  exact own_retVW X9 hS2 (by rw [e9]; exact (Nat.le_trans (Nat.le_trans hk2 (Keep.of_wr W6).1) (Keep.of_wr W9).1)) hx hret hlk (hb hby d3_44) (by decide) (by decide) (by rw [e9]; exact ⟨rfl, N9, K9, f10, f11, Fw9⟩)

set_option maxRecDepth 65536 in
set_option maxHeartbeats 40000000 in
theorem rm1_4 (l : Launch) (Z : State) (a0 : Array Value) (hw : ∀ d ∈ tables_1, d.before a0 Z = true) (hA : ∀ d ∈ own_flat narrow_1, d.value a0 Z none Z [] = some true) (hF : Fit Z) (ws : List Jvm.Cond) (px1 : Addr) (px2 : Addr) (pi1 : Int32) (h0 : Heap) (n0 : Nat) (O0 : Old Z n0 h0) (H0 : ¬ (pi1 < (1 : Int32))) (H1 : ¬ ((9 : Int32) < pi1)) (D0 : Fld Z Z.heap px2 "java/lang/Enum" "ordinal" "I" (.int (0 : Int32))) (D1 : Exa Z Z.heap px2 "com/example/meter_to_month/metertomonth/ledger/BillingPeriod$Unit") (D2 : Fld Z Z.heap px1 "com/example/meter_to_month/metertomonth/ledger/ResourceKind" "longestMonths" "I" (.int (9 : Int32))) :
    own_MetW l Z (⟨"com/example/meter_to_month/metertomonth/ledger/ResourceKind", "period", "(Lcom/example/meter_to_month/metertomonth/ledger/BillingPeriod$Unit;I)Lcom/example/meter_to_month/metertomonth/ledger/BillingPeriod;"⟩ : MethodName) (Jvm.Cond.code (⟨"com/example/meter_to_month/metertomonth/ledger/ResourceKind", "period", "(Lcom/example/meter_to_month/metertomonth/ledger/BillingPeriod$Unit;I)Lcom/example/meter_to_month/metertomonth/ledger/BillingPeriod;"⟩ : MethodName) prog_15_method_6_code 4 (some (.object "com/example/meter_to_month/metertomonth/ledger/BillingPeriod"))) ws ({ frames := 3, cells := 3, slots := 22, locals := 39 } : Room) #[(.ref px1), (.ref px2), (.int pi1)] h0 (fun v h L => (∃ (b6 : Addr), v = some (.ref b6) ∧ Fr n0 L ∧ Keep h0 h [] ∧ h0.size ≤ b6 ∧ Exa Z h b6 "com/example/meter_to_month/metertomonth/ledger/BillingPeriod" ∧ Fld Z h b6 "com/example/meter_to_month/metertomonth/ledger/BillingPeriod" "unit" "Lcom/example/meter_to_month/metertomonth/ledger/BillingPeriod$Unit;" (.ref px2) ∧ Fld Z h b6 "com/example/meter_to_month/metertomonth/ledger/BillingPeriod" "count" "I" (.int pi1))) := by
  refine own_metW (own := "com/example/meter_to_month/metertomonth/ledger/ResourceKind") (plainFor_of_name pn8) rfl ?_
  intro p e s m below meth c s₁ hx hby hml hown hnm hret hlk hZ e0 X0 hS0
  refine own_cast (g' := (mkF m 0 #[.val (.ref px1), .val (.ref px2), .val (.int pi1), .unset] [])) (by first | (simp [entryFrame, mkF, argsToLocals, Value.category]; done) | rfl) ?_
  obtain ⟨T1, X1, e1, st1⟩ := getS2 X0 hx hZ hown (host := "") (Or.inl (hw _ (List.mem_of_getElem? (i := 12) rfl))) Via.refl e0 ((st_w2_h_metertomonth_ledger_BillingPeriod_Unit hw hA hF).ext O0.2) (g := (mkF m 0 #[.val (.ref px1), .val (.ref px2), .val (.int pi1), .unset] [])) rfl (hb hby d1_0)
  refine own_step st1 ?_
  show own_Wp p e below _ T1 (mkF m 3 #[.val (.ref px1), .val (.ref px2), .val (.int pi1), .unset] [(.ref (w2_h_metertomonth_ledger_BillingPeriod_Unit Z))])
  refine own_step (fun _ k => XS.aloadN X1.here hx rfl (hb hby d1_3) rfl rfl k) ?_
  show own_Wp p e below _ T1 (mkF m 4 #[.val (.ref px1), .val (.ref px2), .val (.int pi1), .unset] [(.ref px2), (.ref (w2_h_metertomonth_ledger_BillingPeriod_Unit Z))])
  obtain ⟨_, T2, L2, X2, hQ2, st2⟩ := own_callU X1 hx hZ hown (hw _ (List.mem_of_getElem? (i := 15) rfl)) (hw _ (List.mem_of_getElem? (i := 16) rfl)) (hw _ (List.mem_of_getElem? (i := 17) rfl)) (hw _ (List.mem_of_getElem? (i := 19) rfl)) (hw _ (List.mem_of_getElem? (i := 18) rfl)) (hw _ (List.mem_of_getElem? (i := 20) rfl)) (hw _ (List.mem_of_getElem? (i := 21) rfl)) (by decide) (D1.ext O0.2) (rm2_0 l Z a0 hw hA hF [] px2 h0 n0 O0 D0) (W := 1) (by decide) (by decide) [] rfl (lenOf pd1 rfl) (Ls := #[.val (.ref px1), .val (.ref px2), .val (.int pi1), .unset]) (by rw [hml]; rfl) (rest := [(.ref (w2_h_metertomonth_ledger_BillingPeriod_Unit Z))]) (Nat.le_of_eq rfl) (hb hby d1_4) e1 (by decide) (by decide)
  refine st2 _ ?_
  obtain ⟨rfl, N2q, e2⟩ := hQ2
  have N2 := Fr.app (Fr.nil n0) N2q
  show own_Wp p e below _ T2 (mkF m 7 #[.val (.ref px1), .val (.ref px2), .val (.int pi1), .unset] [(.int (0 : Int32)), (.ref (w2_h_metertomonth_ledger_BillingPeriod_Unit Z))])
  obtain ⟨k3, V3⟩ := (ar_w2_h_metertomonth_ledger_BillingPeriod_Unit hw hA hF)
  have V3x := V3.ext O0.2
  obtain ⟨c4, r4, q4, t4, u4, y4h, y4g⟩ := id V3x
  have i4 : ¬ ((0 : Int32) < 0 ∨ c4.slots.size ≤ ((0 : Int32)).toNatClampNeg) := inb_of t4 ⟨by decide, by decide⟩
  refine own_step (fun _ k => X2.iaload hx (j := (0 : Int32)) (v := (.int (1 : Int32))) (by rw [e2]; exact r4.1) (State.isArrayOf_alike hZ.alike r4.2.1) r4.2.2 i4 (own_get t4 y4h i4 0 rfl) (g := (mkF m 7 #[.val (.ref px1), .val (.ref px2), .val (.int pi1), .unset] [(.int (0 : Int32)), (.ref (w2_h_metertomonth_ledger_BillingPeriod_Unit Z))])) rfl rfl (hb hby d1_7) _ k) ?_
  show own_Wp p e below _ T2 (mkF m 8 #[.val (.ref px1), .val (.ref px2), .val (.int pi1), .unset] [(.int (1 : Int32))])
  refine own_step (T' := T2) (g' := (mkF m 46 #[.val (.ref px1), .val (.ref px2), .val (.int pi1), .unset] [])) (fun _ k => by
    show Steps p.tables e below (T2.setTop { method := m, pc := 8, locals := #[.val (.ref px1), .val (.ref px2), .val (.int pi1), .unset], stack := [(.int (1 : Int32))], locked := none }) _
    jvm_step X2.here [X2.here.top, hx, (hb hby d1_8), lookupswitch.wp_chain, lookupswitch.offset_cons, lookupswitch.offset_nil]
    exact k) ?_
  show own_Wp p e below _ T2 (mkF m 46 #[.val (.ref px1), .val (.ref px2), .val (.int pi1), .unset] [])
  refine own_step (fun _ k => XS.aloadN X2.here hx rfl (hb hby d1_46) rfl rfl k) ?_
  show own_Wp p e below _ T2 (mkF m 47 #[.val (.ref px1), .val (.ref px2), .val (.int pi1), .unset] [(.ref px1)])
  obtain ⟨T5, X5, e5, st5⟩ := getF X2 hx hZ hown (host := "") (Or.inl (hw _ (List.mem_of_getElem? (i := 70) rfl))) Via.refl e2 (D2.ext O0.2) (g := (mkF m 47 #[.val (.ref px1), .val (.ref px2), .val (.int pi1), .unset] [(.ref px1)])) rfl rfl (hb hby d1_47)
  refine own_step st5 ?_
  show own_Wp p e below _ T5 (mkF m 50 #[.val (.ref px1), .val (.ref px2), .val (.int pi1), .unset] [(.int (9 : Int32))])
  refine own_step (fun _ k => XS.goto X5.here hx rfl (pc0 := 50) (pc' := 57) rfl (hb hby d1_50) (by decide) (by decide) k) ?_
  show own_Wp p e below _ T5 (mkF m 57 #[.val (.ref px1), .val (.ref px2), .val (.int pi1), .unset] [(.int (9 : Int32))])
  refine own_step (fun _ k => XS.istoreN X5.here hx rfl (hb hby d1_57) rfl (l' := #[.val (.ref px1), .val (.ref px2), .val (.int pi1), .val (.int (9 : Int32))]) rfl k) ?_
  show own_Wp p e below _ T5 (mkF m 58 #[.val (.ref px1), .val (.ref px2), .val (.int pi1), .val (.int (9 : Int32))] [])
  refine own_step (fun _ k => XS.iloadN X5.here hx rfl (hb hby d1_58) rfl k) ?_
  show own_Wp p e below _ T5 (mkF m 59 #[.val (.ref px1), .val (.ref px2), .val (.int pi1), .val (.int (9 : Int32))] [(.int pi1)])
  refine own_step (fun _ k => XS.iconst X5.here hx rfl (hb hby d1_59) k) ?_
  show own_Wp p e below _ T5 (mkF m 60 #[.val (.ref px1), .val (.ref px2), .val (.int pi1), .val (.int (9 : Int32))] [(.int (1 : Int32)), (.int pi1)])
  refine own_step (fun _ k => XS.icmpNo X5.here hx rfl (hb hby d1_60) rfl (flt H0).1 k) ?_
  show own_Wp p e below _ T5 (mkF m 63 #[.val (.ref px1), .val (.ref px2), .val (.int pi1), .val (.int (9 : Int32))] [])
  refine own_step (fun _ k => XS.iloadN X5.here hx rfl (hb hby d1_63) rfl k) ?_
  show own_Wp p e below _ T5 (mkF m 64 #[.val (.ref px1), .val (.ref px2), .val (.int pi1), .val (.int (9 : Int32))] [(.int pi1)])
  refine own_step (fun _ k => XS.iloadN X5.here hx rfl (hb hby d1_64) rfl k) ?_
  show own_Wp p e below _ T5 (mkF m 65 #[.val (.ref px1), .val (.ref px2), .val (.int pi1), .val (.int (9 : Int32))] [(.int (9 : Int32)), (.int pi1)])
  refine own_step (fun _ k => XS.icmpYes X5.here hx rfl (pc0 := 65) (pc' := 97) rfl (hb hby d1_65) rfl (flt H1).2.2.2 (by decide) (by decide) k) ?_
  show own_Wp p e below _ T5 (mkF m 97 #[.val (.ref px1), .val (.ref px2), .val (.int pi1), .val (.int (9 : Int32))] [])
  obtain ⟨T6, h6, X6, e6, E6, A6, D6, -, st6⟩ := newO X5 hx hZ hown (hw _ (List.mem_of_getElem? (i := 26) rfl)) (hw _ (List.mem_of_getElem? (i := 27) rfl)) (hw _ (List.mem_of_getElem? (i := 28) rfl)) e5 (g := (mkF m 97 #[.val (.ref px1), .val (.ref px2), .val (.int pi1), .val (.int (9 : Int32))] [])) rfl (hb hby d1_97) (by decide) (by decide)
  obtain ⟨b6, z6⟩ : ∃ z, z = h0.size := ⟨_, rfl⟩
  rw [← z6] at A6 D6 st6
  refine own_step st6 ?_
  have g6 : n0 ≤ b6 := Nat.le_trans (O0.1 ▸ O0.2.1) (Nat.le_of_eq z6.symm)
  have ne6_0 : (w2_h_metertomonth_ledger_BillingPeriod_Unit Z) ≠ b6 := Nat.ne_of_lt (Nat.lt_of_lt_of_le V3x.lt (Nat.le_of_eq z6.symm))
  have y6 : h0.size ≤ b6 := Nat.le_trans (Nat.le_refl _) (Nat.le_of_eq z6.symm)
  have O6 := O0.ext E6
  have K6 : Keep h0 h6 [] := (Keep.refl h0 []).ext E6
  have F6_53 : Fld Z h6 b6 "com/example/meter_to_month/metertomonth/ledger/BillingPeriod" "unit" "Lcom/example/meter_to_month/metertomonth/ledger/BillingPeriod$Unit;" .null := D6 (Or.inr (hw _ (List.mem_of_getElem? (i := 53) rfl))) (ty := (.object "com/example/meter_to_month/metertomonth/ledger/BillingPeriod$Unit")) (by decide)
  have F6_55 : Fld Z h6 b6 "com/example/meter_to_month/metertomonth/ledger/BillingPeriod" "count" "I" (.int (0 : Int32)) := D6 (Or.inr (hw _ (List.mem_of_getElem? (i := 55) rfl))) (ty := .int) (by decide)
  show own_Wp p e below _ T6 (mkF m 100 #[.val (.ref px1), .val (.ref px2), .val (.int pi1), .val (.int (9 : Int32))] [(.ref b6)])
  refine own_step (fun _ k => XS.dup X6.here hx rfl (hb hby d1_100) rfl rfl k) ?_
  show own_Wp p e below _ T6 (mkF m 101 #[.val (.ref px1), .val (.ref px2), .val (.int pi1), .val (.int (9 : Int32))] [(.ref b6), (.ref b6)])
  refine own_step (fun _ k => XS.aloadN X6.here hx rfl (hb hby d1_101) rfl rfl k) ?_
  show own_Wp p e below _ T6 (mkF m 102 #[.val (.ref px1), .val (.ref px2), .val (.int pi1), .val (.int (9 : Int32))] [(.ref px2), (.ref b6), (.ref b6)])
  refine own_step (fun _ k => XS.iloadN X6.here hx rfl (hb hby d1_102) rfl k) ?_
  show own_Wp p e below _ T6 (mkF m 103 #[.val (.ref px1), .val (.ref px2), .val (.int pi1), .val (.int (9 : Int32))] [(.int pi1), (.ref px2), (.ref b6), (.ref b6)])
  obtain ⟨_, T7, L7, X7, hS7, hZ7, hown7, hQ7, st7⟩ := own_callNW X6 hx hZ hS0 (Nat.zero_le _) rfl hown (hw _ (List.mem_of_getElem? (i := 29) rfl)) (hw _ (List.mem_of_getElem? (i := 30) rfl)) (hw _ (List.mem_of_getElem? (i := 28) rfl)) (hw _ (List.mem_of_getElem? (i := 31) rfl)) (by decide) (rm3_3 l Z a0 hw hA hF [] b6 px2 pi1 h6 n0 O6 A6 F6_53 F6_55 g6 H0) (b := b6) (W := 1) (by decide) (by decide) [(.ref px2), (.int pi1)] rfl (lenOf pd7 rfl) (Ls := #[.val (.ref px1), .val (.ref px2), .val (.int pi1), .val (.int (9 : Int32))]) (by rw [hml]; rfl) (rest := [(.ref b6)]) (Nat.le_of_eq rfl) (hb hby d1_103) e6 (by decide) (by decide)
  refine st7 _ ?_
  obtain ⟨rfl, N7q, K7q, F7_0, F7_1, F7_2⟩ := hQ7
  have N7 := Fr.app N2 N7q
  have O7 := O6.keep K7q (allS g6 all0)
  have K7 : Keep h0 T7.heap [] := Keep.trans K6 K7q (allS (Or.inr y6) all0)
  show own_Wp p e below _ T7 (mkF m 106 #[.val (.ref px1), .val (.ref px2), .val (.int pi1), .val (.int (9 : Int32))] [(.ref b6)])
  exact own_retAW X7 hS7 (Nat.le_refl _) hx hret rfl rfl hlk (hb hby d1_106) (by decide) (by decide) (⟨b6, rfl, N7, K7, y6, F7_0, F7_1, F7_2⟩)

set_option maxRecDepth 65536 in
set_option maxHeartbeats 40000000 in
theorem rm7_5 (l : Launch) (Z : State) (a0 : Array Value) (hw : ∀ d ∈ tables_1, d.before a0 Z = true) (hA : ∀ d ∈ own_flat narrow_1, d.value a0 Z none Z [] = some true) (hF : Fit Z) (ws : List Jvm.Cond) (px1 : Addr) (h0 : Heap) (n0 : Nat) (O0 : Old Z n0 h0) (P1 : Fld Z h0 px1 "com/example/meter_to_month/metertomonth/ledger/BillingPeriod" "unit" "Lcom/example/meter_to_month/metertomonth/ledger/BillingPeriod$Unit;" (.ref (w4_MONTH Z))) :
    own_Met l Z (⟨"com/example/meter_to_month/metertomonth/ledger/BillingPeriod", "unit", "()Lcom/example/meter_to_month/metertomonth/ledger/BillingPeriod$Unit;"⟩ : MethodName) (Jvm.Cond.code (⟨"com/example/meter_to_month/metertomonth/ledger/BillingPeriod", "unit", "()Lcom/example/meter_to_month/metertomonth/ledger/BillingPeriod$Unit;"⟩ : MethodName) prog_4_method_6_code 1 (some (.object "com/example/meter_to_month/metertomonth/ledger/BillingPeriod$Unit"))) ws ({ frames := 0, cells := 0, slots := 0, locals := 0 } : Room) #[(.ref px1)] h0 (fun v h L => (v = some (.ref (w4_MONTH Z)) ∧ Fr n0 L ∧ h = h0)) := by
  refine own_met (own := "com/example/meter_to_month/metertomonth/ledger/BillingPeriod") (plainFor_of_name pn6) rfl ?_
  intro p e s m below meth c s₁ hx hby hml hown hnm hret hlk hZ e0 X0
  refine own_cast (g' := (mkF m 0 #[.val (.ref px1)] [])) (by first | (simp [entryFrame, mkF, argsToLocals, Value.category]; done) | rfl) ?_
  refine own_step (fun _ k => XS.aloadN X0.here hx rfl (hb hby d7_0) rfl rfl k) ?_
  show own_Wp p e below _ s₁ (mkF m 1 #[.val (.ref px1)] [(.ref px1)])
  obtain ⟨T1, X1, e1, st1⟩ := getF X0 hx hZ hown (host := "") (Or.inl (hw _ (List.mem_of_getElem? (i := 52) rfl))) Via.refl e0 P1 (g := (mkF m 1 #[.val (.ref px1)] [(.ref px1)])) rfl rfl (hb hby d7_1)
  refine own_step st1 ?_
  show own_Wp p e below _ T1 (mkF m 4 #[.val (.ref px1)] [(.ref (w4_MONTH Z))])
  exact own_retA X1 hx hret rfl rfl hlk (hb hby d7_4) (by decide) (by decide) (by rw [e1]; exact ⟨rfl, (Fr.nil n0), rfl⟩)

set_option maxRecDepth 65536 in
set_option maxHeartbeats 40000000 in
theorem rm8_6 (l : Launch) (Z : State) (a0 : Array Value) (hw : ∀ d ∈ tables_1, d.before a0 Z = true) (hA : ∀ d ∈ own_flat narrow_1, d.value a0 Z none Z [] = some true) (hF : Fit Z) (ws : List Jvm.Cond) (px1 : Addr) (pi1 : Int32) (h0 : Heap) (n0 : Nat) (O0 : Old Z n0 h0) (P2 : Fld Z h0 px1 "com/example/meter_to_month/metertomonth/ledger/BillingPeriod" "count" "I" (.int pi1)) :
    own_Met l Z (⟨"com/example/meter_to_month/metertomonth/ledger/BillingPeriod", "count", "()I"⟩ : MethodName) (Jvm.Cond.code (⟨"com/example/meter_to_month/metertomonth/ledger/BillingPeriod", "count", "()I"⟩ : MethodName) prog_4_method_7_code 1 (some .int)) ws ({ frames := 0, cells := 0, slots := 0, locals := 0 } : Room) #[(.ref px1)] h0 (fun v h L => (v = some (.int pi1) ∧ Fr n0 L ∧ h = h0)) := by
  refine own_met (own := "com/example/meter_to_month/metertomonth/ledger/BillingPeriod") (plainFor_of_name pn6) rfl ?_
  intro p e s m below meth c s₁ hx hby hml hown hnm hret hlk hZ e0 X0
  refine own_cast (g' := (mkF m 0 #[.val (.ref px1)] [])) (by first | (simp [entryFrame, mkF, argsToLocals, Value.category]; done) | rfl) ?_
  refine own_step (fun _ k => XS.aloadN X0.here hx rfl (hb hby d8_0) rfl rfl k) ?_
  show own_Wp p e below _ s₁ (mkF m 1 #[.val (.ref px1)] [(.ref px1)])
  obtain ⟨T1, X1, e1, st1⟩ := getF X0 hx hZ hown (host := "") (Or.inl (hw _ (List.mem_of_getElem? (i := 54) rfl))) Via.refl e0 P2 (g := (mkF m 1 #[.val (.ref px1)] [(.ref px1)])) rfl rfl (hb hby d8_1)
  refine own_step st1 ?_
  show own_Wp p e below _ T1 (mkF m 4 #[.val (.ref px1)] [(.int pi1)])
  exact own_retI X1 hx hret hlk (hb hby d8_4) (by decide) (by decide) (by rw [e1]; exact ⟨rfl, (Fr.nil n0), rfl⟩)

set_option maxRecDepth 65536 in
set_option maxHeartbeats 40000000 in
theorem rm2_7 (l : Launch) (Z : State) (a0 : Array Value) (hw : ∀ d ∈ tables_1, d.before a0 Z = true) (hA : ∀ d ∈ own_flat narrow_1, d.value a0 Z none Z [] = some true) (hF : Fit Z) (ws : List Jvm.Cond) (px1 : Addr) (h0 : Heap) (n0 : Nat) (O0 : Old Z n0 h0) (D0 : Fld Z Z.heap px1 "java/lang/Enum" "ordinal" "I" (.int (1 : Int32))) :
    own_Met l Z (⟨"java/lang/Enum", "ordinal", "()I"⟩ : MethodName) (Jvm.Cond.code (⟨"java/lang/Enum", "ordinal", "()I"⟩ : MethodName) jdk_37_method_2_code 1 (some .int)) ws ({ frames := 0, cells := 0, slots := 0, locals := 0 } : Room) #[(.ref px1)] h0 (fun v h L => (v = some (.int (1 : Int32)) ∧ Fr n0 L ∧ h = h0)) := by
  refine own_met (own := "java/lang/Enum") (plainFor_of_name pn0) rfl ?_
  intro p e s m below meth c s₁ hx hby hml hown hnm hret hlk hZ e0 X0
  refine own_cast (g' := (mkF m 0 #[.val (.ref px1)] [])) (by first | (simp [entryFrame, mkF, argsToLocals, Value.category]; done) | rfl) ?_
  refine own_step (fun _ k => XS.aloadN X0.here hx rfl (hb hby d2_0) rfl rfl k) ?_
  show own_Wp p e below _ s₁ (mkF m 1 #[.val (.ref px1)] [(.ref px1)])
  obtain ⟨T1, X1, e1, st1⟩ := getF X0 hx hZ hown (host := "") (Or.inl (hw _ (List.mem_of_getElem? (i := 22) rfl))) Via.refl e0 (D0.ext O0.2) (g := (mkF m 1 #[.val (.ref px1)] [(.ref px1)])) rfl rfl (hb hby d2_1)
  refine own_step st1 ?_
  show own_Wp p e below _ T1 (mkF m 4 #[.val (.ref px1)] [(.int (1 : Int32))])
  exact own_retI X1 hx hret hlk (hb hby d2_4) (by decide) (by decide) (by rw [e1]; exact ⟨rfl, (Fr.nil n0), rfl⟩)

set_option maxRecDepth 65536 in
set_option maxHeartbeats 40000000 in
theorem rm1_8 (l : Launch) (Z : State) (a0 : Array Value) (hw : ∀ d ∈ tables_1, d.before a0 Z = true) (hA : ∀ d ∈ own_flat narrow_1, d.value a0 Z none Z [] = some true) (hF : Fit Z) (ws : List Jvm.Cond) (px1 : Addr) (px2 : Addr) (pi1 : Int32) (h0 : Heap) (n0 : Nat) (O0 : Old Z n0 h0) (H0 : ¬ (pi1 < (1 : Int32))) (H1 : ¬ ((3 : Int32) < pi1)) (D0 : Fld Z Z.heap px2 "java/lang/Enum" "ordinal" "I" (.int (1 : Int32))) (D1 : Exa Z Z.heap px2 "com/example/meter_to_month/metertomonth/ledger/BillingPeriod$Unit") (D2 : Fld Z Z.heap px1 "com/example/meter_to_month/metertomonth/ledger/ResourceKind" "longestYears" "I" (.int (3 : Int32))) :
    own_MetW l Z (⟨"com/example/meter_to_month/metertomonth/ledger/ResourceKind", "period", "(Lcom/example/meter_to_month/metertomonth/ledger/BillingPeriod$Unit;I)Lcom/example/meter_to_month/metertomonth/ledger/BillingPeriod;"⟩ : MethodName) (Jvm.Cond.code (⟨"com/example/meter_to_month/metertomonth/ledger/ResourceKind", "period", "(Lcom/example/meter_to_month/metertomonth/ledger/BillingPeriod$Unit;I)Lcom/example/meter_to_month/metertomonth/ledger/BillingPeriod;"⟩ : MethodName) prog_15_method_6_code 4 (some (.object "com/example/meter_to_month/metertomonth/ledger/BillingPeriod"))) ws ({ frames := 3, cells := 3, slots := 22, locals := 39 } : Room) #[(.ref px1), (.ref px2), (.int pi1)] h0 (fun v h L => (∃ (b6 : Addr), v = some (.ref b6) ∧ Fr n0 L ∧ Keep h0 h [] ∧ h0.size ≤ b6 ∧ Exa Z h b6 "com/example/meter_to_month/metertomonth/ledger/BillingPeriod" ∧ Fld Z h b6 "com/example/meter_to_month/metertomonth/ledger/BillingPeriod" "unit" "Lcom/example/meter_to_month/metertomonth/ledger/BillingPeriod$Unit;" (.ref px2) ∧ Fld Z h b6 "com/example/meter_to_month/metertomonth/ledger/BillingPeriod" "count" "I" (.int pi1))) := by
  refine own_metW (own := "com/example/meter_to_month/metertomonth/ledger/ResourceKind") (plainFor_of_name pn8) rfl ?_
  intro p e s m below meth c s₁ hx hby hml hown hnm hret hlk hZ e0 X0 hS0
  refine own_cast (g' := (mkF m 0 #[.val (.ref px1), .val (.ref px2), .val (.int pi1), .unset] [])) (by first | (simp [entryFrame, mkF, argsToLocals, Value.category]; done) | rfl) ?_
  obtain ⟨T1, X1, e1, st1⟩ := getS2 X0 hx hZ hown (host := "") (Or.inl (hw _ (List.mem_of_getElem? (i := 12) rfl))) Via.refl e0 ((st_w2_h_metertomonth_ledger_BillingPeriod_Unit hw hA hF).ext O0.2) (g := (mkF m 0 #[.val (.ref px1), .val (.ref px2), .val (.int pi1), .unset] [])) rfl (hb hby d1_0)
  refine own_step st1 ?_
  show own_Wp p e below _ T1 (mkF m 3 #[.val (.ref px1), .val (.ref px2), .val (.int pi1), .unset] [(.ref (w2_h_metertomonth_ledger_BillingPeriod_Unit Z))])
  refine own_step (fun _ k => XS.aloadN X1.here hx rfl (hb hby d1_3) rfl rfl k) ?_
  show own_Wp p e below _ T1 (mkF m 4 #[.val (.ref px1), .val (.ref px2), .val (.int pi1), .unset] [(.ref px2), (.ref (w2_h_metertomonth_ledger_BillingPeriod_Unit Z))])
  obtain ⟨_, T2, L2, X2, hQ2, st2⟩ := own_callU X1 hx hZ hown (hw _ (List.mem_of_getElem? (i := 15) rfl)) (hw _ (List.mem_of_getElem? (i := 16) rfl)) (hw _ (List.mem_of_getElem? (i := 17) rfl)) (hw _ (List.mem_of_getElem? (i := 19) rfl)) (hw _ (List.mem_of_getElem? (i := 18) rfl)) (hw _ (List.mem_of_getElem? (i := 20) rfl)) (hw _ (List.mem_of_getElem? (i := 21) rfl)) (by decide) (D1.ext O0.2) (rm2_7 l Z a0 hw hA hF [] px2 h0 n0 O0 D0) (W := 1) (by decide) (by decide) [] rfl (lenOf pd1 rfl) (Ls := #[.val (.ref px1), .val (.ref px2), .val (.int pi1), .unset]) (by rw [hml]; rfl) (rest := [(.ref (w2_h_metertomonth_ledger_BillingPeriod_Unit Z))]) (Nat.le_of_eq rfl) (hb hby d1_4) e1 (by decide) (by decide)
  refine st2 _ ?_
  obtain ⟨rfl, N2q, e2⟩ := hQ2
  have N2 := Fr.app (Fr.nil n0) N2q
  show own_Wp p e below _ T2 (mkF m 7 #[.val (.ref px1), .val (.ref px2), .val (.int pi1), .unset] [(.int (1 : Int32)), (.ref (w2_h_metertomonth_ledger_BillingPeriod_Unit Z))])
  obtain ⟨k3, V3⟩ := (ar_w2_h_metertomonth_ledger_BillingPeriod_Unit hw hA hF)
  have V3x := V3.ext O0.2
  obtain ⟨c4, r4, q4, t4, u4, y4h, y4g⟩ := id V3x
  have i4 : ¬ ((1 : Int32) < 0 ∨ c4.slots.size ≤ ((1 : Int32)).toNatClampNeg) := inb_of t4 ⟨by decide, by decide⟩
  refine own_step (fun _ k => X2.iaload hx (j := (1 : Int32)) (v := (.int (2 : Int32))) (by rw [e2]; exact r4.1) (State.isArrayOf_alike hZ.alike r4.2.1) r4.2.2 i4 (own_get t4 y4h i4 1 rfl) (g := (mkF m 7 #[.val (.ref px1), .val (.ref px2), .val (.int pi1), .unset] [(.int (1 : Int32)), (.ref (w2_h_metertomonth_ledger_BillingPeriod_Unit Z))])) rfl rfl (hb hby d1_7) _ k) ?_
  show own_Wp p e below _ T2 (mkF m 8 #[.val (.ref px1), .val (.ref px2), .val (.int pi1), .unset] [(.int (2 : Int32))])
  refine own_step (T' := T2) (g' := (mkF m 53 #[.val (.ref px1), .val (.ref px2), .val (.int pi1), .unset] [])) (fun _ k => by
    show Steps p.tables e below (T2.setTop { method := m, pc := 8, locals := #[.val (.ref px1), .val (.ref px2), .val (.int pi1), .unset], stack := [(.int (2 : Int32))], locked := none }) _
    jvm_step X2.here [X2.here.top, hx, (hb hby d1_8), lookupswitch.wp_chain, lookupswitch.offset_cons, lookupswitch.offset_nil]
    exact k) ?_
  show own_Wp p e below _ T2 (mkF m 53 #[.val (.ref px1), .val (.ref px2), .val (.int pi1), .unset] [])
  refine own_step (fun _ k => XS.aloadN X2.here hx rfl (hb hby d1_53) rfl rfl k) ?_
  show own_Wp p e below _ T2 (mkF m 54 #[.val (.ref px1), .val (.ref px2), .val (.int pi1), .unset] [(.ref px1)])
  obtain ⟨T5, X5, e5, st5⟩ := getF X2 hx hZ hown (host := "") (Or.inl (hw _ (List.mem_of_getElem? (i := 24) rfl))) Via.refl e2 (D2.ext O0.2) (g := (mkF m 54 #[.val (.ref px1), .val (.ref px2), .val (.int pi1), .unset] [(.ref px1)])) rfl rfl (hb hby d1_54)
  refine own_step st5 ?_
  show own_Wp p e below _ T5 (mkF m 57 #[.val (.ref px1), .val (.ref px2), .val (.int pi1), .unset] [(.int (3 : Int32))])
  refine own_step (fun _ k => XS.istoreN X5.here hx rfl (hb hby d1_57) rfl (l' := #[.val (.ref px1), .val (.ref px2), .val (.int pi1), .val (.int (3 : Int32))]) rfl k) ?_
  show own_Wp p e below _ T5 (mkF m 58 #[.val (.ref px1), .val (.ref px2), .val (.int pi1), .val (.int (3 : Int32))] [])
  refine own_step (fun _ k => XS.iloadN X5.here hx rfl (hb hby d1_58) rfl k) ?_
  show own_Wp p e below _ T5 (mkF m 59 #[.val (.ref px1), .val (.ref px2), .val (.int pi1), .val (.int (3 : Int32))] [(.int pi1)])
  refine own_step (fun _ k => XS.iconst X5.here hx rfl (hb hby d1_59) k) ?_
  show own_Wp p e below _ T5 (mkF m 60 #[.val (.ref px1), .val (.ref px2), .val (.int pi1), .val (.int (3 : Int32))] [(.int (1 : Int32)), (.int pi1)])
  refine own_step (fun _ k => XS.icmpNo X5.here hx rfl (hb hby d1_60) rfl (flt H0).1 k) ?_
  show own_Wp p e below _ T5 (mkF m 63 #[.val (.ref px1), .val (.ref px2), .val (.int pi1), .val (.int (3 : Int32))] [])
  refine own_step (fun _ k => XS.iloadN X5.here hx rfl (hb hby d1_63) rfl k) ?_
  show own_Wp p e below _ T5 (mkF m 64 #[.val (.ref px1), .val (.ref px2), .val (.int pi1), .val (.int (3 : Int32))] [(.int pi1)])
  refine own_step (fun _ k => XS.iloadN X5.here hx rfl (hb hby d1_64) rfl k) ?_
  show own_Wp p e below _ T5 (mkF m 65 #[.val (.ref px1), .val (.ref px2), .val (.int pi1), .val (.int (3 : Int32))] [(.int (3 : Int32)), (.int pi1)])
  refine own_step (fun _ k => XS.icmpYes X5.here hx rfl (pc0 := 65) (pc' := 97) rfl (hb hby d1_65) rfl (flt H1).2.2.2 (by decide) (by decide) k) ?_
  show own_Wp p e below _ T5 (mkF m 97 #[.val (.ref px1), .val (.ref px2), .val (.int pi1), .val (.int (3 : Int32))] [])
  obtain ⟨T6, h6, X6, e6, E6, A6, D6, -, st6⟩ := newO X5 hx hZ hown (hw _ (List.mem_of_getElem? (i := 26) rfl)) (hw _ (List.mem_of_getElem? (i := 27) rfl)) (hw _ (List.mem_of_getElem? (i := 28) rfl)) e5 (g := (mkF m 97 #[.val (.ref px1), .val (.ref px2), .val (.int pi1), .val (.int (3 : Int32))] [])) rfl (hb hby d1_97) (by decide) (by decide)
  obtain ⟨b6, z6⟩ : ∃ z, z = h0.size := ⟨_, rfl⟩
  rw [← z6] at A6 D6 st6
  refine own_step st6 ?_
  have g6 : n0 ≤ b6 := Nat.le_trans (O0.1 ▸ O0.2.1) (Nat.le_of_eq z6.symm)
  have ne6_0 : (w2_h_metertomonth_ledger_BillingPeriod_Unit Z) ≠ b6 := Nat.ne_of_lt (Nat.lt_of_lt_of_le V3x.lt (Nat.le_of_eq z6.symm))
  have y6 : h0.size ≤ b6 := Nat.le_trans (Nat.le_refl _) (Nat.le_of_eq z6.symm)
  have O6 := O0.ext E6
  have K6 : Keep h0 h6 [] := (Keep.refl h0 []).ext E6
  have F6_53 : Fld Z h6 b6 "com/example/meter_to_month/metertomonth/ledger/BillingPeriod" "unit" "Lcom/example/meter_to_month/metertomonth/ledger/BillingPeriod$Unit;" .null := D6 (Or.inr (hw _ (List.mem_of_getElem? (i := 53) rfl))) (ty := (.object "com/example/meter_to_month/metertomonth/ledger/BillingPeriod$Unit")) (by decide)
  have F6_55 : Fld Z h6 b6 "com/example/meter_to_month/metertomonth/ledger/BillingPeriod" "count" "I" (.int (0 : Int32)) := D6 (Or.inr (hw _ (List.mem_of_getElem? (i := 55) rfl))) (ty := .int) (by decide)
  show own_Wp p e below _ T6 (mkF m 100 #[.val (.ref px1), .val (.ref px2), .val (.int pi1), .val (.int (3 : Int32))] [(.ref b6)])
  refine own_step (fun _ k => XS.dup X6.here hx rfl (hb hby d1_100) rfl rfl k) ?_
  show own_Wp p e below _ T6 (mkF m 101 #[.val (.ref px1), .val (.ref px2), .val (.int pi1), .val (.int (3 : Int32))] [(.ref b6), (.ref b6)])
  refine own_step (fun _ k => XS.aloadN X6.here hx rfl (hb hby d1_101) rfl rfl k) ?_
  show own_Wp p e below _ T6 (mkF m 102 #[.val (.ref px1), .val (.ref px2), .val (.int pi1), .val (.int (3 : Int32))] [(.ref px2), (.ref b6), (.ref b6)])
  refine own_step (fun _ k => XS.iloadN X6.here hx rfl (hb hby d1_102) rfl k) ?_
  show own_Wp p e below _ T6 (mkF m 103 #[.val (.ref px1), .val (.ref px2), .val (.int pi1), .val (.int (3 : Int32))] [(.int pi1), (.ref px2), (.ref b6), (.ref b6)])
  obtain ⟨_, T7, L7, X7, hS7, hZ7, hown7, hQ7, st7⟩ := own_callNW X6 hx hZ hS0 (Nat.zero_le _) rfl hown (hw _ (List.mem_of_getElem? (i := 29) rfl)) (hw _ (List.mem_of_getElem? (i := 30) rfl)) (hw _ (List.mem_of_getElem? (i := 28) rfl)) (hw _ (List.mem_of_getElem? (i := 31) rfl)) (by decide) (rm3_3 l Z a0 hw hA hF [] b6 px2 pi1 h6 n0 O6 A6 F6_53 F6_55 g6 H0) (b := b6) (W := 1) (by decide) (by decide) [(.ref px2), (.int pi1)] rfl (lenOf pd7 rfl) (Ls := #[.val (.ref px1), .val (.ref px2), .val (.int pi1), .val (.int (3 : Int32))]) (by rw [hml]; rfl) (rest := [(.ref b6)]) (Nat.le_of_eq rfl) (hb hby d1_103) e6 (by decide) (by decide)
  refine st7 _ ?_
  obtain ⟨rfl, N7q, K7q, F7_0, F7_1, F7_2⟩ := hQ7
  have N7 := Fr.app N2 N7q
  have O7 := O6.keep K7q (allS g6 all0)
  have K7 : Keep h0 T7.heap [] := Keep.trans K6 K7q (allS (Or.inr y6) all0)
  show own_Wp p e below _ T7 (mkF m 106 #[.val (.ref px1), .val (.ref px2), .val (.int pi1), .val (.int (3 : Int32))] [(.ref b6)])
  exact own_retAW X7 hS7 (Nat.le_refl _) hx hret rfl rfl hlk (hb hby d1_106) (by decide) (by decide) (⟨b6, rfl, N7, K7, y6, F7_0, F7_1, F7_2⟩)

set_option maxRecDepth 65536 in
set_option maxHeartbeats 40000000 in
theorem rm7_9 (l : Launch) (Z : State) (a0 : Array Value) (hw : ∀ d ∈ tables_1, d.before a0 Z = true) (hA : ∀ d ∈ own_flat narrow_1, d.value a0 Z none Z [] = some true) (hF : Fit Z) (ws : List Jvm.Cond) (px1 : Addr) (h0 : Heap) (n0 : Nat) (O0 : Old Z n0 h0) (P1 : Fld Z h0 px1 "com/example/meter_to_month/metertomonth/ledger/BillingPeriod" "unit" "Lcom/example/meter_to_month/metertomonth/ledger/BillingPeriod$Unit;" (.ref (w1_YEAR Z))) :
    own_Met l Z (⟨"com/example/meter_to_month/metertomonth/ledger/BillingPeriod", "unit", "()Lcom/example/meter_to_month/metertomonth/ledger/BillingPeriod$Unit;"⟩ : MethodName) (Jvm.Cond.code (⟨"com/example/meter_to_month/metertomonth/ledger/BillingPeriod", "unit", "()Lcom/example/meter_to_month/metertomonth/ledger/BillingPeriod$Unit;"⟩ : MethodName) prog_4_method_6_code 1 (some (.object "com/example/meter_to_month/metertomonth/ledger/BillingPeriod$Unit"))) ws ({ frames := 0, cells := 0, slots := 0, locals := 0 } : Room) #[(.ref px1)] h0 (fun v h L => (v = some (.ref (w1_YEAR Z)) ∧ Fr n0 L ∧ h = h0)) := by
  refine own_met (own := "com/example/meter_to_month/metertomonth/ledger/BillingPeriod") (plainFor_of_name pn6) rfl ?_
  intro p e s m below meth c s₁ hx hby hml hown hnm hret hlk hZ e0 X0
  refine own_cast (g' := (mkF m 0 #[.val (.ref px1)] [])) (by first | (simp [entryFrame, mkF, argsToLocals, Value.category]; done) | rfl) ?_
  refine own_step (fun _ k => XS.aloadN X0.here hx rfl (hb hby d7_0) rfl rfl k) ?_
  show own_Wp p e below _ s₁ (mkF m 1 #[.val (.ref px1)] [(.ref px1)])
  obtain ⟨T1, X1, e1, st1⟩ := getF X0 hx hZ hown (host := "") (Or.inl (hw _ (List.mem_of_getElem? (i := 52) rfl))) Via.refl e0 P1 (g := (mkF m 1 #[.val (.ref px1)] [(.ref px1)])) rfl rfl (hb hby d7_1)
  refine own_step st1 ?_
  show own_Wp p e below _ T1 (mkF m 4 #[.val (.ref px1)] [(.ref (w1_YEAR Z))])
  exact own_retA X1 hx hret rfl rfl hlk (hb hby d7_4) (by decide) (by decide) (by rw [e1]; exact ⟨rfl, (Fr.nil n0), rfl⟩)

set_option maxRecDepth 65536 in
set_option maxHeartbeats 40000000 in
theorem rm1_10 (l : Launch) (Z : State) (a0 : Array Value) (hw : ∀ d ∈ tables_1, d.before a0 Z = true) (hA : ∀ d ∈ own_flat narrow_1, d.value a0 Z none Z [] = some true) (hF : Fit Z) (ws : List Jvm.Cond) (px1 : Addr) (px2 : Addr) (pi1 : Int32) (h0 : Heap) (n0 : Nat) (O0 : Old Z n0 h0) (H0 : ¬ (pi1 < (1 : Int32))) (H1 : ¬ ((9 : Int32) < pi1)) (D0 : Fld Z Z.heap px2 "java/lang/Enum" "ordinal" "I" (.int (1 : Int32))) (D1 : Exa Z Z.heap px2 "com/example/meter_to_month/metertomonth/ledger/BillingPeriod$Unit") (D2 : Fld Z Z.heap px1 "com/example/meter_to_month/metertomonth/ledger/ResourceKind" "longestYears" "I" (.int (9 : Int32))) :
    own_MetW l Z (⟨"com/example/meter_to_month/metertomonth/ledger/ResourceKind", "period", "(Lcom/example/meter_to_month/metertomonth/ledger/BillingPeriod$Unit;I)Lcom/example/meter_to_month/metertomonth/ledger/BillingPeriod;"⟩ : MethodName) (Jvm.Cond.code (⟨"com/example/meter_to_month/metertomonth/ledger/ResourceKind", "period", "(Lcom/example/meter_to_month/metertomonth/ledger/BillingPeriod$Unit;I)Lcom/example/meter_to_month/metertomonth/ledger/BillingPeriod;"⟩ : MethodName) prog_15_method_6_code 4 (some (.object "com/example/meter_to_month/metertomonth/ledger/BillingPeriod"))) ws ({ frames := 3, cells := 3, slots := 22, locals := 39 } : Room) #[(.ref px1), (.ref px2), (.int pi1)] h0 (fun v h L => (∃ (b6 : Addr), v = some (.ref b6) ∧ Fr n0 L ∧ Keep h0 h [] ∧ h0.size ≤ b6 ∧ Exa Z h b6 "com/example/meter_to_month/metertomonth/ledger/BillingPeriod" ∧ Fld Z h b6 "com/example/meter_to_month/metertomonth/ledger/BillingPeriod" "unit" "Lcom/example/meter_to_month/metertomonth/ledger/BillingPeriod$Unit;" (.ref px2) ∧ Fld Z h b6 "com/example/meter_to_month/metertomonth/ledger/BillingPeriod" "count" "I" (.int pi1))) := by
  refine own_metW (own := "com/example/meter_to_month/metertomonth/ledger/ResourceKind") (plainFor_of_name pn8) rfl ?_
  intro p e s m below meth c s₁ hx hby hml hown hnm hret hlk hZ e0 X0 hS0
  refine own_cast (g' := (mkF m 0 #[.val (.ref px1), .val (.ref px2), .val (.int pi1), .unset] [])) (by first | (simp [entryFrame, mkF, argsToLocals, Value.category]; done) | rfl) ?_
  obtain ⟨T1, X1, e1, st1⟩ := getS2 X0 hx hZ hown (host := "") (Or.inl (hw _ (List.mem_of_getElem? (i := 12) rfl))) Via.refl e0 ((st_w2_h_metertomonth_ledger_BillingPeriod_Unit hw hA hF).ext O0.2) (g := (mkF m 0 #[.val (.ref px1), .val (.ref px2), .val (.int pi1), .unset] [])) rfl (hb hby d1_0)
  refine own_step st1 ?_
  show own_Wp p e below _ T1 (mkF m 3 #[.val (.ref px1), .val (.ref px2), .val (.int pi1), .unset] [(.ref (w2_h_metertomonth_ledger_BillingPeriod_Unit Z))])
  refine own_step (fun _ k => XS.aloadN X1.here hx rfl (hb hby d1_3) rfl rfl k) ?_
  show own_Wp p e below _ T1 (mkF m 4 #[.val (.ref px1), .val (.ref px2), .val (.int pi1), .unset] [(.ref px2), (.ref (w2_h_metertomonth_ledger_BillingPeriod_Unit Z))])
  obtain ⟨_, T2, L2, X2, hQ2, st2⟩ := own_callU X1 hx hZ hown (hw _ (List.mem_of_getElem? (i := 15) rfl)) (hw _ (List.mem_of_getElem? (i := 16) rfl)) (hw _ (List.mem_of_getElem? (i := 17) rfl)) (hw _ (List.mem_of_getElem? (i := 19) rfl)) (hw _ (List.mem_of_getElem? (i := 18) rfl)) (hw _ (List.mem_of_getElem? (i := 20) rfl)) (hw _ (List.mem_of_getElem? (i := 21) rfl)) (by decide) (D1.ext O0.2) (rm2_7 l Z a0 hw hA hF [] px2 h0 n0 O0 D0) (W := 1) (by decide) (by decide) [] rfl (lenOf pd1 rfl) (Ls := #[.val (.ref px1), .val (.ref px2), .val (.int pi1), .unset]) (by rw [hml]; rfl) (rest := [(.ref (w2_h_metertomonth_ledger_BillingPeriod_Unit Z))]) (Nat.le_of_eq rfl) (hb hby d1_4) e1 (by decide) (by decide)
  refine st2 _ ?_
  obtain ⟨rfl, N2q, e2⟩ := hQ2
  have N2 := Fr.app (Fr.nil n0) N2q
  show own_Wp p e below _ T2 (mkF m 7 #[.val (.ref px1), .val (.ref px2), .val (.int pi1), .unset] [(.int (1 : Int32)), (.ref (w2_h_metertomonth_ledger_BillingPeriod_Unit Z))])
  obtain ⟨k3, V3⟩ := (ar_w2_h_metertomonth_ledger_BillingPeriod_Unit hw hA hF)
  have V3x := V3.ext O0.2
  obtain ⟨c4, r4, q4, t4, u4, y4h, y4g⟩ := id V3x
  have i4 : ¬ ((1 : Int32) < 0 ∨ c4.slots.size ≤ ((1 : Int32)).toNatClampNeg) := inb_of t4 ⟨by decide, by decide⟩
  refine own_step (fun _ k => X2.iaload hx (j := (1 : Int32)) (v := (.int (2 : Int32))) (by rw [e2]; exact r4.1) (State.isArrayOf_alike hZ.alike r4.2.1) r4.2.2 i4 (own_get t4 y4h i4 1 rfl) (g := (mkF m 7 #[.val (.ref px1), .val (.ref px2), .val (.int pi1), .unset] [(.int (1 : Int32)), (.ref (w2_h_metertomonth_ledger_BillingPeriod_Unit Z))])) rfl rfl (hb hby d1_7) _ k) ?_
  show own_Wp p e below _ T2 (mkF m 8 #[.val (.ref px1), .val (.ref px2), .val (.int pi1), .unset] [(.int (2 : Int32))])
  refine own_step (T' := T2) (g' := (mkF m 53 #[.val (.ref px1), .val (.ref px2), .val (.int pi1), .unset] [])) (fun _ k => by
    show Steps p.tables e below (T2.setTop { method := m, pc := 8, locals := #[.val (.ref px1), .val (.ref px2), .val (.int pi1), .unset], stack := [(.int (2 : Int32))], locked := none }) _
    jvm_step X2.here [X2.here.top, hx, (hb hby d1_8), lookupswitch.wp_chain, lookupswitch.offset_cons, lookupswitch.offset_nil]
    exact k) ?_
  show own_Wp p e below _ T2 (mkF m 53 #[.val (.ref px1), .val (.ref px2), .val (.int pi1), .unset] [])
  refine own_step (fun _ k => XS.aloadN X2.here hx rfl (hb hby d1_53) rfl rfl k) ?_
  show own_Wp p e below _ T2 (mkF m 54 #[.val (.ref px1), .val (.ref px2), .val (.int pi1), .unset] [(.ref px1)])
  obtain ⟨T5, X5, e5, st5⟩ := getF X2 hx hZ hown (host := "") (Or.inl (hw _ (List.mem_of_getElem? (i := 24) rfl))) Via.refl e2 (D2.ext O0.2) (g := (mkF m 54 #[.val (.ref px1), .val (.ref px2), .val (.int pi1), .unset] [(.ref px1)])) rfl rfl (hb hby d1_54)
  refine own_step st5 ?_
  show own_Wp p e below _ T5 (mkF m 57 #[.val (.ref px1), .val (.ref px2), .val (.int pi1), .unset] [(.int (9 : Int32))])
  refine own_step (fun _ k => XS.istoreN X5.here hx rfl (hb hby d1_57) rfl (l' := #[.val (.ref px1), .val (.ref px2), .val (.int pi1), .val (.int (9 : Int32))]) rfl k) ?_
  show own_Wp p e below _ T5 (mkF m 58 #[.val (.ref px1), .val (.ref px2), .val (.int pi1), .val (.int (9 : Int32))] [])
  refine own_step (fun _ k => XS.iloadN X5.here hx rfl (hb hby d1_58) rfl k) ?_
  show own_Wp p e below _ T5 (mkF m 59 #[.val (.ref px1), .val (.ref px2), .val (.int pi1), .val (.int (9 : Int32))] [(.int pi1)])
  refine own_step (fun _ k => XS.iconst X5.here hx rfl (hb hby d1_59) k) ?_
  show own_Wp p e below _ T5 (mkF m 60 #[.val (.ref px1), .val (.ref px2), .val (.int pi1), .val (.int (9 : Int32))] [(.int (1 : Int32)), (.int pi1)])
  refine own_step (fun _ k => XS.icmpNo X5.here hx rfl (hb hby d1_60) rfl (flt H0).1 k) ?_
  show own_Wp p e below _ T5 (mkF m 63 #[.val (.ref px1), .val (.ref px2), .val (.int pi1), .val (.int (9 : Int32))] [])
  refine own_step (fun _ k => XS.iloadN X5.here hx rfl (hb hby d1_63) rfl k) ?_
  show own_Wp p e below _ T5 (mkF m 64 #[.val (.ref px1), .val (.ref px2), .val (.int pi1), .val (.int (9 : Int32))] [(.int pi1)])
  refine own_step (fun _ k => XS.iloadN X5.here hx rfl (hb hby d1_64) rfl k) ?_
  show own_Wp p e below _ T5 (mkF m 65 #[.val (.ref px1), .val (.ref px2), .val (.int pi1), .val (.int (9 : Int32))] [(.int (9 : Int32)), (.int pi1)])
  refine own_step (fun _ k => XS.icmpYes X5.here hx rfl (pc0 := 65) (pc' := 97) rfl (hb hby d1_65) rfl (flt H1).2.2.2 (by decide) (by decide) k) ?_
  show own_Wp p e below _ T5 (mkF m 97 #[.val (.ref px1), .val (.ref px2), .val (.int pi1), .val (.int (9 : Int32))] [])
  obtain ⟨T6, h6, X6, e6, E6, A6, D6, -, st6⟩ := newO X5 hx hZ hown (hw _ (List.mem_of_getElem? (i := 26) rfl)) (hw _ (List.mem_of_getElem? (i := 27) rfl)) (hw _ (List.mem_of_getElem? (i := 28) rfl)) e5 (g := (mkF m 97 #[.val (.ref px1), .val (.ref px2), .val (.int pi1), .val (.int (9 : Int32))] [])) rfl (hb hby d1_97) (by decide) (by decide)
  obtain ⟨b6, z6⟩ : ∃ z, z = h0.size := ⟨_, rfl⟩
  rw [← z6] at A6 D6 st6
  refine own_step st6 ?_
  have g6 : n0 ≤ b6 := Nat.le_trans (O0.1 ▸ O0.2.1) (Nat.le_of_eq z6.symm)
  have ne6_0 : (w2_h_metertomonth_ledger_BillingPeriod_Unit Z) ≠ b6 := Nat.ne_of_lt (Nat.lt_of_lt_of_le V3x.lt (Nat.le_of_eq z6.symm))
  have y6 : h0.size ≤ b6 := Nat.le_trans (Nat.le_refl _) (Nat.le_of_eq z6.symm)
  have O6 := O0.ext E6
  have K6 : Keep h0 h6 [] := (Keep.refl h0 []).ext E6
  have F6_53 : Fld Z h6 b6 "com/example/meter_to_month/metertomonth/ledger/BillingPeriod" "unit" "Lcom/example/meter_to_month/metertomonth/ledger/BillingPeriod$Unit;" .null := D6 (Or.inr (hw _ (List.mem_of_getElem? (i := 53) rfl))) (ty := (.object "com/example/meter_to_month/metertomonth/ledger/BillingPeriod$Unit")) (by decide)
  have F6_55 : Fld Z h6 b6 "com/example/meter_to_month/metertomonth/ledger/BillingPeriod" "count" "I" (.int (0 : Int32)) := D6 (Or.inr (hw _ (List.mem_of_getElem? (i := 55) rfl))) (ty := .int) (by decide)
  show own_Wp p e below _ T6 (mkF m 100 #[.val (.ref px1), .val (.ref px2), .val (.int pi1), .val (.int (9 : Int32))] [(.ref b6)])
  refine own_step (fun _ k => XS.dup X6.here hx rfl (hb hby d1_100) rfl rfl k) ?_
  show own_Wp p e below _ T6 (mkF m 101 #[.val (.ref px1), .val (.ref px2), .val (.int pi1), .val (.int (9 : Int32))] [(.ref b6), (.ref b6)])
  refine own_step (fun _ k => XS.aloadN X6.here hx rfl (hb hby d1_101) rfl rfl k) ?_
  show own_Wp p e below _ T6 (mkF m 102 #[.val (.ref px1), .val (.ref px2), .val (.int pi1), .val (.int (9 : Int32))] [(.ref px2), (.ref b6), (.ref b6)])
  refine own_step (fun _ k => XS.iloadN X6.here hx rfl (hb hby d1_102) rfl k) ?_
  show own_Wp p e below _ T6 (mkF m 103 #[.val (.ref px1), .val (.ref px2), .val (.int pi1), .val (.int (9 : Int32))] [(.int pi1), (.ref px2), (.ref b6), (.ref b6)])
  obtain ⟨_, T7, L7, X7, hS7, hZ7, hown7, hQ7, st7⟩ := own_callNW X6 hx hZ hS0 (Nat.zero_le _) rfl hown (hw _ (List.mem_of_getElem? (i := 29) rfl)) (hw _ (List.mem_of_getElem? (i := 30) rfl)) (hw _ (List.mem_of_getElem? (i := 28) rfl)) (hw _ (List.mem_of_getElem? (i := 31) rfl)) (by decide) (rm3_3 l Z a0 hw hA hF [] b6 px2 pi1 h6 n0 O6 A6 F6_53 F6_55 g6 H0) (b := b6) (W := 1) (by decide) (by decide) [(.ref px2), (.int pi1)] rfl (lenOf pd7 rfl) (Ls := #[.val (.ref px1), .val (.ref px2), .val (.int pi1), .val (.int (9 : Int32))]) (by rw [hml]; rfl) (rest := [(.ref b6)]) (Nat.le_of_eq rfl) (hb hby d1_103) e6 (by decide) (by decide)
  refine st7 _ ?_
  obtain ⟨rfl, N7q, K7q, F7_0, F7_1, F7_2⟩ := hQ7
  have N7 := Fr.app N2 N7q
  have O7 := O6.keep K7q (allS g6 all0)
  have K7 : Keep h0 T7.heap [] := Keep.trans K6 K7q (allS (Or.inr y6) all0)
  show own_Wp p e below _ T7 (mkF m 106 #[.val (.ref px1), .val (.ref px2), .val (.int pi1), .val (.int (9 : Int32))] [(.ref b6)])
  exact own_retAW X7 hS7 (Nat.le_refl _) hx hret rfl rfl hlk (hb hby d1_106) (by decide) (by decide) (⟨b6, rfl, N7, K7, y6, F7_0, F7_1, F7_2⟩)

set_option maxRecDepth 65536 in
set_option maxHeartbeats 40000000 in
theorem rm0 (l : Launch) (Z : State) (a0 : Array Value) (hw : ∀ d ∈ tables_1, d.before a0 Z = true) (hA : ∀ d ∈ own_flat narrow_1, d.value a0 Z none Z [] = some true) (hF : Fit Z) (ws : List Jvm.Cond) (p0 : Int32) (p1 : Int32) (p2 : Int32) (h0 : Heap) (n0 : Nat) (O0 : Old Z n0 h0) :
    own_MetW l Z x (Jvm.Cond.code x code maxLocals ret) ws room_1 #[(.int p0), (.int p1), (.int p2)] h0 (fun v h L => v = some (.int (1 : Int32)) ∧ Fr n0 L) := by
  refine own_metW (own := "com/example/meter_to_month/metertomonth/ledger/ResourceKindPeriodPinLaw") (plainFor_of_name pn11) rfl ?_
  intro p e s m below meth c s₁ hx hby hml hown hnm hret hlk hZ e0 X0 hS0
  refine own_cast (g' := (mkF m 0 #[.val (.int p0), .val (.int p1), .val (.int p2), .unset, .unset, .unset, .unset, .unset, .unset, .unset] [])) (by first | (simp [entryFrame, mkF, argsToLocals, Value.category, maxLocals]; done) | rfl) ?_
  show own_Wp p e below _ s₁ (mkF m 0 #[.val (.int p0), .val (.int p1), .val (.int p2), .unset, .unset, .unset, .unset, .unset, .unset, .unset] [])
  refine own_step (fun _ k => XS.iloadN X0.here hx rfl (hb hby at_0) rfl k) ?_
  show own_Wp p e below _ s₁ (mkF m 1 #[.val (.int p0), .val (.int p1), .val (.int p2), .unset, .unset, .unset, .unset, .unset, .unset, .unset] [(.int p0)])
  refine own_step (fun _ k => XS.iconst X0.here hx rfl (hb hby at_1) k) ?_
  show own_Wp p e below _ s₁ (mkF m 2 #[.val (.int p0), .val (.int p1), .val (.int p2), .unset, .unset, .unset, .unset, .unset, .unset, .unset] [(.int (3 : Int32)), (.int p0)])
  refine own_step (fun _ k => XS.iand X0.here hx rfl (hb hby at_2) rfl k) ?_
  show own_Wp p e below _ s₁ (mkF m 3 #[.val (.int p0), .val (.int p1), .val (.int p2), .unset, .unset, .unset, .unset, .unset, .unset, .unset] [(.int (p0 &&& (3 : Int32)))])
  rcases own_and3 p0 with hm1 | hm1 | hm1 | hm1
  · skip
    refine own_cast (g' := (mkF m 3 #[.val (.int p0), .val (.int p1), .val (.int p2), .unset, .unset, .unset, .unset, .unset, .unset, .unset] [(.int (0 : Int32))])) (by rw [hm1]) ?_
    show own_Wp p e below _ s₁ (mkF m 3 #[.val (.int p0), .val (.int p1), .val (.int p2), .unset, .unset, .unset, .unset, .unset, .unset, .unset] [(.int (0 : Int32))])
    refine own_step (fun _ k => XS.istoreN X0.here hx rfl (hb hby at_3) rfl (l' := #[.val (.int p0), .val (.int p1), .val (.int p2), .val (.int (0 : Int32)), .unset, .unset, .unset, .unset, .unset, .unset]) rfl k) ?_
    show own_Wp p e below _ s₁ (mkF m 4 #[.val (.int p0), .val (.int p1), .val (.int p2), .val (.int (0 : Int32)), .unset, .unset, .unset, .unset, .unset, .unset] [])
    refine own_step (fun _ k => XS.iloadN X0.here hx rfl (hb hby at_4) rfl k) ?_
    show own_Wp p e below _ s₁ (mkF m 5 #[.val (.int p0), .val (.int p1), .val (.int p2), .val (.int (0 : Int32)), .unset, .unset, .unset, .unset, .unset, .unset] [(.int (0 : Int32))])
    refine own_step (fun _ k => XS.ifNo X0.here hx rfl (hb hby at_5) rfl (by decide) k) ?_
    show own_Wp p e below _ s₁ (mkF m 8 #[.val (.int p0), .val (.int p1), .val (.int p2), .val (.int (0 : Int32)), .unset, .unset, .unset, .unset, .unset, .unset] [])
    obtain ⟨T2, X2, e2, st2⟩ := getS2 X0 hx hZ hown (host := "") (Or.inl (hw _ (List.mem_of_getElem? (i := 0) rfl))) Via.refl e0 ((st_w0_SEARCH_CLUSTER hw hA hF).ext O0.2) (g := (mkF m 8 #[.val (.int p0), .val (.int p1), .val (.int p2), .val (.int (0 : Int32)), .unset, .unset, .unset, .unset, .unset, .unset] [])) rfl (hb hby at_8)
    refine own_step st2 ?_
    show own_Wp p e below _ T2 (mkF m 11 #[.val (.int p0), .val (.int p1), .val (.int p2), .val (.int (0 : Int32)), .unset, .unset, .unset, .unset, .unset, .unset] [(.ref (w0_SEARCH_CLUSTER Z))])
    refine own_step (fun _ k => XS.astore X2.here hx rfl (hb hby at_11) rfl rfl (l' := #[.val (.int p0), .val (.int p1), .val (.int p2), .val (.int (0 : Int32)), .val (.ref (w0_SEARCH_CLUSTER Z)), .unset, .unset, .unset, .unset, .unset]) rfl k) ?_
    show own_Wp p e below _ T2 (mkF m 13 #[.val (.int p0), .val (.int p1), .val (.int p2), .val (.int (0 : Int32)), .val (.ref (w0_SEARCH_CLUSTER Z)), .unset, .unset, .unset, .unset, .unset] [])
    refine own_step (fun _ k => XS.goto X2.here hx rfl (pc0 := 13) (pc' := 47) rfl (hb hby at_13) (by decide) (by decide) k) ?_
    show own_Wp p e below _ T2 (mkF m 47 #[.val (.int p0), .val (.int p1), .val (.int p2), .val (.int (0 : Int32)), .val (.ref (w0_SEARCH_CLUSTER Z)), .unset, .unset, .unset, .unset, .unset] [])
    refine own_step (fun _ k => XS.iloadN X2.here hx rfl (hb hby at_47) rfl k) ?_
    show own_Wp p e below _ T2 (mkF m 48 #[.val (.int p0), .val (.int p1), .val (.int p2), .val (.int (0 : Int32)), .val (.ref (w0_SEARCH_CLUSTER Z)), .unset, .unset, .unset, .unset, .unset] [(.int p1)])
    refine own_step (fun _ k => XS.iconst X2.here hx rfl (hb hby at_48) k) ?_
    show own_Wp p e below _ T2 (mkF m 49 #[.val (.int p0), .val (.int p1), .val (.int p2), .val (.int (0 : Int32)), .val (.ref (w0_SEARCH_CLUSTER Z)), .unset, .unset, .unset, .unset, .unset] [(.int (1 : Int32)), (.int p1)])
    refine own_step (fun _ k => XS.iand X2.here hx rfl (hb hby at_49) rfl k) ?_
    show own_Wp p e below _ T2 (mkF m 50 #[.val (.int p0), .val (.int p1), .val (.int p2), .val (.int (0 : Int32)), .val (.ref (w0_SEARCH_CLUSTER Z)), .unset, .unset, .unset, .unset, .unset] [(.int (p1 &&& (1 : Int32)))])
    by_cases hc3 : (p1 &&& (1 : Int32)) = (0 : Int32)
    · skip
      refine own_step (fun _ k => XS.ifYes X2.here hx rfl (pc0 := 50) (pc' := 57) rfl (hb hby at_50) rfl ((if0 _ _).trans (teq hc3).1) (by decide) (by decide) k) ?_
      show own_Wp p e below _ T2 (mkF m 57 #[.val (.int p0), .val (.int p1), .val (.int p2), .val (.int (0 : Int32)), .val (.ref (w0_SEARCH_CLUSTER Z)), .unset, .unset, .unset, .unset, .unset] [])
      refine own_step (fun _ k => XS.iconst X2.here hx rfl (hb hby at_57) k) ?_
      show own_Wp p e below _ T2 (mkF m 58 #[.val (.int p0), .val (.int p1), .val (.int p2), .val (.int (0 : Int32)), .val (.ref (w0_SEARCH_CLUSTER Z)), .unset, .unset, .unset, .unset, .unset] [(.int (0 : Int32))])
      refine own_step (fun _ k => XS.istore X2.here hx rfl (hb hby at_58) rfl (l' := #[.val (.int p0), .val (.int p1), .val (.int p2), .val (.int (0 : Int32)), .val (.ref (w0_SEARCH_CLUSTER Z)), .val (.int (0 : Int32)), .unset, .unset, .unset, .unset]) rfl k) ?_
      show own_Wp p e below _ T2 (mkF m 60 #[.val (.int p0), .val (.int p1), .val (.int p2), .val (.int (0 : Int32)), .val (.ref (w0_SEARCH_CLUSTER Z)), .val (.int (0 : Int32)), .unset, .unset, .unset, .unset] [])
      refine own_step (fun _ k => XS.iload X2.here hx rfl (hb hby at_60) rfl k) ?_
      show own_Wp p e below _ T2 (mkF m 62 #[.val (.int p0), .val (.int p1), .val (.int p2), .val (.int (0 : Int32)), .val (.ref (w0_SEARCH_CLUSTER Z)), .val (.int (0 : Int32)), .unset, .unset, .unset, .unset] [(.int (0 : Int32))])
      refine own_step (fun _ k => XS.ifYes X2.here hx rfl (pc0 := 62) (pc' := 71) rfl (hb hby at_62) rfl (by decide) (by decide) (by decide) k) ?_
      show own_Wp p e below _ T2 (mkF m 71 #[.val (.int p0), .val (.int p1), .val (.int p2), .val (.int (0 : Int32)), .val (.ref (w0_SEARCH_CLUSTER Z)), .val (.int (0 : Int32)), .unset, .unset, .unset, .unset] [])
      obtain ⟨T4, X4, e4, st4⟩ := getS2 X2 hx hZ hown (host := "") (Or.inl (hw _ (List.mem_of_getElem? (i := 68) rfl))) Via.refl e2 ((st_w4_MONTH hw hA hF).ext O0.2) (g := (mkF m 71 #[.val (.int p0), .val (.int p1), .val (.int p2), .val (.int (0 : Int32)), .val (.ref (w0_SEARCH_CLUSTER Z)), .val (.int (0 : Int32)), .unset, .unset, .unset, .unset] [])) rfl (hb hby at_71)
      refine own_step st4 ?_
      show own_Wp p e below _ T4 (mkF m 74 #[.val (.int p0), .val (.int p1), .val (.int p2), .val (.int (0 : Int32)), .val (.ref (w0_SEARCH_CLUSTER Z)), .val (.int (0 : Int32)), .unset, .unset, .unset, .unset] [(.ref (w4_MONTH Z))])
      refine own_step (fun _ k => XS.astore X4.here hx rfl (hb hby at_74) rfl rfl (l' := #[.val (.int p0), .val (.int p1), .val (.int p2), .val (.int (0 : Int32)), .val (.ref (w0_SEARCH_CLUSTER Z)), .val (.int (0 : Int32)), .val (.ref (w4_MONTH Z)), .unset, .unset, .unset]) rfl k) ?_
      show own_Wp p e below _ T4 (mkF m 76 #[.val (.int p0), .val (.int p1), .val (.int p2), .val (.int (0 : Int32)), .val (.ref (w0_SEARCH_CLUSTER Z)), .val (.int (0 : Int32)), .val (.ref (w4_MONTH Z)), .unset, .unset, .unset] [])
      refine own_step (fun _ k => XS.iload X4.here hx rfl (hb hby at_76) rfl k) ?_
      show own_Wp p e below _ T4 (mkF m 78 #[.val (.int p0), .val (.int p1), .val (.int p2), .val (.int (0 : Int32)), .val (.ref (w0_SEARCH_CLUSTER Z)), .val (.int (0 : Int32)), .val (.ref (w4_MONTH Z)), .unset, .unset, .unset] [(.int (0 : Int32))])
      refine own_step (fun _ k => XS.ifYes X4.here hx rfl (pc0 := 78) (pc' := 97) rfl (hb hby at_78) rfl (by decide) (by decide) (by decide) k) ?_
      show own_Wp p e below _ T4 (mkF m 97 #[.val (.int p0), .val (.int p1), .val (.int p2), .val (.int (0 : Int32)), .val (.ref (w0_SEARCH_CLUSTER Z)), .val (.int (0 : Int32)), .val (.ref (w4_MONTH Z)), .unset, .unset, .unset] [])
      refine own_step (fun _ k => XS.bipush X4.here hx rfl (hb hby at_97) k) ?_
      show own_Wp p e below _ T4 (mkF m 99 #[.val (.int p0), .val (.int p1), .val (.int p2), .val (.int (0 : Int32)), .val (.ref (w0_SEARCH_CLUSTER Z)), .val (.int (0 : Int32)), .val (.ref (w4_MONTH Z)), .unset, .unset, .unset] [(.int (9 : Int32))])
      refine own_step (fun _ k => XS.istore X4.here hx rfl (hb hby at_99) rfl (l' := #[.val (.int p0), .val (.int p1), .val (.int p2), .val (.int (0 : Int32)), .val (.ref (w0_SEARCH_CLUSTER Z)), .val (.int (0 : Int32)), .val (.ref (w4_MONTH Z)), .val (.int (9 : Int32)), .unset, .unset]) rfl k) ?_
      show own_Wp p e below _ T4 (mkF m 101 #[.val (.int p0), .val (.int p1), .val (.int p2), .val (.int (0 : Int32)), .val (.ref (w0_SEARCH_CLUSTER Z)), .val (.int (0 : Int32)), .val (.ref (w4_MONTH Z)), .val (.int (9 : Int32)), .unset, .unset] [])
      refine own_step (fun _ k => XS.iconst X4.here hx rfl (hb hby at_101) k) ?_
      show own_Wp p e below _ T4 (mkF m 102 #[.val (.int p0), .val (.int p1), .val (.int p2), .val (.int (0 : Int32)), .val (.ref (w0_SEARCH_CLUSTER Z)), .val (.int (0 : Int32)), .val (.ref (w4_MONTH Z)), .val (.int (9 : Int32)), .unset, .unset] [(.int (1 : Int32))])
      refine own_step (fun _ k => XS.iloadN X4.here hx rfl (hb hby at_102) rfl k) ?_
      show own_Wp p e below _ T4 (mkF m 103 #[.val (.int p0), .val (.int p1), .val (.int p2), .val (.int (0 : Int32)), .val (.ref (w0_SEARCH_CLUSTER Z)), .val (.int (0 : Int32)), .val (.ref (w4_MONTH Z)), .val (.int (9 : Int32)), .unset, .unset] [(.int p2), (.int (1 : Int32))])
      refine own_step (X4.ldcInt hx hown (mvT hZ (hw _ (List.mem_of_getElem? (i := 6) rfl))) (g := (mkF m 103 #[.val (.int p0), .val (.int p1), .val (.int p2), .val (.int (0 : Int32)), .val (.ref (w0_SEARCH_CLUSTER Z)), .val (.int (0 : Int32)), .val (.ref (w4_MONTH Z)), .val (.int (9 : Int32)), .unset, .unset] [(.int p2), (.int (1 : Int32))])) rfl (hb hby at_103)) ?_
      show own_Wp p e below _ T4 (mkF m 105 #[.val (.int p0), .val (.int p1), .val (.int p2), .val (.int (0 : Int32)), .val (.ref (w0_SEARCH_CLUSTER Z)), .val (.int (0 : Int32)), .val (.ref (w4_MONTH Z)), .val (.int (9 : Int32)), .unset, .unset] [(.int (2147483647 : Int32)), (.int p2), (.int (1 : Int32))])
      refine own_step (fun _ k => XS.iand X4.here hx rfl (hb hby at_105) rfl k) ?_
      show own_Wp p e below _ T4 (mkF m 106 #[.val (.int p0), .val (.int p1), .val (.int p2), .val (.int (0 : Int32)), .val (.ref (w0_SEARCH_CLUSTER Z)), .val (.int (0 : Int32)), .val (.ref (w4_MONTH Z)), .val (.int (9 : Int32)), .unset, .unset] [(.int (p2 &&& (2147483647 : Int32))), (.int (1 : Int32))])
      refine own_step (fun _ k => XS.iload X4.here hx rfl (hb hby at_106) rfl k) ?_
      show own_Wp p e below _ T4 (mkF m 108 #[.val (.int p0), .val (.int p1), .val (.int p2), .val (.int (0 : Int32)), .val (.ref (w0_SEARCH_CLUSTER Z)), .val (.int (0 : Int32)), .val (.ref (w4_MONTH Z)), .val (.int (9 : Int32)), .unset, .unset] [(.int (9 : Int32)), (.int (p2 &&& (2147483647 : Int32))), (.int (1 : Int32))])
      refine own_step (fun _ k => iremM (g := (mkF m 108 #[.val (.int p0), .val (.int p1), .val (.int p2), .val (.int (0 : Int32)), .val (.ref (w0_SEARCH_CLUSTER Z)), .val (.int (0 : Int32)), .val (.ref (w4_MONTH Z)), .val (.int (9 : Int32)), .unset, .unset] [(.int (9 : Int32)), (.int (p2 &&& (2147483647 : Int32))), (.int (1 : Int32))])) X4 hx rfl (hb hby at_108) rfl (by decide) k) ?_
      show own_Wp p e below _ T4 (mkF m 109 #[.val (.int p0), .val (.int p1), .val (.int p2), .val (.int (0 : Int32)), .val (.ref (w0_SEARCH_CLUSTER Z)), .val (.int (0 : Int32)), .val (.ref (w4_MONTH Z)), .val (.int (9 : Int32)), .unset, .unset] [(.int ((p2 &&& (2147483647 : Int32)) % (9 : Int32))), (.int (1 : Int32))])
      refine own_step (fun _ k => XS.iadd X4.here hx rfl (hb hby at_109) rfl k) ?_
      show own_Wp p e below _ T4 (mkF m 110 #[.val (.int p0), .val (.int p1), .val (.int p2), .val (.int (0 : Int32)), .val (.ref (w0_SEARCH_CLUSTER Z)), .val (.int (0 : Int32)), .val (.ref (w4_MONTH Z)), .val (.int (9 : Int32)), .unset, .unset] [(.int ((1 : Int32) + ((p2 &&& (2147483647 : Int32)) % (9 : Int32))))])
      have hr1 : ¬ (((1 : Int32) + ((p2 &&& (2147483647 : Int32)) % (9 : Int32))) < (1 : Int32)) := own_r1 p2 (n := (9 : Int32)) (by decide) (by decide)
      have hr2 : ¬ ((9 : Int32) < ((1 : Int32) + ((p2 &&& (2147483647 : Int32)) % (9 : Int32)))) := own_r2 p2 (n := (9 : Int32)) (by decide) (by decide)
      refine own_step (fun _ k => XS.istore X4.here hx rfl (hb hby at_110) rfl (l' := #[.val (.int p0), .val (.int p1), .val (.int p2), .val (.int (0 : Int32)), .val (.ref (w0_SEARCH_CLUSTER Z)), .val (.int (0 : Int32)), .val (.ref (w4_MONTH Z)), .val (.int (9 : Int32)), .val (.int ((1 : Int32) + ((p2 &&& (2147483647 : Int32)) % (9 : Int32)))), .unset]) rfl k) ?_
      show own_Wp p e below _ T4 (mkF m 112 #[.val (.int p0), .val (.int p1), .val (.int p2), .val (.int (0 : Int32)), .val (.ref (w0_SEARCH_CLUSTER Z)), .val (.int (0 : Int32)), .val (.ref (w4_MONTH Z)), .val (.int (9 : Int32)), .val (.int ((1 : Int32) + ((p2 &&& (2147483647 : Int32)) % (9 : Int32)))), .unset] [])
      refine own_step (fun _ k => XS.aload X4.here hx rfl (hb hby at_112) rfl rfl k) ?_
      show own_Wp p e below _ T4 (mkF m 114 #[.val (.int p0), .val (.int p1), .val (.int p2), .val (.int (0 : Int32)), .val (.ref (w0_SEARCH_CLUSTER Z)), .val (.int (0 : Int32)), .val (.ref (w4_MONTH Z)), .val (.int (9 : Int32)), .val (.int ((1 : Int32) + ((p2 &&& (2147483647 : Int32)) % (9 : Int32)))), .unset] [(.ref (w0_SEARCH_CLUSTER Z))])
      refine own_step (fun _ k => XS.aload X4.here hx rfl (hb hby at_114) rfl rfl k) ?_
      show own_Wp p e below _ T4 (mkF m 116 #[.val (.int p0), .val (.int p1), .val (.int p2), .val (.int (0 : Int32)), .val (.ref (w0_SEARCH_CLUSTER Z)), .val (.int (0 : Int32)), .val (.ref (w4_MONTH Z)), .val (.int (9 : Int32)), .val (.int ((1 : Int32) + ((p2 &&& (2147483647 : Int32)) % (9 : Int32)))), .unset] [(.ref (w4_MONTH Z)), (.ref (w0_SEARCH_CLUSTER Z))])
      refine own_step (fun _ k => XS.iload X4.here hx rfl (hb hby at_116) rfl k) ?_
      show own_Wp p e below _ T4 (mkF m 118 #[.val (.int p0), .val (.int p1), .val (.int p2), .val (.int (0 : Int32)), .val (.ref (w0_SEARCH_CLUSTER Z)), .val (.int (0 : Int32)), .val (.ref (w4_MONTH Z)), .val (.int (9 : Int32)), .val (.int ((1 : Int32) + ((p2 &&& (2147483647 : Int32)) % (9 : Int32)))), .unset] [(.int ((1 : Int32) + ((p2 &&& (2147483647 : Int32)) % (9 : Int32)))), (.ref (w4_MONTH Z)), (.ref (w0_SEARCH_CLUSTER Z))])
      obtain ⟨_, T5, L5, X5, hS5, hZ5, hown5, hQ5, st5⟩ := own_callVW X4 hx hZ hS0 (Nat.zero_le _) hown (hw _ (List.mem_of_getElem? (i := 7) rfl)) (hw _ (List.mem_of_getElem? (i := 8) rfl)) (notFace_of_selects (args := #[]) (mvT hZ (hw _ (List.mem_of_getElem? (i := 10) rfl)))) (hw _ (List.mem_of_getElem? (i := 10) rfl)) (hw _ (List.mem_of_getElem? (i := 9) rfl)) (hw _ (List.mem_of_getElem? (i := 1) rfl)) (hw _ (List.mem_of_getElem? (i := 11) rfl)) (by decide) ((ex_w0_SEARCH_CLUSTER hw hA hF).ext O0.2) (rm1_4 l Z a0 hw hA hF [] (w0_SEARCH_CLUSTER Z) (w4_MONTH Z) ((1 : Int32) + ((p2 &&& (2147483647 : Int32)) % (9 : Int32))) h0 n0 O0 hr1 hr2 (fl2 hw hA hF) (ex_w4_MONTH hw hA hF) (fl4 hw hA hF)) (W := 0) (by decide) (by decide) [(.ref (w4_MONTH Z)), (.int ((1 : Int32) + ((p2 &&& (2147483647 : Int32)) % (9 : Int32))))] rfl (lenOf pd9 rfl) (Ls := #[.val (.int p0), .val (.int p1), .val (.int p2), .val (.int (0 : Int32)), .val (.ref (w0_SEARCH_CLUSTER Z)), .val (.int (0 : Int32)), .val (.ref (w4_MONTH Z)), .val (.int (9 : Int32)), .val (.int ((1 : Int32) + ((p2 &&& (2147483647 : Int32)) % (9 : Int32)))), .unset]) (by rw [hml]; rfl) (rest := []) (Nat.le_of_eq rfl) (hb hby at_118) e4 (by decide) (by decide)
      refine st5 _ ?_
      obtain ⟨b6, rfl, N5q, K5q, y5_0, F5_0, F5_1, F5_2⟩ := hQ5
      have N5 := Fr.app (Fr.nil n0) N5q
      have g5_0 : n0 ≤ b6 := Nat.le_trans (O0.1 ▸ O0.2.1) y5_0
      have u5_0 : h0.size ≤ b6 := Nat.le_trans (Nat.le_refl _) y5_0
      have O5 := O0.keep K5q all0
      have K5 : Keep h0 T5.heap [] := Keep.trans (Keep.refl h0 []) K5q all0
      show own_Wp p e below _ T5 (mkF m 121 #[.val (.int p0), .val (.int p1), .val (.int p2), .val (.int (0 : Int32)), .val (.ref (w0_SEARCH_CLUSTER Z)), .val (.int (0 : Int32)), .val (.ref (w4_MONTH Z)), .val (.int (9 : Int32)), .val (.int ((1 : Int32) + ((p2 &&& (2147483647 : Int32)) % (9 : Int32)))), .unset] [(.ref b6)])
      refine own_step (fun _ k => XS.astore X5.here hx rfl (hb hby at_121) rfl rfl (l' := #[.val (.int p0), .val (.int p1), .val (.int p2), .val (.int (0 : Int32)), .val (.ref (w0_SEARCH_CLUSTER Z)), .val (.int (0 : Int32)), .val (.ref (w4_MONTH Z)), .val (.int (9 : Int32)), .val (.int ((1 : Int32) + ((p2 &&& (2147483647 : Int32)) % (9 : Int32)))), .val (.ref b6)]) rfl k) ?_
      show own_Wp p e below _ T5 (mkF m 123 #[.val (.int p0), .val (.int p1), .val (.int p2), .val (.int (0 : Int32)), .val (.ref (w0_SEARCH_CLUSTER Z)), .val (.int (0 : Int32)), .val (.ref (w4_MONTH Z)), .val (.int (9 : Int32)), .val (.int ((1 : Int32) + ((p2 &&& (2147483647 : Int32)) % (9 : Int32)))), .val (.ref b6)] [])
      refine own_step (fun _ k => XS.aload X5.here hx rfl (hb hby at_123) rfl rfl k) ?_
      show own_Wp p e below _ T5 (mkF m 125 #[.val (.int p0), .val (.int p1), .val (.int p2), .val (.int (0 : Int32)), .val (.ref (w0_SEARCH_CLUSTER Z)), .val (.int (0 : Int32)), .val (.ref (w4_MONTH Z)), .val (.int (9 : Int32)), .val (.int ((1 : Int32) + ((p2 &&& (2147483647 : Int32)) % (9 : Int32)))), .val (.ref b6)] [(.ref b6)])
      refine own_step (fun _ k => XS.ifnullNo X5.here hx rfl (hb hby at_125) rfl k) ?_
      show own_Wp p e below _ T5 (mkF m 128 #[.val (.int p0), .val (.int p1), .val (.int p2), .val (.int (0 : Int32)), .val (.ref (w0_SEARCH_CLUSTER Z)), .val (.int (0 : Int32)), .val (.ref (w4_MONTH Z)), .val (.int (9 : Int32)), .val (.int ((1 : Int32) + ((p2 &&& (2147483647 : Int32)) % (9 : Int32)))), .val (.ref b6)] [])
      refine own_step (fun _ k => XS.aload X5.here hx rfl (hb hby at_128) rfl rfl k) ?_
      show own_Wp p e below _ T5 (mkF m 130 #[.val (.int p0), .val (.int p1), .val (.int p2), .val (.int (0 : Int32)), .val (.ref (w0_SEARCH_CLUSTER Z)), .val (.int (0 : Int32)), .val (.ref (w4_MONTH Z)), .val (.int (9 : Int32)), .val (.int ((1 : Int32) + ((p2 &&& (2147483647 : Int32)) % (9 : Int32)))), .val (.ref b6)] [(.ref b6)])
      obtain ⟨_, T7, L7, X7, hQ7, st7⟩ := own_callV X5 hx hZ5 hown5 (hw _ (List.mem_of_getElem? (i := 56) rfl)) (hw _ (List.mem_of_getElem? (i := 57) rfl)) (notFace_of_selects (args := #[]) (mvT hZ5 (hw _ (List.mem_of_getElem? (i := 59) rfl)))) (hw _ (List.mem_of_getElem? (i := 59) rfl)) (hw _ (List.mem_of_getElem? (i := 58) rfl)) (hw _ (List.mem_of_getElem? (i := 28) rfl)) (hw _ (List.mem_of_getElem? (i := 60) rfl)) (by decide) F5_0 (rm7_5 l Z a0 hw hA hF [] b6 T5.heap n0 O5 F5_1) (W := 0) (by decide) (by decide) [] rfl (lenOf pd10 rfl) (Ls := #[.val (.int p0), .val (.int p1), .val (.int p2), .val (.int (0 : Int32)), .val (.ref (w0_SEARCH_CLUSTER Z)), .val (.int (0 : Int32)), .val (.ref (w4_MONTH Z)), .val (.int (9 : Int32)), .val (.int ((1 : Int32) + ((p2 &&& (2147483647 : Int32)) % (9 : Int32)))), .val (.ref b6)]) (by rw [hml]; rfl) (rest := []) (Nat.le_of_eq rfl) (hb hby at_130) rfl (by decide) (by decide)
      refine st7 _ ?_
      obtain ⟨rfl, N7q, e7⟩ := hQ7
      have N7 := Fr.app N5 N7q
      show own_Wp p e below _ T7 (mkF m 133 #[.val (.int p0), .val (.int p1), .val (.int p2), .val (.int (0 : Int32)), .val (.ref (w0_SEARCH_CLUSTER Z)), .val (.int (0 : Int32)), .val (.ref (w4_MONTH Z)), .val (.int (9 : Int32)), .val (.int ((1 : Int32) + ((p2 &&& (2147483647 : Int32)) % (9 : Int32)))), .val (.ref b6)] [(.ref (w4_MONTH Z))])
      refine own_step (fun _ k => XS.aload X7.here hx rfl (hb hby at_133) rfl rfl k) ?_
      show own_Wp p e below _ T7 (mkF m 135 #[.val (.int p0), .val (.int p1), .val (.int p2), .val (.int (0 : Int32)), .val (.ref (w0_SEARCH_CLUSTER Z)), .val (.int (0 : Int32)), .val (.ref (w4_MONTH Z)), .val (.int (9 : Int32)), .val (.int ((1 : Int32) + ((p2 &&& (2147483647 : Int32)) % (9 : Int32)))), .val (.ref b6)] [(.ref (w4_MONTH Z)), (.ref (w4_MONTH Z))])
      refine own_step (fun _ k => Jvm.RoadKit.acmp (g := (mkF m 135 #[.val (.int p0), .val (.int p1), .val (.int p2), .val (.int (0 : Int32)), .val (.ref (w0_SEARCH_CLUSTER Z)), .val (.int (0 : Int32)), .val (.ref (w4_MONTH Z)), .val (.int (9 : Int32)), .val (.int ((1 : Int32) + ((p2 &&& (2147483647 : Int32)) % (9 : Int32)))), .val (.ref b6)] [(.ref (w4_MONTH Z)), (.ref (w4_MONTH Z))])) X7 hx rfl rfl rfl (pc0 := 135) (pc' := 138) (same := true) rfl (hb hby at_135) rfl (decide_eq_true rfl) (by decide) (by decide) k) ?_
      show own_Wp p e below _ T7 (mkF m 138 #[.val (.int p0), .val (.int p1), .val (.int p2), .val (.int (0 : Int32)), .val (.ref (w0_SEARCH_CLUSTER Z)), .val (.int (0 : Int32)), .val (.ref (w4_MONTH Z)), .val (.int (9 : Int32)), .val (.int ((1 : Int32) + ((p2 &&& (2147483647 : Int32)) % (9 : Int32)))), .val (.ref b6)] [])
      refine own_step (fun _ k => XS.aload X7.here hx rfl (hb hby at_138) rfl rfl k) ?_
      show own_Wp p e below _ T7 (mkF m 140 #[.val (.int p0), .val (.int p1), .val (.int p2), .val (.int (0 : Int32)), .val (.ref (w0_SEARCH_CLUSTER Z)), .val (.int (0 : Int32)), .val (.ref (w4_MONTH Z)), .val (.int (9 : Int32)), .val (.int ((1 : Int32) + ((p2 &&& (2147483647 : Int32)) % (9 : Int32)))), .val (.ref b6)] [(.ref b6)])
      obtain ⟨_, T8, L8, X8, hQ8, st8⟩ := own_callV X7 hx hZ5 hown5 (hw _ (List.mem_of_getElem? (i := 61) rfl)) (hw _ (List.mem_of_getElem? (i := 62) rfl)) (notFace_of_selects (args := #[]) (mvT hZ5 (hw _ (List.mem_of_getElem? (i := 64) rfl)))) (hw _ (List.mem_of_getElem? (i := 64) rfl)) (hw _ (List.mem_of_getElem? (i := 63) rfl)) (hw _ (List.mem_of_getElem? (i := 28) rfl)) (hw _ (List.mem_of_getElem? (i := 65) rfl)) (by decide) F5_0 (rm8_6 l Z a0 hw hA hF [] b6 ((1 : Int32) + ((p2 &&& (2147483647 : Int32)) % (9 : Int32))) T5.heap n0 O5 F5_2) (W := 0) (by decide) (by decide) [] rfl (lenOf pd1 rfl) (Ls := #[.val (.int p0), .val (.int p1), .val (.int p2), .val (.int (0 : Int32)), .val (.ref (w0_SEARCH_CLUSTER Z)), .val (.int (0 : Int32)), .val (.ref (w4_MONTH Z)), .val (.int (9 : Int32)), .val (.int ((1 : Int32) + ((p2 &&& (2147483647 : Int32)) % (9 : Int32)))), .val (.ref b6)]) (by rw [hml]; rfl) (rest := []) (Nat.le_of_eq rfl) (hb hby at_140) e7 (by decide) (by decide)
      refine st8 _ ?_
      obtain ⟨rfl, N8q, e8⟩ := hQ8
      have N8 := Fr.app N7 N8q
      show own_Wp p e below _ T8 (mkF m 143 #[.val (.int p0), .val (.int p1), .val (.int p2), .val (.int (0 : Int32)), .val (.ref (w0_SEARCH_CLUSTER Z)), .val (.int (0 : Int32)), .val (.ref (w4_MONTH Z)), .val (.int (9 : Int32)), .val (.int ((1 : Int32) + ((p2 &&& (2147483647 : Int32)) % (9 : Int32)))), .val (.ref b6)] [(.int ((1 : Int32) + ((p2 &&& (2147483647 : Int32)) % (9 : Int32))))])
      refine own_step (fun _ k => XS.iload X8.here hx rfl (hb hby at_143) rfl k) ?_
      show own_Wp p e below _ T8 (mkF m 145 #[.val (.int p0), .val (.int p1), .val (.int p2), .val (.int (0 : Int32)), .val (.ref (w0_SEARCH_CLUSTER Z)), .val (.int (0 : Int32)), .val (.ref (w4_MONTH Z)), .val (.int (9 : Int32)), .val (.int ((1 : Int32) + ((p2 &&& (2147483647 : Int32)) % (9 : Int32)))), .val (.ref b6)] [(.int ((1 : Int32) + ((p2 &&& (2147483647 : Int32)) % (9 : Int32)))), (.int ((1 : Int32) + ((p2 &&& (2147483647 : Int32)) % (9 : Int32))))])
      refine own_step (fun _ k => XS.icmpNo X8.here hx rfl (hb hby at_145) rfl (teq (rfl : ((1 : Int32) + ((p2 &&& (2147483647 : Int32)) % (9 : Int32))) = ((1 : Int32) + ((p2 &&& (2147483647 : Int32)) % (9 : Int32))))).2 k) ?_
      show own_Wp p e below _ T8 (mkF m 148 #[.val (.int p0), .val (.int p1), .val (.int p2), .val (.int (0 : Int32)), .val (.ref (w0_SEARCH_CLUSTER Z)), .val (.int (0 : Int32)), .val (.ref (w4_MONTH Z)), .val (.int (9 : Int32)), .val (.int ((1 : Int32) + ((p2 &&& (2147483647 : Int32)) % (9 : Int32)))), .val (.ref b6)] [])
      refine own_step (fun _ k => XS.iconst X8.here hx rfl (hb hby at_148) k) ?_
      show own_Wp p e below _ T8 (mkF m 149 #[.val (.int p0), .val (.int p1), .val (.int p2), .val (.int (0 : Int32)), .val (.ref (w0_SEARCH_CLUSTER Z)), .val (.int (0 : Int32)), .val (.ref (w4_MONTH Z)), .val (.int (9 : Int32)), .val (.int ((1 : Int32) + ((p2 &&& (2147483647 : Int32)) % (9 : Int32)))), .val (.ref b6)] [(.int (1 : Int32))])
      refine own_step (fun _ k => XS.goto X8.here hx rfl (pc0 := 149) (pc' := 153) rfl (hb hby at_149) (by decide) (by decide) k) ?_
      show own_Wp p e below _ T8 (mkF m 153 #[.val (.int p0), .val (.int p1), .val (.int p2), .val (.int (0 : Int32)), .val (.ref (w0_SEARCH_CLUSTER Z)), .val (.int (0 : Int32)), .val (.ref (w4_MONTH Z)), .val (.int (9 : Int32)), .val (.int ((1 : Int32) + ((p2 &&& (2147483647 : Int32)) % (9 : Int32)))), .val (.ref b6)] [(.int (1 : Int32))])
      exact own_retNW X8 hS5 (by rw [e8]; exact (Nat.le_refl _)) hx (t := .boolean) hret (by simp) hlk (hb hby at_153) (by decide) (by decide) ⟨rfl, N8⟩
    · skip
      refine own_step (fun _ k => XS.ifNo X2.here hx rfl (hb hby at_50) rfl ((if0 _ _).trans (feq hc3).1) k) ?_
      show own_Wp p e below _ T2 (mkF m 53 #[.val (.int p0), .val (.int p1), .val (.int p2), .val (.int (0 : Int32)), .val (.ref (w0_SEARCH_CLUSTER Z)), .unset, .unset, .unset, .unset, .unset] [])
      refine own_step (fun _ k => XS.iconst X2.here hx rfl (hb hby at_53) k) ?_
      show own_Wp p e below _ T2 (mkF m 54 #[.val (.int p0), .val (.int p1), .val (.int p2), .val (.int (0 : Int32)), .val (.ref (w0_SEARCH_CLUSTER Z)), .unset, .unset, .unset, .unset, .unset] [(.int (1 : Int32))])
      refine own_step (fun _ k => XS.goto X2.here hx rfl (pc0 := 54) (pc' := 58) rfl (hb hby at_54) (by decide) (by decide) k) ?_
      show own_Wp p e below _ T2 (mkF m 58 #[.val (.int p0), .val (.int p1), .val (.int p2), .val (.int (0 : Int32)), .val (.ref (w0_SEARCH_CLUSTER Z)), .unset, .unset, .unset, .unset, .unset] [(.int (1 : Int32))])
      refine own_step (fun _ k => XS.istore X2.here hx rfl (hb hby at_58) rfl (l' := #[.val (.int p0), .val (.int p1), .val (.int p2), .val (.int (0 : Int32)), .val (.ref (w0_SEARCH_CLUSTER Z)), .val (.int (1 : Int32)), .unset, .unset, .unset, .unset]) rfl k) ?_
      show own_Wp p e below _ T2 (mkF m 60 #[.val (.int p0), .val (.int p1), .val (.int p2), .val (.int (0 : Int32)), .val (.ref (w0_SEARCH_CLUSTER Z)), .val (.int (1 : Int32)), .unset, .unset, .unset, .unset] [])
      refine own_step (fun _ k => XS.iload X2.here hx rfl (hb hby at_60) rfl k) ?_
      show own_Wp p e below _ T2 (mkF m 62 #[.val (.int p0), .val (.int p1), .val (.int p2), .val (.int (0 : Int32)), .val (.ref (w0_SEARCH_CLUSTER Z)), .val (.int (1 : Int32)), .unset, .unset, .unset, .unset] [(.int (1 : Int32))])
      refine own_step (fun _ k => XS.ifNo X2.here hx rfl (hb hby at_62) rfl (by decide) k) ?_
      show own_Wp p e below _ T2 (mkF m 65 #[.val (.int p0), .val (.int p1), .val (.int p2), .val (.int (0 : Int32)), .val (.ref (w0_SEARCH_CLUSTER Z)), .val (.int (1 : Int32)), .unset, .unset, .unset, .unset] [])
      obtain ⟨T9, X9, e9, st9⟩ := getS2 X2 hx hZ hown (host := "") (Or.inl (hw _ (List.mem_of_getElem? (i := 3) rfl))) Via.refl e2 ((st_w1_YEAR hw hA hF).ext O0.2) (g := (mkF m 65 #[.val (.int p0), .val (.int p1), .val (.int p2), .val (.int (0 : Int32)), .val (.ref (w0_SEARCH_CLUSTER Z)), .val (.int (1 : Int32)), .unset, .unset, .unset, .unset] [])) rfl (hb hby at_65)
      refine own_step st9 ?_
      show own_Wp p e below _ T9 (mkF m 68 #[.val (.int p0), .val (.int p1), .val (.int p2), .val (.int (0 : Int32)), .val (.ref (w0_SEARCH_CLUSTER Z)), .val (.int (1 : Int32)), .unset, .unset, .unset, .unset] [(.ref (w1_YEAR Z))])
      refine own_step (fun _ k => XS.goto X9.here hx rfl (pc0 := 68) (pc' := 74) rfl (hb hby at_68) (by decide) (by decide) k) ?_
      show own_Wp p e below _ T9 (mkF m 74 #[.val (.int p0), .val (.int p1), .val (.int p2), .val (.int (0 : Int32)), .val (.ref (w0_SEARCH_CLUSTER Z)), .val (.int (1 : Int32)), .unset, .unset, .unset, .unset] [(.ref (w1_YEAR Z))])
      refine own_step (fun _ k => XS.astore X9.here hx rfl (hb hby at_74) rfl rfl (l' := #[.val (.int p0), .val (.int p1), .val (.int p2), .val (.int (0 : Int32)), .val (.ref (w0_SEARCH_CLUSTER Z)), .val (.int (1 : Int32)), .val (.ref (w1_YEAR Z)), .unset, .unset, .unset]) rfl k) ?_
      show own_Wp p e below _ T9 (mkF m 76 #[.val (.int p0), .val (.int p1), .val (.int p2), .val (.int (0 : Int32)), .val (.ref (w0_SEARCH_CLUSTER Z)), .val (.int (1 : Int32)), .val (.ref (w1_YEAR Z)), .unset, .unset, .unset] [])
      refine own_step (fun _ k => XS.iload X9.here hx rfl (hb hby at_76) rfl k) ?_
      show own_Wp p e below _ T9 (mkF m 78 #[.val (.int p0), .val (.int p1), .val (.int p2), .val (.int (0 : Int32)), .val (.ref (w0_SEARCH_CLUSTER Z)), .val (.int (1 : Int32)), .val (.ref (w1_YEAR Z)), .unset, .unset, .unset] [(.int (1 : Int32))])
      refine own_step (fun _ k => XS.ifNo X9.here hx rfl (hb hby at_78) rfl (by decide) k) ?_
      show own_Wp p e below _ T9 (mkF m 81 #[.val (.int p0), .val (.int p1), .val (.int p2), .val (.int (0 : Int32)), .val (.ref (w0_SEARCH_CLUSTER Z)), .val (.int (1 : Int32)), .val (.ref (w1_YEAR Z)), .unset, .unset, .unset] [])
      refine own_step (fun _ k => XS.iloadN X9.here hx rfl (hb hby at_81) rfl k) ?_
      show own_Wp p e below _ T9 (mkF m 82 #[.val (.int p0), .val (.int p1), .val (.int p2), .val (.int (0 : Int32)), .val (.ref (w0_SEARCH_CLUSTER Z)), .val (.int (1 : Int32)), .val (.ref (w1_YEAR Z)), .unset, .unset, .unset] [(.int (0 : Int32))])
      refine own_step (fun _ k => XS.iconst X9.here hx rfl (hb hby at_82) k) ?_
      show own_Wp p e below _ T9 (mkF m 83 #[.val (.int p0), .val (.int p1), .val (.int p2), .val (.int (0 : Int32)), .val (.ref (w0_SEARCH_CLUSTER Z)), .val (.int (1 : Int32)), .val (.ref (w1_YEAR Z)), .unset, .unset, .unset] [(.int (1 : Int32)), (.int (0 : Int32))])
      refine own_step (fun _ k => XS.icmpNo X9.here hx rfl (hb hby at_83) rfl (by decide) k) ?_
      show own_Wp p e below _ T9 (mkF m 86 #[.val (.int p0), .val (.int p1), .val (.int p2), .val (.int (0 : Int32)), .val (.ref (w0_SEARCH_CLUSTER Z)), .val (.int (1 : Int32)), .val (.ref (w1_YEAR Z)), .unset, .unset, .unset] [])
      refine own_step (fun _ k => XS.iconst X9.here hx rfl (hb hby at_86) k) ?_
      show own_Wp p e below _ T9 (mkF m 87 #[.val (.int p0), .val (.int p1), .val (.int p2), .val (.int (0 : Int32)), .val (.ref (w0_SEARCH_CLUSTER Z)), .val (.int (1 : Int32)), .val (.ref (w1_YEAR Z)), .unset, .unset, .unset] [(.int (3 : Int32))])
      refine own_step (fun _ k => XS.goto X9.here hx rfl (pc0 := 87) (pc' := 92) rfl (hb hby at_87) (by decide) (by decide) k) ?_
      show own_Wp p e below _ T9 (mkF m 92 #[.val (.int p0), .val (.int p1), .val (.int p2), .val (.int (0 : Int32)), .val (.ref (w0_SEARCH_CLUSTER Z)), .val (.int (1 : Int32)), .val (.ref (w1_YEAR Z)), .unset, .unset, .unset] [(.int (3 : Int32))])
      refine own_step (fun _ k => XS.istore X9.here hx rfl (hb hby at_92) rfl (l' := #[.val (.int p0), .val (.int p1), .val (.int p2), .val (.int (0 : Int32)), .val (.ref (w0_SEARCH_CLUSTER Z)), .val (.int (1 : Int32)), .val (.ref (w1_YEAR Z)), .val (.int (3 : Int32)), .unset, .unset]) rfl k) ?_
      show own_Wp p e below _ T9 (mkF m 94 #[.val (.int p0), .val (.int p1), .val (.int p2), .val (.int (0 : Int32)), .val (.ref (w0_SEARCH_CLUSTER Z)), .val (.int (1 : Int32)), .val (.ref (w1_YEAR Z)), .val (.int (3 : Int32)), .unset, .unset] [])
      refine own_step (fun _ k => XS.goto X9.here hx rfl (pc0 := 94) (pc' := 101) rfl (hb hby at_94) (by decide) (by decide) k) ?_
      show own_Wp p e below _ T9 (mkF m 101 #[.val (.int p0), .val (.int p1), .val (.int p2), .val (.int (0 : Int32)), .val (.ref (w0_SEARCH_CLUSTER Z)), .val (.int (1 : Int32)), .val (.ref (w1_YEAR Z)), .val (.int (3 : Int32)), .unset, .unset] [])
      refine own_step (fun _ k => XS.iconst X9.here hx rfl (hb hby at_101) k) ?_
      show own_Wp p e below _ T9 (mkF m 102 #[.val (.int p0), .val (.int p1), .val (.int p2), .val (.int (0 : Int32)), .val (.ref (w0_SEARCH_CLUSTER Z)), .val (.int (1 : Int32)), .val (.ref (w1_YEAR Z)), .val (.int (3 : Int32)), .unset, .unset] [(.int (1 : Int32))])
      refine own_step (fun _ k => XS.iloadN X9.here hx rfl (hb hby at_102) rfl k) ?_
      show own_Wp p e below _ T9 (mkF m 103 #[.val (.int p0), .val (.int p1), .val (.int p2), .val (.int (0 : Int32)), .val (.ref (w0_SEARCH_CLUSTER Z)), .val (.int (1 : Int32)), .val (.ref (w1_YEAR Z)), .val (.int (3 : Int32)), .unset, .unset] [(.int p2), (.int (1 : Int32))])
      refine own_step (X9.ldcInt hx hown (mvT hZ (hw _ (List.mem_of_getElem? (i := 6) rfl))) (g := (mkF m 103 #[.val (.int p0), .val (.int p1), .val (.int p2), .val (.int (0 : Int32)), .val (.ref (w0_SEARCH_CLUSTER Z)), .val (.int (1 : Int32)), .val (.ref (w1_YEAR Z)), .val (.int (3 : Int32)), .unset, .unset] [(.int p2), (.int (1 : Int32))])) rfl (hb hby at_103)) ?_
      show own_Wp p e below _ T9 (mkF m 105 #[.val (.int p0), .val (.int p1), .val (.int p2), .val (.int (0 : Int32)), .val (.ref (w0_SEARCH_CLUSTER Z)), .val (.int (1 : Int32)), .val (.ref (w1_YEAR Z)), .val (.int (3 : Int32)), .unset, .unset] [(.int (2147483647 : Int32)), (.int p2), (.int (1 : Int32))])
      refine own_step (fun _ k => XS.iand X9.here hx rfl (hb hby at_105) rfl k) ?_
      show own_Wp p e below _ T9 (mkF m 106 #[.val (.int p0), .val (.int p1), .val (.int p2), .val (.int (0 : Int32)), .val (.ref (w0_SEARCH_CLUSTER Z)), .val (.int (1 : Int32)), .val (.ref (w1_YEAR Z)), .val (.int (3 : Int32)), .unset, .unset] [(.int (p2 &&& (2147483647 : Int32))), (.int (1 : Int32))])
      refine own_step (fun _ k => XS.iload X9.here hx rfl (hb hby at_106) rfl k) ?_
      show own_Wp p e below _ T9 (mkF m 108 #[.val (.int p0), .val (.int p1), .val (.int p2), .val (.int (0 : Int32)), .val (.ref (w0_SEARCH_CLUSTER Z)), .val (.int (1 : Int32)), .val (.ref (w1_YEAR Z)), .val (.int (3 : Int32)), .unset, .unset] [(.int (3 : Int32)), (.int (p2 &&& (2147483647 : Int32))), (.int (1 : Int32))])
      refine own_step (fun _ k => iremM (g := (mkF m 108 #[.val (.int p0), .val (.int p1), .val (.int p2), .val (.int (0 : Int32)), .val (.ref (w0_SEARCH_CLUSTER Z)), .val (.int (1 : Int32)), .val (.ref (w1_YEAR Z)), .val (.int (3 : Int32)), .unset, .unset] [(.int (3 : Int32)), (.int (p2 &&& (2147483647 : Int32))), (.int (1 : Int32))])) X9 hx rfl (hb hby at_108) rfl (by decide) k) ?_
      show own_Wp p e below _ T9 (mkF m 109 #[.val (.int p0), .val (.int p1), .val (.int p2), .val (.int (0 : Int32)), .val (.ref (w0_SEARCH_CLUSTER Z)), .val (.int (1 : Int32)), .val (.ref (w1_YEAR Z)), .val (.int (3 : Int32)), .unset, .unset] [(.int ((p2 &&& (2147483647 : Int32)) % (3 : Int32))), (.int (1 : Int32))])
      refine own_step (fun _ k => XS.iadd X9.here hx rfl (hb hby at_109) rfl k) ?_
      show own_Wp p e below _ T9 (mkF m 110 #[.val (.int p0), .val (.int p1), .val (.int p2), .val (.int (0 : Int32)), .val (.ref (w0_SEARCH_CLUSTER Z)), .val (.int (1 : Int32)), .val (.ref (w1_YEAR Z)), .val (.int (3 : Int32)), .unset, .unset] [(.int ((1 : Int32) + ((p2 &&& (2147483647 : Int32)) % (3 : Int32))))])
      have hr1 : ¬ (((1 : Int32) + ((p2 &&& (2147483647 : Int32)) % (3 : Int32))) < (1 : Int32)) := own_r1 p2 (n := (3 : Int32)) (by decide) (by decide)
      have hr2 : ¬ ((3 : Int32) < ((1 : Int32) + ((p2 &&& (2147483647 : Int32)) % (3 : Int32)))) := own_r2 p2 (n := (3 : Int32)) (by decide) (by decide)
      have hr3 : ¬ ((9 : Int32) < ((1 : Int32) + ((p2 &&& (2147483647 : Int32)) % (3 : Int32)))) := own_r3 hr2
      refine own_step (fun _ k => XS.istore X9.here hx rfl (hb hby at_110) rfl (l' := #[.val (.int p0), .val (.int p1), .val (.int p2), .val (.int (0 : Int32)), .val (.ref (w0_SEARCH_CLUSTER Z)), .val (.int (1 : Int32)), .val (.ref (w1_YEAR Z)), .val (.int (3 : Int32)), .val (.int ((1 : Int32) + ((p2 &&& (2147483647 : Int32)) % (3 : Int32)))), .unset]) rfl k) ?_
      show own_Wp p e below _ T9 (mkF m 112 #[.val (.int p0), .val (.int p1), .val (.int p2), .val (.int (0 : Int32)), .val (.ref (w0_SEARCH_CLUSTER Z)), .val (.int (1 : Int32)), .val (.ref (w1_YEAR Z)), .val (.int (3 : Int32)), .val (.int ((1 : Int32) + ((p2 &&& (2147483647 : Int32)) % (3 : Int32)))), .unset] [])
      refine own_step (fun _ k => XS.aload X9.here hx rfl (hb hby at_112) rfl rfl k) ?_
      show own_Wp p e below _ T9 (mkF m 114 #[.val (.int p0), .val (.int p1), .val (.int p2), .val (.int (0 : Int32)), .val (.ref (w0_SEARCH_CLUSTER Z)), .val (.int (1 : Int32)), .val (.ref (w1_YEAR Z)), .val (.int (3 : Int32)), .val (.int ((1 : Int32) + ((p2 &&& (2147483647 : Int32)) % (3 : Int32)))), .unset] [(.ref (w0_SEARCH_CLUSTER Z))])
      refine own_step (fun _ k => XS.aload X9.here hx rfl (hb hby at_114) rfl rfl k) ?_
      show own_Wp p e below _ T9 (mkF m 116 #[.val (.int p0), .val (.int p1), .val (.int p2), .val (.int (0 : Int32)), .val (.ref (w0_SEARCH_CLUSTER Z)), .val (.int (1 : Int32)), .val (.ref (w1_YEAR Z)), .val (.int (3 : Int32)), .val (.int ((1 : Int32) + ((p2 &&& (2147483647 : Int32)) % (3 : Int32)))), .unset] [(.ref (w1_YEAR Z)), (.ref (w0_SEARCH_CLUSTER Z))])
      refine own_step (fun _ k => XS.iload X9.here hx rfl (hb hby at_116) rfl k) ?_
      show own_Wp p e below _ T9 (mkF m 118 #[.val (.int p0), .val (.int p1), .val (.int p2), .val (.int (0 : Int32)), .val (.ref (w0_SEARCH_CLUSTER Z)), .val (.int (1 : Int32)), .val (.ref (w1_YEAR Z)), .val (.int (3 : Int32)), .val (.int ((1 : Int32) + ((p2 &&& (2147483647 : Int32)) % (3 : Int32)))), .unset] [(.int ((1 : Int32) + ((p2 &&& (2147483647 : Int32)) % (3 : Int32)))), (.ref (w1_YEAR Z)), (.ref (w0_SEARCH_CLUSTER Z))])
      obtain ⟨_, T10, L10, X10, hS10, hZ10, hown10, hQ10, st10⟩ := own_callVW X9 hx hZ hS0 (Nat.zero_le _) hown (hw _ (List.mem_of_getElem? (i := 7) rfl)) (hw _ (List.mem_of_getElem? (i := 8) rfl)) (notFace_of_selects (args := #[]) (mvT hZ (hw _ (List.mem_of_getElem? (i := 10) rfl)))) (hw _ (List.mem_of_getElem? (i := 10) rfl)) (hw _ (List.mem_of_getElem? (i := 9) rfl)) (hw _ (List.mem_of_getElem? (i := 1) rfl)) (hw _ (List.mem_of_getElem? (i := 11) rfl)) (by decide) ((ex_w0_SEARCH_CLUSTER hw hA hF).ext O0.2) (rm1_8 l Z a0 hw hA hF [] (w0_SEARCH_CLUSTER Z) (w1_YEAR Z) ((1 : Int32) + ((p2 &&& (2147483647 : Int32)) % (3 : Int32))) h0 n0 O0 hr1 hr2 (fl0 hw hA hF) (ex_w1_YEAR hw hA hF) (fl1 hw hA hF)) (W := 0) (by decide) (by decide) [(.ref (w1_YEAR Z)), (.int ((1 : Int32) + ((p2 &&& (2147483647 : Int32)) % (3 : Int32))))] rfl (lenOf pd9 rfl) (Ls := #[.val (.int p0), .val (.int p1), .val (.int p2), .val (.int (0 : Int32)), .val (.ref (w0_SEARCH_CLUSTER Z)), .val (.int (1 : Int32)), .val (.ref (w1_YEAR Z)), .val (.int (3 : Int32)), .val (.int ((1 : Int32) + ((p2 &&& (2147483647 : Int32)) % (3 : Int32)))), .unset]) (by rw [hml]; rfl) (rest := []) (Nat.le_of_eq rfl) (hb hby at_118) e9 (by decide) (by decide)
      refine st10 _ ?_
      obtain ⟨b11, rfl, N10q, K10q, y10_0, F10_0, F10_1, F10_2⟩ := hQ10
      have N10 := Fr.app (Fr.nil n0) N10q
      have g10_0 : n0 ≤ b11 := Nat.le_trans (O0.1 ▸ O0.2.1) y10_0
      have u10_0 : h0.size ≤ b11 := Nat.le_trans (Nat.le_refl _) y10_0
      have O10 := O0.keep K10q all0
      have K10 : Keep h0 T10.heap [] := Keep.trans (Keep.refl h0 []) K10q all0
      show own_Wp p e below _ T10 (mkF m 121 #[.val (.int p0), .val (.int p1), .val (.int p2), .val (.int (0 : Int32)), .val (.ref (w0_SEARCH_CLUSTER Z)), .val (.int (1 : Int32)), .val (.ref (w1_YEAR Z)), .val (.int (3 : Int32)), .val (.int ((1 : Int32) + ((p2 &&& (2147483647 : Int32)) % (3 : Int32)))), .unset] [(.ref b11)])
      refine own_step (fun _ k => XS.astore X10.here hx rfl (hb hby at_121) rfl rfl (l' := #[.val (.int p0), .val (.int p1), .val (.int p2), .val (.int (0 : Int32)), .val (.ref (w0_SEARCH_CLUSTER Z)), .val (.int (1 : Int32)), .val (.ref (w1_YEAR Z)), .val (.int (3 : Int32)), .val (.int ((1 : Int32) + ((p2 &&& (2147483647 : Int32)) % (3 : Int32)))), .val (.ref b11)]) rfl k) ?_
      show own_Wp p e below _ T10 (mkF m 123 #[.val (.int p0), .val (.int p1), .val (.int p2), .val (.int (0 : Int32)), .val (.ref (w0_SEARCH_CLUSTER Z)), .val (.int (1 : Int32)), .val (.ref (w1_YEAR Z)), .val (.int (3 : Int32)), .val (.int ((1 : Int32) + ((p2 &&& (2147483647 : Int32)) % (3 : Int32)))), .val (.ref b11)] [])
      refine own_step (fun _ k => XS.aload X10.here hx rfl (hb hby at_123) rfl rfl k) ?_
      show own_Wp p e below _ T10 (mkF m 125 #[.val (.int p0), .val (.int p1), .val (.int p2), .val (.int (0 : Int32)), .val (.ref (w0_SEARCH_CLUSTER Z)), .val (.int (1 : Int32)), .val (.ref (w1_YEAR Z)), .val (.int (3 : Int32)), .val (.int ((1 : Int32) + ((p2 &&& (2147483647 : Int32)) % (3 : Int32)))), .val (.ref b11)] [(.ref b11)])
      refine own_step (fun _ k => XS.ifnullNo X10.here hx rfl (hb hby at_125) rfl k) ?_
      show own_Wp p e below _ T10 (mkF m 128 #[.val (.int p0), .val (.int p1), .val (.int p2), .val (.int (0 : Int32)), .val (.ref (w0_SEARCH_CLUSTER Z)), .val (.int (1 : Int32)), .val (.ref (w1_YEAR Z)), .val (.int (3 : Int32)), .val (.int ((1 : Int32) + ((p2 &&& (2147483647 : Int32)) % (3 : Int32)))), .val (.ref b11)] [])
      refine own_step (fun _ k => XS.aload X10.here hx rfl (hb hby at_128) rfl rfl k) ?_
      show own_Wp p e below _ T10 (mkF m 130 #[.val (.int p0), .val (.int p1), .val (.int p2), .val (.int (0 : Int32)), .val (.ref (w0_SEARCH_CLUSTER Z)), .val (.int (1 : Int32)), .val (.ref (w1_YEAR Z)), .val (.int (3 : Int32)), .val (.int ((1 : Int32) + ((p2 &&& (2147483647 : Int32)) % (3 : Int32)))), .val (.ref b11)] [(.ref b11)])
      obtain ⟨_, T12, L12, X12, hQ12, st12⟩ := own_callV X10 hx hZ10 hown10 (hw _ (List.mem_of_getElem? (i := 56) rfl)) (hw _ (List.mem_of_getElem? (i := 57) rfl)) (notFace_of_selects (args := #[]) (mvT hZ10 (hw _ (List.mem_of_getElem? (i := 59) rfl)))) (hw _ (List.mem_of_getElem? (i := 59) rfl)) (hw _ (List.mem_of_getElem? (i := 58) rfl)) (hw _ (List.mem_of_getElem? (i := 28) rfl)) (hw _ (List.mem_of_getElem? (i := 60) rfl)) (by decide) F10_0 (rm7_9 l Z a0 hw hA hF [] b11 T10.heap n0 O10 F10_1) (W := 0) (by decide) (by decide) [] rfl (lenOf pd10 rfl) (Ls := #[.val (.int p0), .val (.int p1), .val (.int p2), .val (.int (0 : Int32)), .val (.ref (w0_SEARCH_CLUSTER Z)), .val (.int (1 : Int32)), .val (.ref (w1_YEAR Z)), .val (.int (3 : Int32)), .val (.int ((1 : Int32) + ((p2 &&& (2147483647 : Int32)) % (3 : Int32)))), .val (.ref b11)]) (by rw [hml]; rfl) (rest := []) (Nat.le_of_eq rfl) (hb hby at_130) rfl (by decide) (by decide)
      refine st12 _ ?_
      obtain ⟨rfl, N12q, e12⟩ := hQ12
      have N12 := Fr.app N10 N12q
      show own_Wp p e below _ T12 (mkF m 133 #[.val (.int p0), .val (.int p1), .val (.int p2), .val (.int (0 : Int32)), .val (.ref (w0_SEARCH_CLUSTER Z)), .val (.int (1 : Int32)), .val (.ref (w1_YEAR Z)), .val (.int (3 : Int32)), .val (.int ((1 : Int32) + ((p2 &&& (2147483647 : Int32)) % (3 : Int32)))), .val (.ref b11)] [(.ref (w1_YEAR Z))])
      refine own_step (fun _ k => XS.aload X12.here hx rfl (hb hby at_133) rfl rfl k) ?_
      show own_Wp p e below _ T12 (mkF m 135 #[.val (.int p0), .val (.int p1), .val (.int p2), .val (.int (0 : Int32)), .val (.ref (w0_SEARCH_CLUSTER Z)), .val (.int (1 : Int32)), .val (.ref (w1_YEAR Z)), .val (.int (3 : Int32)), .val (.int ((1 : Int32) + ((p2 &&& (2147483647 : Int32)) % (3 : Int32)))), .val (.ref b11)] [(.ref (w1_YEAR Z)), (.ref (w1_YEAR Z))])
      refine own_step (fun _ k => Jvm.RoadKit.acmp (g := (mkF m 135 #[.val (.int p0), .val (.int p1), .val (.int p2), .val (.int (0 : Int32)), .val (.ref (w0_SEARCH_CLUSTER Z)), .val (.int (1 : Int32)), .val (.ref (w1_YEAR Z)), .val (.int (3 : Int32)), .val (.int ((1 : Int32) + ((p2 &&& (2147483647 : Int32)) % (3 : Int32)))), .val (.ref b11)] [(.ref (w1_YEAR Z)), (.ref (w1_YEAR Z))])) X12 hx rfl rfl rfl (pc0 := 135) (pc' := 138) (same := true) rfl (hb hby at_135) rfl (decide_eq_true rfl) (by decide) (by decide) k) ?_
      show own_Wp p e below _ T12 (mkF m 138 #[.val (.int p0), .val (.int p1), .val (.int p2), .val (.int (0 : Int32)), .val (.ref (w0_SEARCH_CLUSTER Z)), .val (.int (1 : Int32)), .val (.ref (w1_YEAR Z)), .val (.int (3 : Int32)), .val (.int ((1 : Int32) + ((p2 &&& (2147483647 : Int32)) % (3 : Int32)))), .val (.ref b11)] [])
      refine own_step (fun _ k => XS.aload X12.here hx rfl (hb hby at_138) rfl rfl k) ?_
      show own_Wp p e below _ T12 (mkF m 140 #[.val (.int p0), .val (.int p1), .val (.int p2), .val (.int (0 : Int32)), .val (.ref (w0_SEARCH_CLUSTER Z)), .val (.int (1 : Int32)), .val (.ref (w1_YEAR Z)), .val (.int (3 : Int32)), .val (.int ((1 : Int32) + ((p2 &&& (2147483647 : Int32)) % (3 : Int32)))), .val (.ref b11)] [(.ref b11)])
      obtain ⟨_, T13, L13, X13, hQ13, st13⟩ := own_callV X12 hx hZ10 hown10 (hw _ (List.mem_of_getElem? (i := 61) rfl)) (hw _ (List.mem_of_getElem? (i := 62) rfl)) (notFace_of_selects (args := #[]) (mvT hZ10 (hw _ (List.mem_of_getElem? (i := 64) rfl)))) (hw _ (List.mem_of_getElem? (i := 64) rfl)) (hw _ (List.mem_of_getElem? (i := 63) rfl)) (hw _ (List.mem_of_getElem? (i := 28) rfl)) (hw _ (List.mem_of_getElem? (i := 65) rfl)) (by decide) F10_0 (rm8_6 l Z a0 hw hA hF [] b11 ((1 : Int32) + ((p2 &&& (2147483647 : Int32)) % (3 : Int32))) T10.heap n0 O10 F10_2) (W := 0) (by decide) (by decide) [] rfl (lenOf pd1 rfl) (Ls := #[.val (.int p0), .val (.int p1), .val (.int p2), .val (.int (0 : Int32)), .val (.ref (w0_SEARCH_CLUSTER Z)), .val (.int (1 : Int32)), .val (.ref (w1_YEAR Z)), .val (.int (3 : Int32)), .val (.int ((1 : Int32) + ((p2 &&& (2147483647 : Int32)) % (3 : Int32)))), .val (.ref b11)]) (by rw [hml]; rfl) (rest := []) (Nat.le_of_eq rfl) (hb hby at_140) e12 (by decide) (by decide)
      refine st13 _ ?_
      obtain ⟨rfl, N13q, e13⟩ := hQ13
      have N13 := Fr.app N12 N13q
      show own_Wp p e below _ T13 (mkF m 143 #[.val (.int p0), .val (.int p1), .val (.int p2), .val (.int (0 : Int32)), .val (.ref (w0_SEARCH_CLUSTER Z)), .val (.int (1 : Int32)), .val (.ref (w1_YEAR Z)), .val (.int (3 : Int32)), .val (.int ((1 : Int32) + ((p2 &&& (2147483647 : Int32)) % (3 : Int32)))), .val (.ref b11)] [(.int ((1 : Int32) + ((p2 &&& (2147483647 : Int32)) % (3 : Int32))))])
      refine own_step (fun _ k => XS.iload X13.here hx rfl (hb hby at_143) rfl k) ?_
      show own_Wp p e below _ T13 (mkF m 145 #[.val (.int p0), .val (.int p1), .val (.int p2), .val (.int (0 : Int32)), .val (.ref (w0_SEARCH_CLUSTER Z)), .val (.int (1 : Int32)), .val (.ref (w1_YEAR Z)), .val (.int (3 : Int32)), .val (.int ((1 : Int32) + ((p2 &&& (2147483647 : Int32)) % (3 : Int32)))), .val (.ref b11)] [(.int ((1 : Int32) + ((p2 &&& (2147483647 : Int32)) % (3 : Int32)))), (.int ((1 : Int32) + ((p2 &&& (2147483647 : Int32)) % (3 : Int32))))])
      refine own_step (fun _ k => XS.icmpNo X13.here hx rfl (hb hby at_145) rfl (teq (rfl : ((1 : Int32) + ((p2 &&& (2147483647 : Int32)) % (3 : Int32))) = ((1 : Int32) + ((p2 &&& (2147483647 : Int32)) % (3 : Int32))))).2 k) ?_
      show own_Wp p e below _ T13 (mkF m 148 #[.val (.int p0), .val (.int p1), .val (.int p2), .val (.int (0 : Int32)), .val (.ref (w0_SEARCH_CLUSTER Z)), .val (.int (1 : Int32)), .val (.ref (w1_YEAR Z)), .val (.int (3 : Int32)), .val (.int ((1 : Int32) + ((p2 &&& (2147483647 : Int32)) % (3 : Int32)))), .val (.ref b11)] [])
      refine own_step (fun _ k => XS.iconst X13.here hx rfl (hb hby at_148) k) ?_
      show own_Wp p e below _ T13 (mkF m 149 #[.val (.int p0), .val (.int p1), .val (.int p2), .val (.int (0 : Int32)), .val (.ref (w0_SEARCH_CLUSTER Z)), .val (.int (1 : Int32)), .val (.ref (w1_YEAR Z)), .val (.int (3 : Int32)), .val (.int ((1 : Int32) + ((p2 &&& (2147483647 : Int32)) % (3 : Int32)))), .val (.ref b11)] [(.int (1 : Int32))])
      refine own_step (fun _ k => XS.goto X13.here hx rfl (pc0 := 149) (pc' := 153) rfl (hb hby at_149) (by decide) (by decide) k) ?_
      show own_Wp p e below _ T13 (mkF m 153 #[.val (.int p0), .val (.int p1), .val (.int p2), .val (.int (0 : Int32)), .val (.ref (w0_SEARCH_CLUSTER Z)), .val (.int (1 : Int32)), .val (.ref (w1_YEAR Z)), .val (.int (3 : Int32)), .val (.int ((1 : Int32) + ((p2 &&& (2147483647 : Int32)) % (3 : Int32)))), .val (.ref b11)] [(.int (1 : Int32))])
      exact own_retNW X13 hS10 (by rw [e13]; exact (Nat.le_refl _)) hx (t := .boolean) hret (by simp) hlk (hb hby at_153) (by decide) (by decide) ⟨rfl, N13⟩
  · skip
    refine own_cast (g' := (mkF m 3 #[.val (.int p0), .val (.int p1), .val (.int p2), .unset, .unset, .unset, .unset, .unset, .unset, .unset] [(.int (1 : Int32))])) (by rw [hm1]) ?_
    show own_Wp p e below _ s₁ (mkF m 3 #[.val (.int p0), .val (.int p1), .val (.int p2), .unset, .unset, .unset, .unset, .unset, .unset, .unset] [(.int (1 : Int32))])
    refine own_step (fun _ k => XS.istoreN X0.here hx rfl (hb hby at_3) rfl (l' := #[.val (.int p0), .val (.int p1), .val (.int p2), .val (.int (1 : Int32)), .unset, .unset, .unset, .unset, .unset, .unset]) rfl k) ?_
    show own_Wp p e below _ s₁ (mkF m 4 #[.val (.int p0), .val (.int p1), .val (.int p2), .val (.int (1 : Int32)), .unset, .unset, .unset, .unset, .unset, .unset] [])
    refine own_step (fun _ k => XS.iloadN X0.here hx rfl (hb hby at_4) rfl k) ?_
    show own_Wp p e below _ s₁ (mkF m 5 #[.val (.int p0), .val (.int p1), .val (.int p2), .val (.int (1 : Int32)), .unset, .unset, .unset, .unset, .unset, .unset] [(.int (1 : Int32))])
    refine own_step (fun _ k => XS.ifYes X0.here hx rfl (pc0 := 5) (pc' := 16) rfl (hb hby at_5) rfl (by decide) (by decide) (by decide) k) ?_
    show own_Wp p e below _ s₁ (mkF m 16 #[.val (.int p0), .val (.int p1), .val (.int p2), .val (.int (1 : Int32)), .unset, .unset, .unset, .unset, .unset, .unset] [])
    refine own_step (fun _ k => XS.iloadN X0.here hx rfl (hb hby at_16) rfl k) ?_
    show own_Wp p e below _ s₁ (mkF m 17 #[.val (.int p0), .val (.int p1), .val (.int p2), .val (.int (1 : Int32)), .unset, .unset, .unset, .unset, .unset, .unset] [(.int (1 : Int32))])
    refine own_step (fun _ k => XS.iconst X0.here hx rfl (hb hby at_17) k) ?_
    show own_Wp p e below _ s₁ (mkF m 18 #[.val (.int p0), .val (.int p1), .val (.int p2), .val (.int (1 : Int32)), .unset, .unset, .unset, .unset, .unset, .unset] [(.int (1 : Int32)), (.int (1 : Int32))])
    refine own_step (fun _ k => XS.icmpNo X0.here hx rfl (hb hby at_18) rfl (by decide) k) ?_
    show own_Wp p e below _ s₁ (mkF m 21 #[.val (.int p0), .val (.int p1), .val (.int p2), .val (.int (1 : Int32)), .unset, .unset, .unset, .unset, .unset, .unset] [])
    obtain ⟨T14, X14, e14, st14⟩ := getS2 X0 hx hZ hown (host := "") (Or.inl (hw _ (List.mem_of_getElem? (i := 66) rfl))) Via.refl e0 ((st_w3_DATABASE_INSTANCE hw hA hF).ext O0.2) (g := (mkF m 21 #[.val (.int p0), .val (.int p1), .val (.int p2), .val (.int (1 : Int32)), .unset, .unset, .unset, .unset, .unset, .unset] [])) rfl (hb hby at_21)
    refine own_step st14 ?_
    show own_Wp p e below _ T14 (mkF m 24 #[.val (.int p0), .val (.int p1), .val (.int p2), .val (.int (1 : Int32)), .unset, .unset, .unset, .unset, .unset, .unset] [(.ref (w3_DATABASE_INSTANCE Z))])
    refine own_step (fun _ k => XS.astore X14.here hx rfl (hb hby at_24) rfl rfl (l' := #[.val (.int p0), .val (.int p1), .val (.int p2), .val (.int (1 : Int32)), .val (.ref (w3_DATABASE_INSTANCE Z)), .unset, .unset, .unset, .unset, .unset]) rfl k) ?_
    show own_Wp p e below _ T14 (mkF m 26 #[.val (.int p0), .val (.int p1), .val (.int p2), .val (.int (1 : Int32)), .val (.ref (w3_DATABASE_INSTANCE Z)), .unset, .unset, .unset, .unset, .unset] [])
    refine own_step (fun _ k => XS.goto X14.here hx rfl (pc0 := 26) (pc' := 47) rfl (hb hby at_26) (by decide) (by decide) k) ?_
    show own_Wp p e below _ T14 (mkF m 47 #[.val (.int p0), .val (.int p1), .val (.int p2), .val (.int (1 : Int32)), .val (.ref (w3_DATABASE_INSTANCE Z)), .unset, .unset, .unset, .unset, .unset] [])
    refine own_step (fun _ k => XS.iloadN X14.here hx rfl (hb hby at_47) rfl k) ?_
    show own_Wp p e below _ T14 (mkF m 48 #[.val (.int p0), .val (.int p1), .val (.int p2), .val (.int (1 : Int32)), .val (.ref (w3_DATABASE_INSTANCE Z)), .unset, .unset, .unset, .unset, .unset] [(.int p1)])
    refine own_step (fun _ k => XS.iconst X14.here hx rfl (hb hby at_48) k) ?_
    show own_Wp p e below _ T14 (mkF m 49 #[.val (.int p0), .val (.int p1), .val (.int p2), .val (.int (1 : Int32)), .val (.ref (w3_DATABASE_INSTANCE Z)), .unset, .unset, .unset, .unset, .unset] [(.int (1 : Int32)), (.int p1)])
    refine own_step (fun _ k => XS.iand X14.here hx rfl (hb hby at_49) rfl k) ?_
    show own_Wp p e below _ T14 (mkF m 50 #[.val (.int p0), .val (.int p1), .val (.int p2), .val (.int (1 : Int32)), .val (.ref (w3_DATABASE_INSTANCE Z)), .unset, .unset, .unset, .unset, .unset] [(.int (p1 &&& (1 : Int32)))])
    by_cases hc15 : (p1 &&& (1 : Int32)) = (0 : Int32)
    · skip
      refine own_step (fun _ k => XS.ifYes X14.here hx rfl (pc0 := 50) (pc' := 57) rfl (hb hby at_50) rfl ((if0 _ _).trans (teq hc15).1) (by decide) (by decide) k) ?_
      show own_Wp p e below _ T14 (mkF m 57 #[.val (.int p0), .val (.int p1), .val (.int p2), .val (.int (1 : Int32)), .val (.ref (w3_DATABASE_INSTANCE Z)), .unset, .unset, .unset, .unset, .unset] [])
      refine own_step (fun _ k => XS.iconst X14.here hx rfl (hb hby at_57) k) ?_
      show own_Wp p e below _ T14 (mkF m 58 #[.val (.int p0), .val (.int p1), .val (.int p2), .val (.int (1 : Int32)), .val (.ref (w3_DATABASE_INSTANCE Z)), .unset, .unset, .unset, .unset, .unset] [(.int (0 : Int32))])
      refine own_step (fun _ k => XS.istore X14.here hx rfl (hb hby at_58) rfl (l' := #[.val (.int p0), .val (.int p1), .val (.int p2), .val (.int (1 : Int32)), .val (.ref (w3_DATABASE_INSTANCE Z)), .val (.int (0 : Int32)), .unset, .unset, .unset, .unset]) rfl k) ?_
      show own_Wp p e below _ T14 (mkF m 60 #[.val (.int p0), .val (.int p1), .val (.int p2), .val (.int (1 : Int32)), .val (.ref (w3_DATABASE_INSTANCE Z)), .val (.int (0 : Int32)), .unset, .unset, .unset, .unset] [])
      refine own_step (fun _ k => XS.iload X14.here hx rfl (hb hby at_60) rfl k) ?_
      show own_Wp p e below _ T14 (mkF m 62 #[.val (.int p0), .val (.int p1), .val (.int p2), .val (.int (1 : Int32)), .val (.ref (w3_DATABASE_INSTANCE Z)), .val (.int (0 : Int32)), .unset, .unset, .unset, .unset] [(.int (0 : Int32))])
      refine own_step (fun _ k => XS.ifYes X14.here hx rfl (pc0 := 62) (pc' := 71) rfl (hb hby at_62) rfl (by decide) (by decide) (by decide) k) ?_
      show own_Wp p e below _ T14 (mkF m 71 #[.val (.int p0), .val (.int p1), .val (.int p2), .val (.int (1 : Int32)), .val (.ref (w3_DATABASE_INSTANCE Z)), .val (.int (0 : Int32)), .unset, .unset, .unset, .unset] [])
      obtain ⟨T16, X16, e16, st16⟩ := getS2 X14 hx hZ hown (host := "") (Or.inl (hw _ (List.mem_of_getElem? (i := 68) rfl))) Via.refl e14 ((st_w4_MONTH hw hA hF).ext O0.2) (g := (mkF m 71 #[.val (.int p0), .val (.int p1), .val (.int p2), .val (.int (1 : Int32)), .val (.ref (w3_DATABASE_INSTANCE Z)), .val (.int (0 : Int32)), .unset, .unset, .unset, .unset] [])) rfl (hb hby at_71)
      refine own_step st16 ?_
      show own_Wp p e below _ T16 (mkF m 74 #[.val (.int p0), .val (.int p1), .val (.int p2), .val (.int (1 : Int32)), .val (.ref (w3_DATABASE_INSTANCE Z)), .val (.int (0 : Int32)), .unset, .unset, .unset, .unset] [(.ref (w4_MONTH Z))])
      refine own_step (fun _ k => XS.astore X16.here hx rfl (hb hby at_74) rfl rfl (l' := #[.val (.int p0), .val (.int p1), .val (.int p2), .val (.int (1 : Int32)), .val (.ref (w3_DATABASE_INSTANCE Z)), .val (.int (0 : Int32)), .val (.ref (w4_MONTH Z)), .unset, .unset, .unset]) rfl k) ?_
      show own_Wp p e below _ T16 (mkF m 76 #[.val (.int p0), .val (.int p1), .val (.int p2), .val (.int (1 : Int32)), .val (.ref (w3_DATABASE_INSTANCE Z)), .val (.int (0 : Int32)), .val (.ref (w4_MONTH Z)), .unset, .unset, .unset] [])
      refine own_step (fun _ k => XS.iload X16.here hx rfl (hb hby at_76) rfl k) ?_
      show own_Wp p e below _ T16 (mkF m 78 #[.val (.int p0), .val (.int p1), .val (.int p2), .val (.int (1 : Int32)), .val (.ref (w3_DATABASE_INSTANCE Z)), .val (.int (0 : Int32)), .val (.ref (w4_MONTH Z)), .unset, .unset, .unset] [(.int (0 : Int32))])
      refine own_step (fun _ k => XS.ifYes X16.here hx rfl (pc0 := 78) (pc' := 97) rfl (hb hby at_78) rfl (by decide) (by decide) (by decide) k) ?_
      show own_Wp p e below _ T16 (mkF m 97 #[.val (.int p0), .val (.int p1), .val (.int p2), .val (.int (1 : Int32)), .val (.ref (w3_DATABASE_INSTANCE Z)), .val (.int (0 : Int32)), .val (.ref (w4_MONTH Z)), .unset, .unset, .unset] [])
      refine own_step (fun _ k => XS.bipush X16.here hx rfl (hb hby at_97) k) ?_
      show own_Wp p e below _ T16 (mkF m 99 #[.val (.int p0), .val (.int p1), .val (.int p2), .val (.int (1 : Int32)), .val (.ref (w3_DATABASE_INSTANCE Z)), .val (.int (0 : Int32)), .val (.ref (w4_MONTH Z)), .unset, .unset, .unset] [(.int (9 : Int32))])
      refine own_step (fun _ k => XS.istore X16.here hx rfl (hb hby at_99) rfl (l' := #[.val (.int p0), .val (.int p1), .val (.int p2), .val (.int (1 : Int32)), .val (.ref (w3_DATABASE_INSTANCE Z)), .val (.int (0 : Int32)), .val (.ref (w4_MONTH Z)), .val (.int (9 : Int32)), .unset, .unset]) rfl k) ?_
      show own_Wp p e below _ T16 (mkF m 101 #[.val (.int p0), .val (.int p1), .val (.int p2), .val (.int (1 : Int32)), .val (.ref (w3_DATABASE_INSTANCE Z)), .val (.int (0 : Int32)), .val (.ref (w4_MONTH Z)), .val (.int (9 : Int32)), .unset, .unset] [])
      refine own_step (fun _ k => XS.iconst X16.here hx rfl (hb hby at_101) k) ?_
      show own_Wp p e below _ T16 (mkF m 102 #[.val (.int p0), .val (.int p1), .val (.int p2), .val (.int (1 : Int32)), .val (.ref (w3_DATABASE_INSTANCE Z)), .val (.int (0 : Int32)), .val (.ref (w4_MONTH Z)), .val (.int (9 : Int32)), .unset, .unset] [(.int (1 : Int32))])
      refine own_step (fun _ k => XS.iloadN X16.here hx rfl (hb hby at_102) rfl k) ?_
      show own_Wp p e below _ T16 (mkF m 103 #[.val (.int p0), .val (.int p1), .val (.int p2), .val (.int (1 : Int32)), .val (.ref (w3_DATABASE_INSTANCE Z)), .val (.int (0 : Int32)), .val (.ref (w4_MONTH Z)), .val (.int (9 : Int32)), .unset, .unset] [(.int p2), (.int (1 : Int32))])
      refine own_step (X16.ldcInt hx hown (mvT hZ (hw _ (List.mem_of_getElem? (i := 6) rfl))) (g := (mkF m 103 #[.val (.int p0), .val (.int p1), .val (.int p2), .val (.int (1 : Int32)), .val (.ref (w3_DATABASE_INSTANCE Z)), .val (.int (0 : Int32)), .val (.ref (w4_MONTH Z)), .val (.int (9 : Int32)), .unset, .unset] [(.int p2), (.int (1 : Int32))])) rfl (hb hby at_103)) ?_
      show own_Wp p e below _ T16 (mkF m 105 #[.val (.int p0), .val (.int p1), .val (.int p2), .val (.int (1 : Int32)), .val (.ref (w3_DATABASE_INSTANCE Z)), .val (.int (0 : Int32)), .val (.ref (w4_MONTH Z)), .val (.int (9 : Int32)), .unset, .unset] [(.int (2147483647 : Int32)), (.int p2), (.int (1 : Int32))])
      refine own_step (fun _ k => XS.iand X16.here hx rfl (hb hby at_105) rfl k) ?_
      show own_Wp p e below _ T16 (mkF m 106 #[.val (.int p0), .val (.int p1), .val (.int p2), .val (.int (1 : Int32)), .val (.ref (w3_DATABASE_INSTANCE Z)), .val (.int (0 : Int32)), .val (.ref (w4_MONTH Z)), .val (.int (9 : Int32)), .unset, .unset] [(.int (p2 &&& (2147483647 : Int32))), (.int (1 : Int32))])
      refine own_step (fun _ k => XS.iload X16.here hx rfl (hb hby at_106) rfl k) ?_
      show own_Wp p e below _ T16 (mkF m 108 #[.val (.int p0), .val (.int p1), .val (.int p2), .val (.int (1 : Int32)), .val (.ref (w3_DATABASE_INSTANCE Z)), .val (.int (0 : Int32)), .val (.ref (w4_MONTH Z)), .val (.int (9 : Int32)), .unset, .unset] [(.int (9 : Int32)), (.int (p2 &&& (2147483647 : Int32))), (.int (1 : Int32))])
      refine own_step (fun _ k => iremM (g := (mkF m 108 #[.val (.int p0), .val (.int p1), .val (.int p2), .val (.int (1 : Int32)), .val (.ref (w3_DATABASE_INSTANCE Z)), .val (.int (0 : Int32)), .val (.ref (w4_MONTH Z)), .val (.int (9 : Int32)), .unset, .unset] [(.int (9 : Int32)), (.int (p2 &&& (2147483647 : Int32))), (.int (1 : Int32))])) X16 hx rfl (hb hby at_108) rfl (by decide) k) ?_
      show own_Wp p e below _ T16 (mkF m 109 #[.val (.int p0), .val (.int p1), .val (.int p2), .val (.int (1 : Int32)), .val (.ref (w3_DATABASE_INSTANCE Z)), .val (.int (0 : Int32)), .val (.ref (w4_MONTH Z)), .val (.int (9 : Int32)), .unset, .unset] [(.int ((p2 &&& (2147483647 : Int32)) % (9 : Int32))), (.int (1 : Int32))])
      refine own_step (fun _ k => XS.iadd X16.here hx rfl (hb hby at_109) rfl k) ?_
      show own_Wp p e below _ T16 (mkF m 110 #[.val (.int p0), .val (.int p1), .val (.int p2), .val (.int (1 : Int32)), .val (.ref (w3_DATABASE_INSTANCE Z)), .val (.int (0 : Int32)), .val (.ref (w4_MONTH Z)), .val (.int (9 : Int32)), .unset, .unset] [(.int ((1 : Int32) + ((p2 &&& (2147483647 : Int32)) % (9 : Int32))))])
      have hr1 : ¬ (((1 : Int32) + ((p2 &&& (2147483647 : Int32)) % (9 : Int32))) < (1 : Int32)) := own_r1 p2 (n := (9 : Int32)) (by decide) (by decide)
      have hr2 : ¬ ((9 : Int32) < ((1 : Int32) + ((p2 &&& (2147483647 : Int32)) % (9 : Int32)))) := own_r2 p2 (n := (9 : Int32)) (by decide) (by decide)
      refine own_step (fun _ k => XS.istore X16.here hx rfl (hb hby at_110) rfl (l' := #[.val (.int p0), .val (.int p1), .val (.int p2), .val (.int (1 : Int32)), .val (.ref (w3_DATABASE_INSTANCE Z)), .val (.int (0 : Int32)), .val (.ref (w4_MONTH Z)), .val (.int (9 : Int32)), .val (.int ((1 : Int32) + ((p2 &&& (2147483647 : Int32)) % (9 : Int32)))), .unset]) rfl k) ?_
      show own_Wp p e below _ T16 (mkF m 112 #[.val (.int p0), .val (.int p1), .val (.int p2), .val (.int (1 : Int32)), .val (.ref (w3_DATABASE_INSTANCE Z)), .val (.int (0 : Int32)), .val (.ref (w4_MONTH Z)), .val (.int (9 : Int32)), .val (.int ((1 : Int32) + ((p2 &&& (2147483647 : Int32)) % (9 : Int32)))), .unset] [])
      refine own_step (fun _ k => XS.aload X16.here hx rfl (hb hby at_112) rfl rfl k) ?_
      show own_Wp p e below _ T16 (mkF m 114 #[.val (.int p0), .val (.int p1), .val (.int p2), .val (.int (1 : Int32)), .val (.ref (w3_DATABASE_INSTANCE Z)), .val (.int (0 : Int32)), .val (.ref (w4_MONTH Z)), .val (.int (9 : Int32)), .val (.int ((1 : Int32) + ((p2 &&& (2147483647 : Int32)) % (9 : Int32)))), .unset] [(.ref (w3_DATABASE_INSTANCE Z))])
      refine own_step (fun _ k => XS.aload X16.here hx rfl (hb hby at_114) rfl rfl k) ?_
      show own_Wp p e below _ T16 (mkF m 116 #[.val (.int p0), .val (.int p1), .val (.int p2), .val (.int (1 : Int32)), .val (.ref (w3_DATABASE_INSTANCE Z)), .val (.int (0 : Int32)), .val (.ref (w4_MONTH Z)), .val (.int (9 : Int32)), .val (.int ((1 : Int32) + ((p2 &&& (2147483647 : Int32)) % (9 : Int32)))), .unset] [(.ref (w4_MONTH Z)), (.ref (w3_DATABASE_INSTANCE Z))])
      refine own_step (fun _ k => XS.iload X16.here hx rfl (hb hby at_116) rfl k) ?_
      show own_Wp p e below _ T16 (mkF m 118 #[.val (.int p0), .val (.int p1), .val (.int p2), .val (.int (1 : Int32)), .val (.ref (w3_DATABASE_INSTANCE Z)), .val (.int (0 : Int32)), .val (.ref (w4_MONTH Z)), .val (.int (9 : Int32)), .val (.int ((1 : Int32) + ((p2 &&& (2147483647 : Int32)) % (9 : Int32)))), .unset] [(.int ((1 : Int32) + ((p2 &&& (2147483647 : Int32)) % (9 : Int32)))), (.ref (w4_MONTH Z)), (.ref (w3_DATABASE_INSTANCE Z))])
      obtain ⟨_, T17, L17, X17, hS17, hZ17, hown17, hQ17, st17⟩ := own_callVW X16 hx hZ hS0 (Nat.zero_le _) hown (hw _ (List.mem_of_getElem? (i := 7) rfl)) (hw _ (List.mem_of_getElem? (i := 8) rfl)) (notFace_of_selects (args := #[]) (mvT hZ (hw _ (List.mem_of_getElem? (i := 10) rfl)))) (hw _ (List.mem_of_getElem? (i := 10) rfl)) (hw _ (List.mem_of_getElem? (i := 9) rfl)) (hw _ (List.mem_of_getElem? (i := 1) rfl)) (hw _ (List.mem_of_getElem? (i := 11) rfl)) (by decide) ((ex_w3_DATABASE_INSTANCE hw hA hF).ext O0.2) (rm1_4 l Z a0 hw hA hF [] (w3_DATABASE_INSTANCE Z) (w4_MONTH Z) ((1 : Int32) + ((p2 &&& (2147483647 : Int32)) % (9 : Int32))) h0 n0 O0 hr1 hr2 (fl2 hw hA hF) (ex_w4_MONTH hw hA hF) (fl3 hw hA hF)) (W := 0) (by decide) (by decide) [(.ref (w4_MONTH Z)), (.int ((1 : Int32) + ((p2 &&& (2147483647 : Int32)) % (9 : Int32))))] rfl (lenOf pd9 rfl) (Ls := #[.val (.int p0), .val (.int p1), .val (.int p2), .val (.int (1 : Int32)), .val (.ref (w3_DATABASE_INSTANCE Z)), .val (.int (0 : Int32)), .val (.ref (w4_MONTH Z)), .val (.int (9 : Int32)), .val (.int ((1 : Int32) + ((p2 &&& (2147483647 : Int32)) % (9 : Int32)))), .unset]) (by rw [hml]; rfl) (rest := []) (Nat.le_of_eq rfl) (hb hby at_118) e16 (by decide) (by decide)
      refine st17 _ ?_
      obtain ⟨b18, rfl, N17q, K17q, y17_0, F17_0, F17_1, F17_2⟩ := hQ17
      have N17 := Fr.app (Fr.nil n0) N17q
      have g17_0 : n0 ≤ b18 := Nat.le_trans (O0.1 ▸ O0.2.1) y17_0
      have u17_0 : h0.size ≤ b18 := Nat.le_trans (Nat.le_refl _) y17_0
      have O17 := O0.keep K17q all0
      have K17 : Keep h0 T17.heap [] := Keep.trans (Keep.refl h0 []) K17q all0
      show own_Wp p e below _ T17 (mkF m 121 #[.val (.int p0), .val (.int p1), .val (.int p2), .val (.int (1 : Int32)), .val (.ref (w3_DATABASE_INSTANCE Z)), .val (.int (0 : Int32)), .val (.ref (w4_MONTH Z)), .val (.int (9 : Int32)), .val (.int ((1 : Int32) + ((p2 &&& (2147483647 : Int32)) % (9 : Int32)))), .unset] [(.ref b18)])
      refine own_step (fun _ k => XS.astore X17.here hx rfl (hb hby at_121) rfl rfl (l' := #[.val (.int p0), .val (.int p1), .val (.int p2), .val (.int (1 : Int32)), .val (.ref (w3_DATABASE_INSTANCE Z)), .val (.int (0 : Int32)), .val (.ref (w4_MONTH Z)), .val (.int (9 : Int32)), .val (.int ((1 : Int32) + ((p2 &&& (2147483647 : Int32)) % (9 : Int32)))), .val (.ref b18)]) rfl k) ?_
      show own_Wp p e below _ T17 (mkF m 123 #[.val (.int p0), .val (.int p1), .val (.int p2), .val (.int (1 : Int32)), .val (.ref (w3_DATABASE_INSTANCE Z)), .val (.int (0 : Int32)), .val (.ref (w4_MONTH Z)), .val (.int (9 : Int32)), .val (.int ((1 : Int32) + ((p2 &&& (2147483647 : Int32)) % (9 : Int32)))), .val (.ref b18)] [])
      refine own_step (fun _ k => XS.aload X17.here hx rfl (hb hby at_123) rfl rfl k) ?_
      show own_Wp p e below _ T17 (mkF m 125 #[.val (.int p0), .val (.int p1), .val (.int p2), .val (.int (1 : Int32)), .val (.ref (w3_DATABASE_INSTANCE Z)), .val (.int (0 : Int32)), .val (.ref (w4_MONTH Z)), .val (.int (9 : Int32)), .val (.int ((1 : Int32) + ((p2 &&& (2147483647 : Int32)) % (9 : Int32)))), .val (.ref b18)] [(.ref b18)])
      refine own_step (fun _ k => XS.ifnullNo X17.here hx rfl (hb hby at_125) rfl k) ?_
      show own_Wp p e below _ T17 (mkF m 128 #[.val (.int p0), .val (.int p1), .val (.int p2), .val (.int (1 : Int32)), .val (.ref (w3_DATABASE_INSTANCE Z)), .val (.int (0 : Int32)), .val (.ref (w4_MONTH Z)), .val (.int (9 : Int32)), .val (.int ((1 : Int32) + ((p2 &&& (2147483647 : Int32)) % (9 : Int32)))), .val (.ref b18)] [])
      refine own_step (fun _ k => XS.aload X17.here hx rfl (hb hby at_128) rfl rfl k) ?_
      show own_Wp p e below _ T17 (mkF m 130 #[.val (.int p0), .val (.int p1), .val (.int p2), .val (.int (1 : Int32)), .val (.ref (w3_DATABASE_INSTANCE Z)), .val (.int (0 : Int32)), .val (.ref (w4_MONTH Z)), .val (.int (9 : Int32)), .val (.int ((1 : Int32) + ((p2 &&& (2147483647 : Int32)) % (9 : Int32)))), .val (.ref b18)] [(.ref b18)])
      obtain ⟨_, T19, L19, X19, hQ19, st19⟩ := own_callV X17 hx hZ17 hown17 (hw _ (List.mem_of_getElem? (i := 56) rfl)) (hw _ (List.mem_of_getElem? (i := 57) rfl)) (notFace_of_selects (args := #[]) (mvT hZ17 (hw _ (List.mem_of_getElem? (i := 59) rfl)))) (hw _ (List.mem_of_getElem? (i := 59) rfl)) (hw _ (List.mem_of_getElem? (i := 58) rfl)) (hw _ (List.mem_of_getElem? (i := 28) rfl)) (hw _ (List.mem_of_getElem? (i := 60) rfl)) (by decide) F17_0 (rm7_5 l Z a0 hw hA hF [] b18 T17.heap n0 O17 F17_1) (W := 0) (by decide) (by decide) [] rfl (lenOf pd10 rfl) (Ls := #[.val (.int p0), .val (.int p1), .val (.int p2), .val (.int (1 : Int32)), .val (.ref (w3_DATABASE_INSTANCE Z)), .val (.int (0 : Int32)), .val (.ref (w4_MONTH Z)), .val (.int (9 : Int32)), .val (.int ((1 : Int32) + ((p2 &&& (2147483647 : Int32)) % (9 : Int32)))), .val (.ref b18)]) (by rw [hml]; rfl) (rest := []) (Nat.le_of_eq rfl) (hb hby at_130) rfl (by decide) (by decide)
      refine st19 _ ?_
      obtain ⟨rfl, N19q, e19⟩ := hQ19
      have N19 := Fr.app N17 N19q
      show own_Wp p e below _ T19 (mkF m 133 #[.val (.int p0), .val (.int p1), .val (.int p2), .val (.int (1 : Int32)), .val (.ref (w3_DATABASE_INSTANCE Z)), .val (.int (0 : Int32)), .val (.ref (w4_MONTH Z)), .val (.int (9 : Int32)), .val (.int ((1 : Int32) + ((p2 &&& (2147483647 : Int32)) % (9 : Int32)))), .val (.ref b18)] [(.ref (w4_MONTH Z))])
      refine own_step (fun _ k => XS.aload X19.here hx rfl (hb hby at_133) rfl rfl k) ?_
      show own_Wp p e below _ T19 (mkF m 135 #[.val (.int p0), .val (.int p1), .val (.int p2), .val (.int (1 : Int32)), .val (.ref (w3_DATABASE_INSTANCE Z)), .val (.int (0 : Int32)), .val (.ref (w4_MONTH Z)), .val (.int (9 : Int32)), .val (.int ((1 : Int32) + ((p2 &&& (2147483647 : Int32)) % (9 : Int32)))), .val (.ref b18)] [(.ref (w4_MONTH Z)), (.ref (w4_MONTH Z))])
      refine own_step (fun _ k => Jvm.RoadKit.acmp (g := (mkF m 135 #[.val (.int p0), .val (.int p1), .val (.int p2), .val (.int (1 : Int32)), .val (.ref (w3_DATABASE_INSTANCE Z)), .val (.int (0 : Int32)), .val (.ref (w4_MONTH Z)), .val (.int (9 : Int32)), .val (.int ((1 : Int32) + ((p2 &&& (2147483647 : Int32)) % (9 : Int32)))), .val (.ref b18)] [(.ref (w4_MONTH Z)), (.ref (w4_MONTH Z))])) X19 hx rfl rfl rfl (pc0 := 135) (pc' := 138) (same := true) rfl (hb hby at_135) rfl (decide_eq_true rfl) (by decide) (by decide) k) ?_
      show own_Wp p e below _ T19 (mkF m 138 #[.val (.int p0), .val (.int p1), .val (.int p2), .val (.int (1 : Int32)), .val (.ref (w3_DATABASE_INSTANCE Z)), .val (.int (0 : Int32)), .val (.ref (w4_MONTH Z)), .val (.int (9 : Int32)), .val (.int ((1 : Int32) + ((p2 &&& (2147483647 : Int32)) % (9 : Int32)))), .val (.ref b18)] [])
      refine own_step (fun _ k => XS.aload X19.here hx rfl (hb hby at_138) rfl rfl k) ?_
      show own_Wp p e below _ T19 (mkF m 140 #[.val (.int p0), .val (.int p1), .val (.int p2), .val (.int (1 : Int32)), .val (.ref (w3_DATABASE_INSTANCE Z)), .val (.int (0 : Int32)), .val (.ref (w4_MONTH Z)), .val (.int (9 : Int32)), .val (.int ((1 : Int32) + ((p2 &&& (2147483647 : Int32)) % (9 : Int32)))), .val (.ref b18)] [(.ref b18)])
      obtain ⟨_, T20, L20, X20, hQ20, st20⟩ := own_callV X19 hx hZ17 hown17 (hw _ (List.mem_of_getElem? (i := 61) rfl)) (hw _ (List.mem_of_getElem? (i := 62) rfl)) (notFace_of_selects (args := #[]) (mvT hZ17 (hw _ (List.mem_of_getElem? (i := 64) rfl)))) (hw _ (List.mem_of_getElem? (i := 64) rfl)) (hw _ (List.mem_of_getElem? (i := 63) rfl)) (hw _ (List.mem_of_getElem? (i := 28) rfl)) (hw _ (List.mem_of_getElem? (i := 65) rfl)) (by decide) F17_0 (rm8_6 l Z a0 hw hA hF [] b18 ((1 : Int32) + ((p2 &&& (2147483647 : Int32)) % (9 : Int32))) T17.heap n0 O17 F17_2) (W := 0) (by decide) (by decide) [] rfl (lenOf pd1 rfl) (Ls := #[.val (.int p0), .val (.int p1), .val (.int p2), .val (.int (1 : Int32)), .val (.ref (w3_DATABASE_INSTANCE Z)), .val (.int (0 : Int32)), .val (.ref (w4_MONTH Z)), .val (.int (9 : Int32)), .val (.int ((1 : Int32) + ((p2 &&& (2147483647 : Int32)) % (9 : Int32)))), .val (.ref b18)]) (by rw [hml]; rfl) (rest := []) (Nat.le_of_eq rfl) (hb hby at_140) e19 (by decide) (by decide)
      refine st20 _ ?_
      obtain ⟨rfl, N20q, e20⟩ := hQ20
      have N20 := Fr.app N19 N20q
      show own_Wp p e below _ T20 (mkF m 143 #[.val (.int p0), .val (.int p1), .val (.int p2), .val (.int (1 : Int32)), .val (.ref (w3_DATABASE_INSTANCE Z)), .val (.int (0 : Int32)), .val (.ref (w4_MONTH Z)), .val (.int (9 : Int32)), .val (.int ((1 : Int32) + ((p2 &&& (2147483647 : Int32)) % (9 : Int32)))), .val (.ref b18)] [(.int ((1 : Int32) + ((p2 &&& (2147483647 : Int32)) % (9 : Int32))))])
      refine own_step (fun _ k => XS.iload X20.here hx rfl (hb hby at_143) rfl k) ?_
      show own_Wp p e below _ T20 (mkF m 145 #[.val (.int p0), .val (.int p1), .val (.int p2), .val (.int (1 : Int32)), .val (.ref (w3_DATABASE_INSTANCE Z)), .val (.int (0 : Int32)), .val (.ref (w4_MONTH Z)), .val (.int (9 : Int32)), .val (.int ((1 : Int32) + ((p2 &&& (2147483647 : Int32)) % (9 : Int32)))), .val (.ref b18)] [(.int ((1 : Int32) + ((p2 &&& (2147483647 : Int32)) % (9 : Int32)))), (.int ((1 : Int32) + ((p2 &&& (2147483647 : Int32)) % (9 : Int32))))])
      refine own_step (fun _ k => XS.icmpNo X20.here hx rfl (hb hby at_145) rfl (teq (rfl : ((1 : Int32) + ((p2 &&& (2147483647 : Int32)) % (9 : Int32))) = ((1 : Int32) + ((p2 &&& (2147483647 : Int32)) % (9 : Int32))))).2 k) ?_
      show own_Wp p e below _ T20 (mkF m 148 #[.val (.int p0), .val (.int p1), .val (.int p2), .val (.int (1 : Int32)), .val (.ref (w3_DATABASE_INSTANCE Z)), .val (.int (0 : Int32)), .val (.ref (w4_MONTH Z)), .val (.int (9 : Int32)), .val (.int ((1 : Int32) + ((p2 &&& (2147483647 : Int32)) % (9 : Int32)))), .val (.ref b18)] [])
      refine own_step (fun _ k => XS.iconst X20.here hx rfl (hb hby at_148) k) ?_
      show own_Wp p e below _ T20 (mkF m 149 #[.val (.int p0), .val (.int p1), .val (.int p2), .val (.int (1 : Int32)), .val (.ref (w3_DATABASE_INSTANCE Z)), .val (.int (0 : Int32)), .val (.ref (w4_MONTH Z)), .val (.int (9 : Int32)), .val (.int ((1 : Int32) + ((p2 &&& (2147483647 : Int32)) % (9 : Int32)))), .val (.ref b18)] [(.int (1 : Int32))])
      refine own_step (fun _ k => XS.goto X20.here hx rfl (pc0 := 149) (pc' := 153) rfl (hb hby at_149) (by decide) (by decide) k) ?_
      show own_Wp p e below _ T20 (mkF m 153 #[.val (.int p0), .val (.int p1), .val (.int p2), .val (.int (1 : Int32)), .val (.ref (w3_DATABASE_INSTANCE Z)), .val (.int (0 : Int32)), .val (.ref (w4_MONTH Z)), .val (.int (9 : Int32)), .val (.int ((1 : Int32) + ((p2 &&& (2147483647 : Int32)) % (9 : Int32)))), .val (.ref b18)] [(.int (1 : Int32))])
      exact own_retNW X20 hS17 (by rw [e20]; exact (Nat.le_refl _)) hx (t := .boolean) hret (by simp) hlk (hb hby at_153) (by decide) (by decide) ⟨rfl, N20⟩
    · skip
      refine own_step (fun _ k => XS.ifNo X14.here hx rfl (hb hby at_50) rfl ((if0 _ _).trans (feq hc15).1) k) ?_
      show own_Wp p e below _ T14 (mkF m 53 #[.val (.int p0), .val (.int p1), .val (.int p2), .val (.int (1 : Int32)), .val (.ref (w3_DATABASE_INSTANCE Z)), .unset, .unset, .unset, .unset, .unset] [])
      refine own_step (fun _ k => XS.iconst X14.here hx rfl (hb hby at_53) k) ?_
      show own_Wp p e below _ T14 (mkF m 54 #[.val (.int p0), .val (.int p1), .val (.int p2), .val (.int (1 : Int32)), .val (.ref (w3_DATABASE_INSTANCE Z)), .unset, .unset, .unset, .unset, .unset] [(.int (1 : Int32))])
      refine own_step (fun _ k => XS.goto X14.here hx rfl (pc0 := 54) (pc' := 58) rfl (hb hby at_54) (by decide) (by decide) k) ?_
      show own_Wp p e below _ T14 (mkF m 58 #[.val (.int p0), .val (.int p1), .val (.int p2), .val (.int (1 : Int32)), .val (.ref (w3_DATABASE_INSTANCE Z)), .unset, .unset, .unset, .unset, .unset] [(.int (1 : Int32))])
      refine own_step (fun _ k => XS.istore X14.here hx rfl (hb hby at_58) rfl (l' := #[.val (.int p0), .val (.int p1), .val (.int p2), .val (.int (1 : Int32)), .val (.ref (w3_DATABASE_INSTANCE Z)), .val (.int (1 : Int32)), .unset, .unset, .unset, .unset]) rfl k) ?_
      show own_Wp p e below _ T14 (mkF m 60 #[.val (.int p0), .val (.int p1), .val (.int p2), .val (.int (1 : Int32)), .val (.ref (w3_DATABASE_INSTANCE Z)), .val (.int (1 : Int32)), .unset, .unset, .unset, .unset] [])
      refine own_step (fun _ k => XS.iload X14.here hx rfl (hb hby at_60) rfl k) ?_
      show own_Wp p e below _ T14 (mkF m 62 #[.val (.int p0), .val (.int p1), .val (.int p2), .val (.int (1 : Int32)), .val (.ref (w3_DATABASE_INSTANCE Z)), .val (.int (1 : Int32)), .unset, .unset, .unset, .unset] [(.int (1 : Int32))])
      refine own_step (fun _ k => XS.ifNo X14.here hx rfl (hb hby at_62) rfl (by decide) k) ?_
      show own_Wp p e below _ T14 (mkF m 65 #[.val (.int p0), .val (.int p1), .val (.int p2), .val (.int (1 : Int32)), .val (.ref (w3_DATABASE_INSTANCE Z)), .val (.int (1 : Int32)), .unset, .unset, .unset, .unset] [])
      obtain ⟨T21, X21, e21, st21⟩ := getS2 X14 hx hZ hown (host := "") (Or.inl (hw _ (List.mem_of_getElem? (i := 3) rfl))) Via.refl e14 ((st_w1_YEAR hw hA hF).ext O0.2) (g := (mkF m 65 #[.val (.int p0), .val (.int p1), .val (.int p2), .val (.int (1 : Int32)), .val (.ref (w3_DATABASE_INSTANCE Z)), .val (.int (1 : Int32)), .unset, .unset, .unset, .unset] [])) rfl (hb hby at_65)
      refine own_step st21 ?_
      show own_Wp p e below _ T21 (mkF m 68 #[.val (.int p0), .val (.int p1), .val (.int p2), .val (.int (1 : Int32)), .val (.ref (w3_DATABASE_INSTANCE Z)), .val (.int (1 : Int32)), .unset, .unset, .unset, .unset] [(.ref (w1_YEAR Z))])
      refine own_step (fun _ k => XS.goto X21.here hx rfl (pc0 := 68) (pc' := 74) rfl (hb hby at_68) (by decide) (by decide) k) ?_
      show own_Wp p e below _ T21 (mkF m 74 #[.val (.int p0), .val (.int p1), .val (.int p2), .val (.int (1 : Int32)), .val (.ref (w3_DATABASE_INSTANCE Z)), .val (.int (1 : Int32)), .unset, .unset, .unset, .unset] [(.ref (w1_YEAR Z))])
      refine own_step (fun _ k => XS.astore X21.here hx rfl (hb hby at_74) rfl rfl (l' := #[.val (.int p0), .val (.int p1), .val (.int p2), .val (.int (1 : Int32)), .val (.ref (w3_DATABASE_INSTANCE Z)), .val (.int (1 : Int32)), .val (.ref (w1_YEAR Z)), .unset, .unset, .unset]) rfl k) ?_
      show own_Wp p e below _ T21 (mkF m 76 #[.val (.int p0), .val (.int p1), .val (.int p2), .val (.int (1 : Int32)), .val (.ref (w3_DATABASE_INSTANCE Z)), .val (.int (1 : Int32)), .val (.ref (w1_YEAR Z)), .unset, .unset, .unset] [])
      refine own_step (fun _ k => XS.iload X21.here hx rfl (hb hby at_76) rfl k) ?_
      show own_Wp p e below _ T21 (mkF m 78 #[.val (.int p0), .val (.int p1), .val (.int p2), .val (.int (1 : Int32)), .val (.ref (w3_DATABASE_INSTANCE Z)), .val (.int (1 : Int32)), .val (.ref (w1_YEAR Z)), .unset, .unset, .unset] [(.int (1 : Int32))])
      refine own_step (fun _ k => XS.ifNo X21.here hx rfl (hb hby at_78) rfl (by decide) k) ?_
      show own_Wp p e below _ T21 (mkF m 81 #[.val (.int p0), .val (.int p1), .val (.int p2), .val (.int (1 : Int32)), .val (.ref (w3_DATABASE_INSTANCE Z)), .val (.int (1 : Int32)), .val (.ref (w1_YEAR Z)), .unset, .unset, .unset] [])
      refine own_step (fun _ k => XS.iloadN X21.here hx rfl (hb hby at_81) rfl k) ?_
      show own_Wp p e below _ T21 (mkF m 82 #[.val (.int p0), .val (.int p1), .val (.int p2), .val (.int (1 : Int32)), .val (.ref (w3_DATABASE_INSTANCE Z)), .val (.int (1 : Int32)), .val (.ref (w1_YEAR Z)), .unset, .unset, .unset] [(.int (1 : Int32))])
      refine own_step (fun _ k => XS.iconst X21.here hx rfl (hb hby at_82) k) ?_
      show own_Wp p e below _ T21 (mkF m 83 #[.val (.int p0), .val (.int p1), .val (.int p2), .val (.int (1 : Int32)), .val (.ref (w3_DATABASE_INSTANCE Z)), .val (.int (1 : Int32)), .val (.ref (w1_YEAR Z)), .unset, .unset, .unset] [(.int (1 : Int32)), (.int (1 : Int32))])
      refine own_step (fun _ k => XS.icmpNo X21.here hx rfl (hb hby at_83) rfl (by decide) k) ?_
      show own_Wp p e below _ T21 (mkF m 86 #[.val (.int p0), .val (.int p1), .val (.int p2), .val (.int (1 : Int32)), .val (.ref (w3_DATABASE_INSTANCE Z)), .val (.int (1 : Int32)), .val (.ref (w1_YEAR Z)), .unset, .unset, .unset] [])
      refine own_step (fun _ k => XS.iconst X21.here hx rfl (hb hby at_86) k) ?_
      show own_Wp p e below _ T21 (mkF m 87 #[.val (.int p0), .val (.int p1), .val (.int p2), .val (.int (1 : Int32)), .val (.ref (w3_DATABASE_INSTANCE Z)), .val (.int (1 : Int32)), .val (.ref (w1_YEAR Z)), .unset, .unset, .unset] [(.int (3 : Int32))])
      refine own_step (fun _ k => XS.goto X21.here hx rfl (pc0 := 87) (pc' := 92) rfl (hb hby at_87) (by decide) (by decide) k) ?_
      show own_Wp p e below _ T21 (mkF m 92 #[.val (.int p0), .val (.int p1), .val (.int p2), .val (.int (1 : Int32)), .val (.ref (w3_DATABASE_INSTANCE Z)), .val (.int (1 : Int32)), .val (.ref (w1_YEAR Z)), .unset, .unset, .unset] [(.int (3 : Int32))])
      refine own_step (fun _ k => XS.istore X21.here hx rfl (hb hby at_92) rfl (l' := #[.val (.int p0), .val (.int p1), .val (.int p2), .val (.int (1 : Int32)), .val (.ref (w3_DATABASE_INSTANCE Z)), .val (.int (1 : Int32)), .val (.ref (w1_YEAR Z)), .val (.int (3 : Int32)), .unset, .unset]) rfl k) ?_
      show own_Wp p e below _ T21 (mkF m 94 #[.val (.int p0), .val (.int p1), .val (.int p2), .val (.int (1 : Int32)), .val (.ref (w3_DATABASE_INSTANCE Z)), .val (.int (1 : Int32)), .val (.ref (w1_YEAR Z)), .val (.int (3 : Int32)), .unset, .unset] [])
      refine own_step (fun _ k => XS.goto X21.here hx rfl (pc0 := 94) (pc' := 101) rfl (hb hby at_94) (by decide) (by decide) k) ?_
      show own_Wp p e below _ T21 (mkF m 101 #[.val (.int p0), .val (.int p1), .val (.int p2), .val (.int (1 : Int32)), .val (.ref (w3_DATABASE_INSTANCE Z)), .val (.int (1 : Int32)), .val (.ref (w1_YEAR Z)), .val (.int (3 : Int32)), .unset, .unset] [])
      refine own_step (fun _ k => XS.iconst X21.here hx rfl (hb hby at_101) k) ?_
      show own_Wp p e below _ T21 (mkF m 102 #[.val (.int p0), .val (.int p1), .val (.int p2), .val (.int (1 : Int32)), .val (.ref (w3_DATABASE_INSTANCE Z)), .val (.int (1 : Int32)), .val (.ref (w1_YEAR Z)), .val (.int (3 : Int32)), .unset, .unset] [(.int (1 : Int32))])
      refine own_step (fun _ k => XS.iloadN X21.here hx rfl (hb hby at_102) rfl k) ?_
      show own_Wp p e below _ T21 (mkF m 103 #[.val (.int p0), .val (.int p1), .val (.int p2), .val (.int (1 : Int32)), .val (.ref (w3_DATABASE_INSTANCE Z)), .val (.int (1 : Int32)), .val (.ref (w1_YEAR Z)), .val (.int (3 : Int32)), .unset, .unset] [(.int p2), (.int (1 : Int32))])
      refine own_step (X21.ldcInt hx hown (mvT hZ (hw _ (List.mem_of_getElem? (i := 6) rfl))) (g := (mkF m 103 #[.val (.int p0), .val (.int p1), .val (.int p2), .val (.int (1 : Int32)), .val (.ref (w3_DATABASE_INSTANCE Z)), .val (.int (1 : Int32)), .val (.ref (w1_YEAR Z)), .val (.int (3 : Int32)), .unset, .unset] [(.int p2), (.int (1 : Int32))])) rfl (hb hby at_103)) ?_
      show own_Wp p e below _ T21 (mkF m 105 #[.val (.int p0), .val (.int p1), .val (.int p2), .val (.int (1 : Int32)), .val (.ref (w3_DATABASE_INSTANCE Z)), .val (.int (1 : Int32)), .val (.ref (w1_YEAR Z)), .val (.int (3 : Int32)), .unset, .unset] [(.int (2147483647 : Int32)), (.int p2), (.int (1 : Int32))])
      refine own_step (fun _ k => XS.iand X21.here hx rfl (hb hby at_105) rfl k) ?_
      show own_Wp p e below _ T21 (mkF m 106 #[.val (.int p0), .val (.int p1), .val (.int p2), .val (.int (1 : Int32)), .val (.ref (w3_DATABASE_INSTANCE Z)), .val (.int (1 : Int32)), .val (.ref (w1_YEAR Z)), .val (.int (3 : Int32)), .unset, .unset] [(.int (p2 &&& (2147483647 : Int32))), (.int (1 : Int32))])
      refine own_step (fun _ k => XS.iload X21.here hx rfl (hb hby at_106) rfl k) ?_
      show own_Wp p e below _ T21 (mkF m 108 #[.val (.int p0), .val (.int p1), .val (.int p2), .val (.int (1 : Int32)), .val (.ref (w3_DATABASE_INSTANCE Z)), .val (.int (1 : Int32)), .val (.ref (w1_YEAR Z)), .val (.int (3 : Int32)), .unset, .unset] [(.int (3 : Int32)), (.int (p2 &&& (2147483647 : Int32))), (.int (1 : Int32))])
      refine own_step (fun _ k => iremM (g := (mkF m 108 #[.val (.int p0), .val (.int p1), .val (.int p2), .val (.int (1 : Int32)), .val (.ref (w3_DATABASE_INSTANCE Z)), .val (.int (1 : Int32)), .val (.ref (w1_YEAR Z)), .val (.int (3 : Int32)), .unset, .unset] [(.int (3 : Int32)), (.int (p2 &&& (2147483647 : Int32))), (.int (1 : Int32))])) X21 hx rfl (hb hby at_108) rfl (by decide) k) ?_
      show own_Wp p e below _ T21 (mkF m 109 #[.val (.int p0), .val (.int p1), .val (.int p2), .val (.int (1 : Int32)), .val (.ref (w3_DATABASE_INSTANCE Z)), .val (.int (1 : Int32)), .val (.ref (w1_YEAR Z)), .val (.int (3 : Int32)), .unset, .unset] [(.int ((p2 &&& (2147483647 : Int32)) % (3 : Int32))), (.int (1 : Int32))])
      refine own_step (fun _ k => XS.iadd X21.here hx rfl (hb hby at_109) rfl k) ?_
      show own_Wp p e below _ T21 (mkF m 110 #[.val (.int p0), .val (.int p1), .val (.int p2), .val (.int (1 : Int32)), .val (.ref (w3_DATABASE_INSTANCE Z)), .val (.int (1 : Int32)), .val (.ref (w1_YEAR Z)), .val (.int (3 : Int32)), .unset, .unset] [(.int ((1 : Int32) + ((p2 &&& (2147483647 : Int32)) % (3 : Int32))))])
      have hr1 : ¬ (((1 : Int32) + ((p2 &&& (2147483647 : Int32)) % (3 : Int32))) < (1 : Int32)) := own_r1 p2 (n := (3 : Int32)) (by decide) (by decide)
      have hr2 : ¬ ((3 : Int32) < ((1 : Int32) + ((p2 &&& (2147483647 : Int32)) % (3 : Int32)))) := own_r2 p2 (n := (3 : Int32)) (by decide) (by decide)
      have hr3 : ¬ ((9 : Int32) < ((1 : Int32) + ((p2 &&& (2147483647 : Int32)) % (3 : Int32)))) := own_r3 hr2
      refine own_step (fun _ k => XS.istore X21.here hx rfl (hb hby at_110) rfl (l' := #[.val (.int p0), .val (.int p1), .val (.int p2), .val (.int (1 : Int32)), .val (.ref (w3_DATABASE_INSTANCE Z)), .val (.int (1 : Int32)), .val (.ref (w1_YEAR Z)), .val (.int (3 : Int32)), .val (.int ((1 : Int32) + ((p2 &&& (2147483647 : Int32)) % (3 : Int32)))), .unset]) rfl k) ?_
      show own_Wp p e below _ T21 (mkF m 112 #[.val (.int p0), .val (.int p1), .val (.int p2), .val (.int (1 : Int32)), .val (.ref (w3_DATABASE_INSTANCE Z)), .val (.int (1 : Int32)), .val (.ref (w1_YEAR Z)), .val (.int (3 : Int32)), .val (.int ((1 : Int32) + ((p2 &&& (2147483647 : Int32)) % (3 : Int32)))), .unset] [])
      refine own_step (fun _ k => XS.aload X21.here hx rfl (hb hby at_112) rfl rfl k) ?_
      show own_Wp p e below _ T21 (mkF m 114 #[.val (.int p0), .val (.int p1), .val (.int p2), .val (.int (1 : Int32)), .val (.ref (w3_DATABASE_INSTANCE Z)), .val (.int (1 : Int32)), .val (.ref (w1_YEAR Z)), .val (.int (3 : Int32)), .val (.int ((1 : Int32) + ((p2 &&& (2147483647 : Int32)) % (3 : Int32)))), .unset] [(.ref (w3_DATABASE_INSTANCE Z))])
      refine own_step (fun _ k => XS.aload X21.here hx rfl (hb hby at_114) rfl rfl k) ?_
      show own_Wp p e below _ T21 (mkF m 116 #[.val (.int p0), .val (.int p1), .val (.int p2), .val (.int (1 : Int32)), .val (.ref (w3_DATABASE_INSTANCE Z)), .val (.int (1 : Int32)), .val (.ref (w1_YEAR Z)), .val (.int (3 : Int32)), .val (.int ((1 : Int32) + ((p2 &&& (2147483647 : Int32)) % (3 : Int32)))), .unset] [(.ref (w1_YEAR Z)), (.ref (w3_DATABASE_INSTANCE Z))])
      refine own_step (fun _ k => XS.iload X21.here hx rfl (hb hby at_116) rfl k) ?_
      show own_Wp p e below _ T21 (mkF m 118 #[.val (.int p0), .val (.int p1), .val (.int p2), .val (.int (1 : Int32)), .val (.ref (w3_DATABASE_INSTANCE Z)), .val (.int (1 : Int32)), .val (.ref (w1_YEAR Z)), .val (.int (3 : Int32)), .val (.int ((1 : Int32) + ((p2 &&& (2147483647 : Int32)) % (3 : Int32)))), .unset] [(.int ((1 : Int32) + ((p2 &&& (2147483647 : Int32)) % (3 : Int32)))), (.ref (w1_YEAR Z)), (.ref (w3_DATABASE_INSTANCE Z))])
      obtain ⟨_, T22, L22, X22, hS22, hZ22, hown22, hQ22, st22⟩ := own_callVW X21 hx hZ hS0 (Nat.zero_le _) hown (hw _ (List.mem_of_getElem? (i := 7) rfl)) (hw _ (List.mem_of_getElem? (i := 8) rfl)) (notFace_of_selects (args := #[]) (mvT hZ (hw _ (List.mem_of_getElem? (i := 10) rfl)))) (hw _ (List.mem_of_getElem? (i := 10) rfl)) (hw _ (List.mem_of_getElem? (i := 9) rfl)) (hw _ (List.mem_of_getElem? (i := 1) rfl)) (hw _ (List.mem_of_getElem? (i := 11) rfl)) (by decide) ((ex_w3_DATABASE_INSTANCE hw hA hF).ext O0.2) (rm1_8 l Z a0 hw hA hF [] (w3_DATABASE_INSTANCE Z) (w1_YEAR Z) ((1 : Int32) + ((p2 &&& (2147483647 : Int32)) % (3 : Int32))) h0 n0 O0 hr1 hr2 (fl0 hw hA hF) (ex_w1_YEAR hw hA hF) (fl9 hw hA hF)) (W := 0) (by decide) (by decide) [(.ref (w1_YEAR Z)), (.int ((1 : Int32) + ((p2 &&& (2147483647 : Int32)) % (3 : Int32))))] rfl (lenOf pd9 rfl) (Ls := #[.val (.int p0), .val (.int p1), .val (.int p2), .val (.int (1 : Int32)), .val (.ref (w3_DATABASE_INSTANCE Z)), .val (.int (1 : Int32)), .val (.ref (w1_YEAR Z)), .val (.int (3 : Int32)), .val (.int ((1 : Int32) + ((p2 &&& (2147483647 : Int32)) % (3 : Int32)))), .unset]) (by rw [hml]; rfl) (rest := []) (Nat.le_of_eq rfl) (hb hby at_118) e21 (by decide) (by decide)
      refine st22 _ ?_
      obtain ⟨b23, rfl, N22q, K22q, y22_0, F22_0, F22_1, F22_2⟩ := hQ22
      have N22 := Fr.app (Fr.nil n0) N22q
      have g22_0 : n0 ≤ b23 := Nat.le_trans (O0.1 ▸ O0.2.1) y22_0
      have u22_0 : h0.size ≤ b23 := Nat.le_trans (Nat.le_refl _) y22_0
      have O22 := O0.keep K22q all0
      have K22 : Keep h0 T22.heap [] := Keep.trans (Keep.refl h0 []) K22q all0
      show own_Wp p e below _ T22 (mkF m 121 #[.val (.int p0), .val (.int p1), .val (.int p2), .val (.int (1 : Int32)), .val (.ref (w3_DATABASE_INSTANCE Z)), .val (.int (1 : Int32)), .val (.ref (w1_YEAR Z)), .val (.int (3 : Int32)), .val (.int ((1 : Int32) + ((p2 &&& (2147483647 : Int32)) % (3 : Int32)))), .unset] [(.ref b23)])
      refine own_step (fun _ k => XS.astore X22.here hx rfl (hb hby at_121) rfl rfl (l' := #[.val (.int p0), .val (.int p1), .val (.int p2), .val (.int (1 : Int32)), .val (.ref (w3_DATABASE_INSTANCE Z)), .val (.int (1 : Int32)), .val (.ref (w1_YEAR Z)), .val (.int (3 : Int32)), .val (.int ((1 : Int32) + ((p2 &&& (2147483647 : Int32)) % (3 : Int32)))), .val (.ref b23)]) rfl k) ?_
      show own_Wp p e below _ T22 (mkF m 123 #[.val (.int p0), .val (.int p1), .val (.int p2), .val (.int (1 : Int32)), .val (.ref (w3_DATABASE_INSTANCE Z)), .val (.int (1 : Int32)), .val (.ref (w1_YEAR Z)), .val (.int (3 : Int32)), .val (.int ((1 : Int32) + ((p2 &&& (2147483647 : Int32)) % (3 : Int32)))), .val (.ref b23)] [])
      refine own_step (fun _ k => XS.aload X22.here hx rfl (hb hby at_123) rfl rfl k) ?_
      show own_Wp p e below _ T22 (mkF m 125 #[.val (.int p0), .val (.int p1), .val (.int p2), .val (.int (1 : Int32)), .val (.ref (w3_DATABASE_INSTANCE Z)), .val (.int (1 : Int32)), .val (.ref (w1_YEAR Z)), .val (.int (3 : Int32)), .val (.int ((1 : Int32) + ((p2 &&& (2147483647 : Int32)) % (3 : Int32)))), .val (.ref b23)] [(.ref b23)])
      refine own_step (fun _ k => XS.ifnullNo X22.here hx rfl (hb hby at_125) rfl k) ?_
      show own_Wp p e below _ T22 (mkF m 128 #[.val (.int p0), .val (.int p1), .val (.int p2), .val (.int (1 : Int32)), .val (.ref (w3_DATABASE_INSTANCE Z)), .val (.int (1 : Int32)), .val (.ref (w1_YEAR Z)), .val (.int (3 : Int32)), .val (.int ((1 : Int32) + ((p2 &&& (2147483647 : Int32)) % (3 : Int32)))), .val (.ref b23)] [])
      refine own_step (fun _ k => XS.aload X22.here hx rfl (hb hby at_128) rfl rfl k) ?_
      show own_Wp p e below _ T22 (mkF m 130 #[.val (.int p0), .val (.int p1), .val (.int p2), .val (.int (1 : Int32)), .val (.ref (w3_DATABASE_INSTANCE Z)), .val (.int (1 : Int32)), .val (.ref (w1_YEAR Z)), .val (.int (3 : Int32)), .val (.int ((1 : Int32) + ((p2 &&& (2147483647 : Int32)) % (3 : Int32)))), .val (.ref b23)] [(.ref b23)])
      obtain ⟨_, T24, L24, X24, hQ24, st24⟩ := own_callV X22 hx hZ22 hown22 (hw _ (List.mem_of_getElem? (i := 56) rfl)) (hw _ (List.mem_of_getElem? (i := 57) rfl)) (notFace_of_selects (args := #[]) (mvT hZ22 (hw _ (List.mem_of_getElem? (i := 59) rfl)))) (hw _ (List.mem_of_getElem? (i := 59) rfl)) (hw _ (List.mem_of_getElem? (i := 58) rfl)) (hw _ (List.mem_of_getElem? (i := 28) rfl)) (hw _ (List.mem_of_getElem? (i := 60) rfl)) (by decide) F22_0 (rm7_9 l Z a0 hw hA hF [] b23 T22.heap n0 O22 F22_1) (W := 0) (by decide) (by decide) [] rfl (lenOf pd10 rfl) (Ls := #[.val (.int p0), .val (.int p1), .val (.int p2), .val (.int (1 : Int32)), .val (.ref (w3_DATABASE_INSTANCE Z)), .val (.int (1 : Int32)), .val (.ref (w1_YEAR Z)), .val (.int (3 : Int32)), .val (.int ((1 : Int32) + ((p2 &&& (2147483647 : Int32)) % (3 : Int32)))), .val (.ref b23)]) (by rw [hml]; rfl) (rest := []) (Nat.le_of_eq rfl) (hb hby at_130) rfl (by decide) (by decide)
      refine st24 _ ?_
      obtain ⟨rfl, N24q, e24⟩ := hQ24
      have N24 := Fr.app N22 N24q
      show own_Wp p e below _ T24 (mkF m 133 #[.val (.int p0), .val (.int p1), .val (.int p2), .val (.int (1 : Int32)), .val (.ref (w3_DATABASE_INSTANCE Z)), .val (.int (1 : Int32)), .val (.ref (w1_YEAR Z)), .val (.int (3 : Int32)), .val (.int ((1 : Int32) + ((p2 &&& (2147483647 : Int32)) % (3 : Int32)))), .val (.ref b23)] [(.ref (w1_YEAR Z))])
      refine own_step (fun _ k => XS.aload X24.here hx rfl (hb hby at_133) rfl rfl k) ?_
      show own_Wp p e below _ T24 (mkF m 135 #[.val (.int p0), .val (.int p1), .val (.int p2), .val (.int (1 : Int32)), .val (.ref (w3_DATABASE_INSTANCE Z)), .val (.int (1 : Int32)), .val (.ref (w1_YEAR Z)), .val (.int (3 : Int32)), .val (.int ((1 : Int32) + ((p2 &&& (2147483647 : Int32)) % (3 : Int32)))), .val (.ref b23)] [(.ref (w1_YEAR Z)), (.ref (w1_YEAR Z))])
      refine own_step (fun _ k => Jvm.RoadKit.acmp (g := (mkF m 135 #[.val (.int p0), .val (.int p1), .val (.int p2), .val (.int (1 : Int32)), .val (.ref (w3_DATABASE_INSTANCE Z)), .val (.int (1 : Int32)), .val (.ref (w1_YEAR Z)), .val (.int (3 : Int32)), .val (.int ((1 : Int32) + ((p2 &&& (2147483647 : Int32)) % (3 : Int32)))), .val (.ref b23)] [(.ref (w1_YEAR Z)), (.ref (w1_YEAR Z))])) X24 hx rfl rfl rfl (pc0 := 135) (pc' := 138) (same := true) rfl (hb hby at_135) rfl (decide_eq_true rfl) (by decide) (by decide) k) ?_
      show own_Wp p e below _ T24 (mkF m 138 #[.val (.int p0), .val (.int p1), .val (.int p2), .val (.int (1 : Int32)), .val (.ref (w3_DATABASE_INSTANCE Z)), .val (.int (1 : Int32)), .val (.ref (w1_YEAR Z)), .val (.int (3 : Int32)), .val (.int ((1 : Int32) + ((p2 &&& (2147483647 : Int32)) % (3 : Int32)))), .val (.ref b23)] [])
      refine own_step (fun _ k => XS.aload X24.here hx rfl (hb hby at_138) rfl rfl k) ?_
      show own_Wp p e below _ T24 (mkF m 140 #[.val (.int p0), .val (.int p1), .val (.int p2), .val (.int (1 : Int32)), .val (.ref (w3_DATABASE_INSTANCE Z)), .val (.int (1 : Int32)), .val (.ref (w1_YEAR Z)), .val (.int (3 : Int32)), .val (.int ((1 : Int32) + ((p2 &&& (2147483647 : Int32)) % (3 : Int32)))), .val (.ref b23)] [(.ref b23)])
      obtain ⟨_, T25, L25, X25, hQ25, st25⟩ := own_callV X24 hx hZ22 hown22 (hw _ (List.mem_of_getElem? (i := 61) rfl)) (hw _ (List.mem_of_getElem? (i := 62) rfl)) (notFace_of_selects (args := #[]) (mvT hZ22 (hw _ (List.mem_of_getElem? (i := 64) rfl)))) (hw _ (List.mem_of_getElem? (i := 64) rfl)) (hw _ (List.mem_of_getElem? (i := 63) rfl)) (hw _ (List.mem_of_getElem? (i := 28) rfl)) (hw _ (List.mem_of_getElem? (i := 65) rfl)) (by decide) F22_0 (rm8_6 l Z a0 hw hA hF [] b23 ((1 : Int32) + ((p2 &&& (2147483647 : Int32)) % (3 : Int32))) T22.heap n0 O22 F22_2) (W := 0) (by decide) (by decide) [] rfl (lenOf pd1 rfl) (Ls := #[.val (.int p0), .val (.int p1), .val (.int p2), .val (.int (1 : Int32)), .val (.ref (w3_DATABASE_INSTANCE Z)), .val (.int (1 : Int32)), .val (.ref (w1_YEAR Z)), .val (.int (3 : Int32)), .val (.int ((1 : Int32) + ((p2 &&& (2147483647 : Int32)) % (3 : Int32)))), .val (.ref b23)]) (by rw [hml]; rfl) (rest := []) (Nat.le_of_eq rfl) (hb hby at_140) e24 (by decide) (by decide)
      refine st25 _ ?_
      obtain ⟨rfl, N25q, e25⟩ := hQ25
      have N25 := Fr.app N24 N25q
      show own_Wp p e below _ T25 (mkF m 143 #[.val (.int p0), .val (.int p1), .val (.int p2), .val (.int (1 : Int32)), .val (.ref (w3_DATABASE_INSTANCE Z)), .val (.int (1 : Int32)), .val (.ref (w1_YEAR Z)), .val (.int (3 : Int32)), .val (.int ((1 : Int32) + ((p2 &&& (2147483647 : Int32)) % (3 : Int32)))), .val (.ref b23)] [(.int ((1 : Int32) + ((p2 &&& (2147483647 : Int32)) % (3 : Int32))))])
      refine own_step (fun _ k => XS.iload X25.here hx rfl (hb hby at_143) rfl k) ?_
      show own_Wp p e below _ T25 (mkF m 145 #[.val (.int p0), .val (.int p1), .val (.int p2), .val (.int (1 : Int32)), .val (.ref (w3_DATABASE_INSTANCE Z)), .val (.int (1 : Int32)), .val (.ref (w1_YEAR Z)), .val (.int (3 : Int32)), .val (.int ((1 : Int32) + ((p2 &&& (2147483647 : Int32)) % (3 : Int32)))), .val (.ref b23)] [(.int ((1 : Int32) + ((p2 &&& (2147483647 : Int32)) % (3 : Int32)))), (.int ((1 : Int32) + ((p2 &&& (2147483647 : Int32)) % (3 : Int32))))])
      refine own_step (fun _ k => XS.icmpNo X25.here hx rfl (hb hby at_145) rfl (teq (rfl : ((1 : Int32) + ((p2 &&& (2147483647 : Int32)) % (3 : Int32))) = ((1 : Int32) + ((p2 &&& (2147483647 : Int32)) % (3 : Int32))))).2 k) ?_
      show own_Wp p e below _ T25 (mkF m 148 #[.val (.int p0), .val (.int p1), .val (.int p2), .val (.int (1 : Int32)), .val (.ref (w3_DATABASE_INSTANCE Z)), .val (.int (1 : Int32)), .val (.ref (w1_YEAR Z)), .val (.int (3 : Int32)), .val (.int ((1 : Int32) + ((p2 &&& (2147483647 : Int32)) % (3 : Int32)))), .val (.ref b23)] [])
      refine own_step (fun _ k => XS.iconst X25.here hx rfl (hb hby at_148) k) ?_
      show own_Wp p e below _ T25 (mkF m 149 #[.val (.int p0), .val (.int p1), .val (.int p2), .val (.int (1 : Int32)), .val (.ref (w3_DATABASE_INSTANCE Z)), .val (.int (1 : Int32)), .val (.ref (w1_YEAR Z)), .val (.int (3 : Int32)), .val (.int ((1 : Int32) + ((p2 &&& (2147483647 : Int32)) % (3 : Int32)))), .val (.ref b23)] [(.int (1 : Int32))])
      refine own_step (fun _ k => XS.goto X25.here hx rfl (pc0 := 149) (pc' := 153) rfl (hb hby at_149) (by decide) (by decide) k) ?_
      show own_Wp p e below _ T25 (mkF m 153 #[.val (.int p0), .val (.int p1), .val (.int p2), .val (.int (1 : Int32)), .val (.ref (w3_DATABASE_INSTANCE Z)), .val (.int (1 : Int32)), .val (.ref (w1_YEAR Z)), .val (.int (3 : Int32)), .val (.int ((1 : Int32) + ((p2 &&& (2147483647 : Int32)) % (3 : Int32)))), .val (.ref b23)] [(.int (1 : Int32))])
      exact own_retNW X25 hS22 (by rw [e25]; exact (Nat.le_refl _)) hx (t := .boolean) hret (by simp) hlk (hb hby at_153) (by decide) (by decide) ⟨rfl, N25⟩
  · skip
    refine own_cast (g' := (mkF m 3 #[.val (.int p0), .val (.int p1), .val (.int p2), .unset, .unset, .unset, .unset, .unset, .unset, .unset] [(.int (2 : Int32))])) (by rw [hm1]) ?_
    show own_Wp p e below _ s₁ (mkF m 3 #[.val (.int p0), .val (.int p1), .val (.int p2), .unset, .unset, .unset, .unset, .unset, .unset, .unset] [(.int (2 : Int32))])
    refine own_step (fun _ k => XS.istoreN X0.here hx rfl (hb hby at_3) rfl (l' := #[.val (.int p0), .val (.int p1), .val (.int p2), .val (.int (2 : Int32)), .unset, .unset, .unset, .unset, .unset, .unset]) rfl k) ?_
    show own_Wp p e below _ s₁ (mkF m 4 #[.val (.int p0), .val (.int p1), .val (.int p2), .val (.int (2 : Int32)), .unset, .unset, .unset, .unset, .unset, .unset] [])
    refine own_step (fun _ k => XS.iloadN X0.here hx rfl (hb hby at_4) rfl k) ?_
    show own_Wp p e below _ s₁ (mkF m 5 #[.val (.int p0), .val (.int p1), .val (.int p2), .val (.int (2 : Int32)), .unset, .unset, .unset, .unset, .unset, .unset] [(.int (2 : Int32))])
    refine own_step (fun _ k => XS.ifYes X0.here hx rfl (pc0 := 5) (pc' := 16) rfl (hb hby at_5) rfl (by decide) (by decide) (by decide) k) ?_
    show own_Wp p e below _ s₁ (mkF m 16 #[.val (.int p0), .val (.int p1), .val (.int p2), .val (.int (2 : Int32)), .unset, .unset, .unset, .unset, .unset, .unset] [])
    refine own_step (fun _ k => XS.iloadN X0.here hx rfl (hb hby at_16) rfl k) ?_
    show own_Wp p e below _ s₁ (mkF m 17 #[.val (.int p0), .val (.int p1), .val (.int p2), .val (.int (2 : Int32)), .unset, .unset, .unset, .unset, .unset, .unset] [(.int (2 : Int32))])
    refine own_step (fun _ k => XS.iconst X0.here hx rfl (hb hby at_17) k) ?_
    show own_Wp p e below _ s₁ (mkF m 18 #[.val (.int p0), .val (.int p1), .val (.int p2), .val (.int (2 : Int32)), .unset, .unset, .unset, .unset, .unset, .unset] [(.int (1 : Int32)), (.int (2 : Int32))])
    refine own_step (fun _ k => XS.icmpYes X0.here hx rfl (pc0 := 18) (pc' := 29) rfl (hb hby at_18) rfl (by decide) (by decide) (by decide) k) ?_
    show own_Wp p e below _ s₁ (mkF m 29 #[.val (.int p0), .val (.int p1), .val (.int p2), .val (.int (2 : Int32)), .unset, .unset, .unset, .unset, .unset, .unset] [])
    refine own_step (fun _ k => XS.iloadN X0.here hx rfl (hb hby at_29) rfl k) ?_
    show own_Wp p e below _ s₁ (mkF m 30 #[.val (.int p0), .val (.int p1), .val (.int p2), .val (.int (2 : Int32)), .unset, .unset, .unset, .unset, .unset, .unset] [(.int (2 : Int32))])
    refine own_step (fun _ k => XS.iconst X0.here hx rfl (hb hby at_30) k) ?_
    show own_Wp p e below _ s₁ (mkF m 31 #[.val (.int p0), .val (.int p1), .val (.int p2), .val (.int (2 : Int32)), .unset, .unset, .unset, .unset, .unset, .unset] [(.int (2 : Int32)), (.int (2 : Int32))])
    refine own_step (fun _ k => XS.icmpNo X0.here hx rfl (hb hby at_31) rfl (by decide) k) ?_
    show own_Wp p e below _ s₁ (mkF m 34 #[.val (.int p0), .val (.int p1), .val (.int p2), .val (.int (2 : Int32)), .unset, .unset, .unset, .unset, .unset, .unset] [])
    obtain ⟨T26, X26, e26, st26⟩ := getS2 X0 hx hZ hown (host := "") (Or.inl (hw _ (List.mem_of_getElem? (i := 74) rfl))) Via.refl e0 ((st_w6_ELASTIC_IP hw hA hF).ext O0.2) (g := (mkF m 34 #[.val (.int p0), .val (.int p1), .val (.int p2), .val (.int (2 : Int32)), .unset, .unset, .unset, .unset, .unset, .unset] [])) rfl (hb hby at_34)
    refine own_step st26 ?_
    show own_Wp p e below _ T26 (mkF m 37 #[.val (.int p0), .val (.int p1), .val (.int p2), .val (.int (2 : Int32)), .unset, .unset, .unset, .unset, .unset, .unset] [(.ref (w6_ELASTIC_IP Z))])
    refine own_step (fun _ k => XS.astore X26.here hx rfl (hb hby at_37) rfl rfl (l' := #[.val (.int p0), .val (.int p1), .val (.int p2), .val (.int (2 : Int32)), .val (.ref (w6_ELASTIC_IP Z)), .unset, .unset, .unset, .unset, .unset]) rfl k) ?_
    show own_Wp p e below _ T26 (mkF m 39 #[.val (.int p0), .val (.int p1), .val (.int p2), .val (.int (2 : Int32)), .val (.ref (w6_ELASTIC_IP Z)), .unset, .unset, .unset, .unset, .unset] [])
    refine own_step (fun _ k => XS.goto X26.here hx rfl (pc0 := 39) (pc' := 47) rfl (hb hby at_39) (by decide) (by decide) k) ?_
    show own_Wp p e below _ T26 (mkF m 47 #[.val (.int p0), .val (.int p1), .val (.int p2), .val (.int (2 : Int32)), .val (.ref (w6_ELASTIC_IP Z)), .unset, .unset, .unset, .unset, .unset] [])
    refine own_step (fun _ k => XS.iloadN X26.here hx rfl (hb hby at_47) rfl k) ?_
    show own_Wp p e below _ T26 (mkF m 48 #[.val (.int p0), .val (.int p1), .val (.int p2), .val (.int (2 : Int32)), .val (.ref (w6_ELASTIC_IP Z)), .unset, .unset, .unset, .unset, .unset] [(.int p1)])
    refine own_step (fun _ k => XS.iconst X26.here hx rfl (hb hby at_48) k) ?_
    show own_Wp p e below _ T26 (mkF m 49 #[.val (.int p0), .val (.int p1), .val (.int p2), .val (.int (2 : Int32)), .val (.ref (w6_ELASTIC_IP Z)), .unset, .unset, .unset, .unset, .unset] [(.int (1 : Int32)), (.int p1)])
    refine own_step (fun _ k => XS.iand X26.here hx rfl (hb hby at_49) rfl k) ?_
    show own_Wp p e below _ T26 (mkF m 50 #[.val (.int p0), .val (.int p1), .val (.int p2), .val (.int (2 : Int32)), .val (.ref (w6_ELASTIC_IP Z)), .unset, .unset, .unset, .unset, .unset] [(.int (p1 &&& (1 : Int32)))])
    by_cases hc27 : (p1 &&& (1 : Int32)) = (0 : Int32)
    · skip
      refine own_step (fun _ k => XS.ifYes X26.here hx rfl (pc0 := 50) (pc' := 57) rfl (hb hby at_50) rfl ((if0 _ _).trans (teq hc27).1) (by decide) (by decide) k) ?_
      show own_Wp p e below _ T26 (mkF m 57 #[.val (.int p0), .val (.int p1), .val (.int p2), .val (.int (2 : Int32)), .val (.ref (w6_ELASTIC_IP Z)), .unset, .unset, .unset, .unset, .unset] [])
      refine own_step (fun _ k => XS.iconst X26.here hx rfl (hb hby at_57) k) ?_
      show own_Wp p e below _ T26 (mkF m 58 #[.val (.int p0), .val (.int p1), .val (.int p2), .val (.int (2 : Int32)), .val (.ref (w6_ELASTIC_IP Z)), .unset, .unset, .unset, .unset, .unset] [(.int (0 : Int32))])
      refine own_step (fun _ k => XS.istore X26.here hx rfl (hb hby at_58) rfl (l' := #[.val (.int p0), .val (.int p1), .val (.int p2), .val (.int (2 : Int32)), .val (.ref (w6_ELASTIC_IP Z)), .val (.int (0 : Int32)), .unset, .unset, .unset, .unset]) rfl k) ?_
      show own_Wp p e below _ T26 (mkF m 60 #[.val (.int p0), .val (.int p1), .val (.int p2), .val (.int (2 : Int32)), .val (.ref (w6_ELASTIC_IP Z)), .val (.int (0 : Int32)), .unset, .unset, .unset, .unset] [])
      refine own_step (fun _ k => XS.iload X26.here hx rfl (hb hby at_60) rfl k) ?_
      show own_Wp p e below _ T26 (mkF m 62 #[.val (.int p0), .val (.int p1), .val (.int p2), .val (.int (2 : Int32)), .val (.ref (w6_ELASTIC_IP Z)), .val (.int (0 : Int32)), .unset, .unset, .unset, .unset] [(.int (0 : Int32))])
      refine own_step (fun _ k => XS.ifYes X26.here hx rfl (pc0 := 62) (pc' := 71) rfl (hb hby at_62) rfl (by decide) (by decide) (by decide) k) ?_
      show own_Wp p e below _ T26 (mkF m 71 #[.val (.int p0), .val (.int p1), .val (.int p2), .val (.int (2 : Int32)), .val (.ref (w6_ELASTIC_IP Z)), .val (.int (0 : Int32)), .unset, .unset, .unset, .unset] [])
      obtain ⟨T28, X28, e28, st28⟩ := getS2 X26 hx hZ hown (host := "") (Or.inl (hw _ (List.mem_of_getElem? (i := 68) rfl))) Via.refl e26 ((st_w4_MONTH hw hA hF).ext O0.2) (g := (mkF m 71 #[.val (.int p0), .val (.int p1), .val (.int p2), .val (.int (2 : Int32)), .val (.ref (w6_ELASTIC_IP Z)), .val (.int (0 : Int32)), .unset, .unset, .unset, .unset] [])) rfl (hb hby at_71)
      refine own_step st28 ?_
      show own_Wp p e below _ T28 (mkF m 74 #[.val (.int p0), .val (.int p1), .val (.int p2), .val (.int (2 : Int32)), .val (.ref (w6_ELASTIC_IP Z)), .val (.int (0 : Int32)), .unset, .unset, .unset, .unset] [(.ref (w4_MONTH Z))])
      refine own_step (fun _ k => XS.astore X28.here hx rfl (hb hby at_74) rfl rfl (l' := #[.val (.int p0), .val (.int p1), .val (.int p2), .val (.int (2 : Int32)), .val (.ref (w6_ELASTIC_IP Z)), .val (.int (0 : Int32)), .val (.ref (w4_MONTH Z)), .unset, .unset, .unset]) rfl k) ?_
      show own_Wp p e below _ T28 (mkF m 76 #[.val (.int p0), .val (.int p1), .val (.int p2), .val (.int (2 : Int32)), .val (.ref (w6_ELASTIC_IP Z)), .val (.int (0 : Int32)), .val (.ref (w4_MONTH Z)), .unset, .unset, .unset] [])
      refine own_step (fun _ k => XS.iload X28.here hx rfl (hb hby at_76) rfl k) ?_
      show own_Wp p e below _ T28 (mkF m 78 #[.val (.int p0), .val (.int p1), .val (.int p2), .val (.int (2 : Int32)), .val (.ref (w6_ELASTIC_IP Z)), .val (.int (0 : Int32)), .val (.ref (w4_MONTH Z)), .unset, .unset, .unset] [(.int (0 : Int32))])
      refine own_step (fun _ k => XS.ifYes X28.here hx rfl (pc0 := 78) (pc' := 97) rfl (hb hby at_78) rfl (by decide) (by decide) (by decide) k) ?_
      show own_Wp p e below _ T28 (mkF m 97 #[.val (.int p0), .val (.int p1), .val (.int p2), .val (.int (2 : Int32)), .val (.ref (w6_ELASTIC_IP Z)), .val (.int (0 : Int32)), .val (.ref (w4_MONTH Z)), .unset, .unset, .unset] [])
      refine own_step (fun _ k => XS.bipush X28.here hx rfl (hb hby at_97) k) ?_
      show own_Wp p e below _ T28 (mkF m 99 #[.val (.int p0), .val (.int p1), .val (.int p2), .val (.int (2 : Int32)), .val (.ref (w6_ELASTIC_IP Z)), .val (.int (0 : Int32)), .val (.ref (w4_MONTH Z)), .unset, .unset, .unset] [(.int (9 : Int32))])
      refine own_step (fun _ k => XS.istore X28.here hx rfl (hb hby at_99) rfl (l' := #[.val (.int p0), .val (.int p1), .val (.int p2), .val (.int (2 : Int32)), .val (.ref (w6_ELASTIC_IP Z)), .val (.int (0 : Int32)), .val (.ref (w4_MONTH Z)), .val (.int (9 : Int32)), .unset, .unset]) rfl k) ?_
      show own_Wp p e below _ T28 (mkF m 101 #[.val (.int p0), .val (.int p1), .val (.int p2), .val (.int (2 : Int32)), .val (.ref (w6_ELASTIC_IP Z)), .val (.int (0 : Int32)), .val (.ref (w4_MONTH Z)), .val (.int (9 : Int32)), .unset, .unset] [])
      refine own_step (fun _ k => XS.iconst X28.here hx rfl (hb hby at_101) k) ?_
      show own_Wp p e below _ T28 (mkF m 102 #[.val (.int p0), .val (.int p1), .val (.int p2), .val (.int (2 : Int32)), .val (.ref (w6_ELASTIC_IP Z)), .val (.int (0 : Int32)), .val (.ref (w4_MONTH Z)), .val (.int (9 : Int32)), .unset, .unset] [(.int (1 : Int32))])
      refine own_step (fun _ k => XS.iloadN X28.here hx rfl (hb hby at_102) rfl k) ?_
      show own_Wp p e below _ T28 (mkF m 103 #[.val (.int p0), .val (.int p1), .val (.int p2), .val (.int (2 : Int32)), .val (.ref (w6_ELASTIC_IP Z)), .val (.int (0 : Int32)), .val (.ref (w4_MONTH Z)), .val (.int (9 : Int32)), .unset, .unset] [(.int p2), (.int (1 : Int32))])
      refine own_step (X28.ldcInt hx hown (mvT hZ (hw _ (List.mem_of_getElem? (i := 6) rfl))) (g := (mkF m 103 #[.val (.int p0), .val (.int p1), .val (.int p2), .val (.int (2 : Int32)), .val (.ref (w6_ELASTIC_IP Z)), .val (.int (0 : Int32)), .val (.ref (w4_MONTH Z)), .val (.int (9 : Int32)), .unset, .unset] [(.int p2), (.int (1 : Int32))])) rfl (hb hby at_103)) ?_
      show own_Wp p e below _ T28 (mkF m 105 #[.val (.int p0), .val (.int p1), .val (.int p2), .val (.int (2 : Int32)), .val (.ref (w6_ELASTIC_IP Z)), .val (.int (0 : Int32)), .val (.ref (w4_MONTH Z)), .val (.int (9 : Int32)), .unset, .unset] [(.int (2147483647 : Int32)), (.int p2), (.int (1 : Int32))])
      refine own_step (fun _ k => XS.iand X28.here hx rfl (hb hby at_105) rfl k) ?_
      show own_Wp p e below _ T28 (mkF m 106 #[.val (.int p0), .val (.int p1), .val (.int p2), .val (.int (2 : Int32)), .val (.ref (w6_ELASTIC_IP Z)), .val (.int (0 : Int32)), .val (.ref (w4_MONTH Z)), .val (.int (9 : Int32)), .unset, .unset] [(.int (p2 &&& (2147483647 : Int32))), (.int (1 : Int32))])
      refine own_step (fun _ k => XS.iload X28.here hx rfl (hb hby at_106) rfl k) ?_
      show own_Wp p e below _ T28 (mkF m 108 #[.val (.int p0), .val (.int p1), .val (.int p2), .val (.int (2 : Int32)), .val (.ref (w6_ELASTIC_IP Z)), .val (.int (0 : Int32)), .val (.ref (w4_MONTH Z)), .val (.int (9 : Int32)), .unset, .unset] [(.int (9 : Int32)), (.int (p2 &&& (2147483647 : Int32))), (.int (1 : Int32))])
      refine own_step (fun _ k => iremM (g := (mkF m 108 #[.val (.int p0), .val (.int p1), .val (.int p2), .val (.int (2 : Int32)), .val (.ref (w6_ELASTIC_IP Z)), .val (.int (0 : Int32)), .val (.ref (w4_MONTH Z)), .val (.int (9 : Int32)), .unset, .unset] [(.int (9 : Int32)), (.int (p2 &&& (2147483647 : Int32))), (.int (1 : Int32))])) X28 hx rfl (hb hby at_108) rfl (by decide) k) ?_
      show own_Wp p e below _ T28 (mkF m 109 #[.val (.int p0), .val (.int p1), .val (.int p2), .val (.int (2 : Int32)), .val (.ref (w6_ELASTIC_IP Z)), .val (.int (0 : Int32)), .val (.ref (w4_MONTH Z)), .val (.int (9 : Int32)), .unset, .unset] [(.int ((p2 &&& (2147483647 : Int32)) % (9 : Int32))), (.int (1 : Int32))])
      refine own_step (fun _ k => XS.iadd X28.here hx rfl (hb hby at_109) rfl k) ?_
      show own_Wp p e below _ T28 (mkF m 110 #[.val (.int p0), .val (.int p1), .val (.int p2), .val (.int (2 : Int32)), .val (.ref (w6_ELASTIC_IP Z)), .val (.int (0 : Int32)), .val (.ref (w4_MONTH Z)), .val (.int (9 : Int32)), .unset, .unset] [(.int ((1 : Int32) + ((p2 &&& (2147483647 : Int32)) % (9 : Int32))))])
      have hr1 : ¬ (((1 : Int32) + ((p2 &&& (2147483647 : Int32)) % (9 : Int32))) < (1 : Int32)) := own_r1 p2 (n := (9 : Int32)) (by decide) (by decide)
      have hr2 : ¬ ((9 : Int32) < ((1 : Int32) + ((p2 &&& (2147483647 : Int32)) % (9 : Int32)))) := own_r2 p2 (n := (9 : Int32)) (by decide) (by decide)
      refine own_step (fun _ k => XS.istore X28.here hx rfl (hb hby at_110) rfl (l' := #[.val (.int p0), .val (.int p1), .val (.int p2), .val (.int (2 : Int32)), .val (.ref (w6_ELASTIC_IP Z)), .val (.int (0 : Int32)), .val (.ref (w4_MONTH Z)), .val (.int (9 : Int32)), .val (.int ((1 : Int32) + ((p2 &&& (2147483647 : Int32)) % (9 : Int32)))), .unset]) rfl k) ?_
      show own_Wp p e below _ T28 (mkF m 112 #[.val (.int p0), .val (.int p1), .val (.int p2), .val (.int (2 : Int32)), .val (.ref (w6_ELASTIC_IP Z)), .val (.int (0 : Int32)), .val (.ref (w4_MONTH Z)), .val (.int (9 : Int32)), .val (.int ((1 : Int32) + ((p2 &&& (2147483647 : Int32)) % (9 : Int32)))), .unset] [])
      refine own_step (fun _ k => XS.aload X28.here hx rfl (hb hby at_112) rfl rfl k) ?_
      show own_Wp p e below _ T28 (mkF m 114 #[.val (.int p0), .val (.int p1), .val (.int p2), .val (.int (2 : Int32)), .val (.ref (w6_ELASTIC_IP Z)), .val (.int (0 : Int32)), .val (.ref (w4_MONTH Z)), .val (.int (9 : Int32)), .val (.int ((1 : Int32) + ((p2 &&& (2147483647 : Int32)) % (9 : Int32)))), .unset] [(.ref (w6_ELASTIC_IP Z))])
      refine own_step (fun _ k => XS.aload X28.here hx rfl (hb hby at_114) rfl rfl k) ?_
      show own_Wp p e below _ T28 (mkF m 116 #[.val (.int p0), .val (.int p1), .val (.int p2), .val (.int (2 : Int32)), .val (.ref (w6_ELASTIC_IP Z)), .val (.int (0 : Int32)), .val (.ref (w4_MONTH Z)), .val (.int (9 : Int32)), .val (.int ((1 : Int32) + ((p2 &&& (2147483647 : Int32)) % (9 : Int32)))), .unset] [(.ref (w4_MONTH Z)), (.ref (w6_ELASTIC_IP Z))])
      refine own_step (fun _ k => XS.iload X28.here hx rfl (hb hby at_116) rfl k) ?_
      show own_Wp p e below _ T28 (mkF m 118 #[.val (.int p0), .val (.int p1), .val (.int p2), .val (.int (2 : Int32)), .val (.ref (w6_ELASTIC_IP Z)), .val (.int (0 : Int32)), .val (.ref (w4_MONTH Z)), .val (.int (9 : Int32)), .val (.int ((1 : Int32) + ((p2 &&& (2147483647 : Int32)) % (9 : Int32)))), .unset] [(.int ((1 : Int32) + ((p2 &&& (2147483647 : Int32)) % (9 : Int32)))), (.ref (w4_MONTH Z)), (.ref (w6_ELASTIC_IP Z))])
      obtain ⟨_, T29, L29, X29, hS29, hZ29, hown29, hQ29, st29⟩ := own_callVW X28 hx hZ hS0 (Nat.zero_le _) hown (hw _ (List.mem_of_getElem? (i := 7) rfl)) (hw _ (List.mem_of_getElem? (i := 8) rfl)) (notFace_of_selects (args := #[]) (mvT hZ (hw _ (List.mem_of_getElem? (i := 10) rfl)))) (hw _ (List.mem_of_getElem? (i := 10) rfl)) (hw _ (List.mem_of_getElem? (i := 9) rfl)) (hw _ (List.mem_of_getElem? (i := 1) rfl)) (hw _ (List.mem_of_getElem? (i := 11) rfl)) (by decide) ((ex_w6_ELASTIC_IP hw hA hF).ext O0.2) (rm1_4 l Z a0 hw hA hF [] (w6_ELASTIC_IP Z) (w4_MONTH Z) ((1 : Int32) + ((p2 &&& (2147483647 : Int32)) % (9 : Int32))) h0 n0 O0 hr1 hr2 (fl2 hw hA hF) (ex_w4_MONTH hw hA hF) (fl8 hw hA hF)) (W := 0) (by decide) (by decide) [(.ref (w4_MONTH Z)), (.int ((1 : Int32) + ((p2 &&& (2147483647 : Int32)) % (9 : Int32))))] rfl (lenOf pd9 rfl) (Ls := #[.val (.int p0), .val (.int p1), .val (.int p2), .val (.int (2 : Int32)), .val (.ref (w6_ELASTIC_IP Z)), .val (.int (0 : Int32)), .val (.ref (w4_MONTH Z)), .val (.int (9 : Int32)), .val (.int ((1 : Int32) + ((p2 &&& (2147483647 : Int32)) % (9 : Int32)))), .unset]) (by rw [hml]; rfl) (rest := []) (Nat.le_of_eq rfl) (hb hby at_118) e28 (by decide) (by decide)
      refine st29 _ ?_
      obtain ⟨b30, rfl, N29q, K29q, y29_0, F29_0, F29_1, F29_2⟩ := hQ29
      have N29 := Fr.app (Fr.nil n0) N29q
      have g29_0 : n0 ≤ b30 := Nat.le_trans (O0.1 ▸ O0.2.1) y29_0
      have u29_0 : h0.size ≤ b30 := Nat.le_trans (Nat.le_refl _) y29_0
      have O29 := O0.keep K29q all0
      have K29 : Keep h0 T29.heap [] := Keep.trans (Keep.refl h0 []) K29q all0
      show own_Wp p e below _ T29 (mkF m 121 #[.val (.int p0), .val (.int p1), .val (.int p2), .val (.int (2 : Int32)), .val (.ref (w6_ELASTIC_IP Z)), .val (.int (0 : Int32)), .val (.ref (w4_MONTH Z)), .val (.int (9 : Int32)), .val (.int ((1 : Int32) + ((p2 &&& (2147483647 : Int32)) % (9 : Int32)))), .unset] [(.ref b30)])
      refine own_step (fun _ k => XS.astore X29.here hx rfl (hb hby at_121) rfl rfl (l' := #[.val (.int p0), .val (.int p1), .val (.int p2), .val (.int (2 : Int32)), .val (.ref (w6_ELASTIC_IP Z)), .val (.int (0 : Int32)), .val (.ref (w4_MONTH Z)), .val (.int (9 : Int32)), .val (.int ((1 : Int32) + ((p2 &&& (2147483647 : Int32)) % (9 : Int32)))), .val (.ref b30)]) rfl k) ?_
      show own_Wp p e below _ T29 (mkF m 123 #[.val (.int p0), .val (.int p1), .val (.int p2), .val (.int (2 : Int32)), .val (.ref (w6_ELASTIC_IP Z)), .val (.int (0 : Int32)), .val (.ref (w4_MONTH Z)), .val (.int (9 : Int32)), .val (.int ((1 : Int32) + ((p2 &&& (2147483647 : Int32)) % (9 : Int32)))), .val (.ref b30)] [])
      refine own_step (fun _ k => XS.aload X29.here hx rfl (hb hby at_123) rfl rfl k) ?_
      show own_Wp p e below _ T29 (mkF m 125 #[.val (.int p0), .val (.int p1), .val (.int p2), .val (.int (2 : Int32)), .val (.ref (w6_ELASTIC_IP Z)), .val (.int (0 : Int32)), .val (.ref (w4_MONTH Z)), .val (.int (9 : Int32)), .val (.int ((1 : Int32) + ((p2 &&& (2147483647 : Int32)) % (9 : Int32)))), .val (.ref b30)] [(.ref b30)])
      refine own_step (fun _ k => XS.ifnullNo X29.here hx rfl (hb hby at_125) rfl k) ?_
      show own_Wp p e below _ T29 (mkF m 128 #[.val (.int p0), .val (.int p1), .val (.int p2), .val (.int (2 : Int32)), .val (.ref (w6_ELASTIC_IP Z)), .val (.int (0 : Int32)), .val (.ref (w4_MONTH Z)), .val (.int (9 : Int32)), .val (.int ((1 : Int32) + ((p2 &&& (2147483647 : Int32)) % (9 : Int32)))), .val (.ref b30)] [])
      refine own_step (fun _ k => XS.aload X29.here hx rfl (hb hby at_128) rfl rfl k) ?_
      show own_Wp p e below _ T29 (mkF m 130 #[.val (.int p0), .val (.int p1), .val (.int p2), .val (.int (2 : Int32)), .val (.ref (w6_ELASTIC_IP Z)), .val (.int (0 : Int32)), .val (.ref (w4_MONTH Z)), .val (.int (9 : Int32)), .val (.int ((1 : Int32) + ((p2 &&& (2147483647 : Int32)) % (9 : Int32)))), .val (.ref b30)] [(.ref b30)])
      obtain ⟨_, T31, L31, X31, hQ31, st31⟩ := own_callV X29 hx hZ29 hown29 (hw _ (List.mem_of_getElem? (i := 56) rfl)) (hw _ (List.mem_of_getElem? (i := 57) rfl)) (notFace_of_selects (args := #[]) (mvT hZ29 (hw _ (List.mem_of_getElem? (i := 59) rfl)))) (hw _ (List.mem_of_getElem? (i := 59) rfl)) (hw _ (List.mem_of_getElem? (i := 58) rfl)) (hw _ (List.mem_of_getElem? (i := 28) rfl)) (hw _ (List.mem_of_getElem? (i := 60) rfl)) (by decide) F29_0 (rm7_5 l Z a0 hw hA hF [] b30 T29.heap n0 O29 F29_1) (W := 0) (by decide) (by decide) [] rfl (lenOf pd10 rfl) (Ls := #[.val (.int p0), .val (.int p1), .val (.int p2), .val (.int (2 : Int32)), .val (.ref (w6_ELASTIC_IP Z)), .val (.int (0 : Int32)), .val (.ref (w4_MONTH Z)), .val (.int (9 : Int32)), .val (.int ((1 : Int32) + ((p2 &&& (2147483647 : Int32)) % (9 : Int32)))), .val (.ref b30)]) (by rw [hml]; rfl) (rest := []) (Nat.le_of_eq rfl) (hb hby at_130) rfl (by decide) (by decide)
      refine st31 _ ?_
      obtain ⟨rfl, N31q, e31⟩ := hQ31
      have N31 := Fr.app N29 N31q
      show own_Wp p e below _ T31 (mkF m 133 #[.val (.int p0), .val (.int p1), .val (.int p2), .val (.int (2 : Int32)), .val (.ref (w6_ELASTIC_IP Z)), .val (.int (0 : Int32)), .val (.ref (w4_MONTH Z)), .val (.int (9 : Int32)), .val (.int ((1 : Int32) + ((p2 &&& (2147483647 : Int32)) % (9 : Int32)))), .val (.ref b30)] [(.ref (w4_MONTH Z))])
      refine own_step (fun _ k => XS.aload X31.here hx rfl (hb hby at_133) rfl rfl k) ?_
      show own_Wp p e below _ T31 (mkF m 135 #[.val (.int p0), .val (.int p1), .val (.int p2), .val (.int (2 : Int32)), .val (.ref (w6_ELASTIC_IP Z)), .val (.int (0 : Int32)), .val (.ref (w4_MONTH Z)), .val (.int (9 : Int32)), .val (.int ((1 : Int32) + ((p2 &&& (2147483647 : Int32)) % (9 : Int32)))), .val (.ref b30)] [(.ref (w4_MONTH Z)), (.ref (w4_MONTH Z))])
      refine own_step (fun _ k => Jvm.RoadKit.acmp (g := (mkF m 135 #[.val (.int p0), .val (.int p1), .val (.int p2), .val (.int (2 : Int32)), .val (.ref (w6_ELASTIC_IP Z)), .val (.int (0 : Int32)), .val (.ref (w4_MONTH Z)), .val (.int (9 : Int32)), .val (.int ((1 : Int32) + ((p2 &&& (2147483647 : Int32)) % (9 : Int32)))), .val (.ref b30)] [(.ref (w4_MONTH Z)), (.ref (w4_MONTH Z))])) X31 hx rfl rfl rfl (pc0 := 135) (pc' := 138) (same := true) rfl (hb hby at_135) rfl (decide_eq_true rfl) (by decide) (by decide) k) ?_
      show own_Wp p e below _ T31 (mkF m 138 #[.val (.int p0), .val (.int p1), .val (.int p2), .val (.int (2 : Int32)), .val (.ref (w6_ELASTIC_IP Z)), .val (.int (0 : Int32)), .val (.ref (w4_MONTH Z)), .val (.int (9 : Int32)), .val (.int ((1 : Int32) + ((p2 &&& (2147483647 : Int32)) % (9 : Int32)))), .val (.ref b30)] [])
      refine own_step (fun _ k => XS.aload X31.here hx rfl (hb hby at_138) rfl rfl k) ?_
      show own_Wp p e below _ T31 (mkF m 140 #[.val (.int p0), .val (.int p1), .val (.int p2), .val (.int (2 : Int32)), .val (.ref (w6_ELASTIC_IP Z)), .val (.int (0 : Int32)), .val (.ref (w4_MONTH Z)), .val (.int (9 : Int32)), .val (.int ((1 : Int32) + ((p2 &&& (2147483647 : Int32)) % (9 : Int32)))), .val (.ref b30)] [(.ref b30)])
      obtain ⟨_, T32, L32, X32, hQ32, st32⟩ := own_callV X31 hx hZ29 hown29 (hw _ (List.mem_of_getElem? (i := 61) rfl)) (hw _ (List.mem_of_getElem? (i := 62) rfl)) (notFace_of_selects (args := #[]) (mvT hZ29 (hw _ (List.mem_of_getElem? (i := 64) rfl)))) (hw _ (List.mem_of_getElem? (i := 64) rfl)) (hw _ (List.mem_of_getElem? (i := 63) rfl)) (hw _ (List.mem_of_getElem? (i := 28) rfl)) (hw _ (List.mem_of_getElem? (i := 65) rfl)) (by decide) F29_0 (rm8_6 l Z a0 hw hA hF [] b30 ((1 : Int32) + ((p2 &&& (2147483647 : Int32)) % (9 : Int32))) T29.heap n0 O29 F29_2) (W := 0) (by decide) (by decide) [] rfl (lenOf pd1 rfl) (Ls := #[.val (.int p0), .val (.int p1), .val (.int p2), .val (.int (2 : Int32)), .val (.ref (w6_ELASTIC_IP Z)), .val (.int (0 : Int32)), .val (.ref (w4_MONTH Z)), .val (.int (9 : Int32)), .val (.int ((1 : Int32) + ((p2 &&& (2147483647 : Int32)) % (9 : Int32)))), .val (.ref b30)]) (by rw [hml]; rfl) (rest := []) (Nat.le_of_eq rfl) (hb hby at_140) e31 (by decide) (by decide)
      refine st32 _ ?_
      obtain ⟨rfl, N32q, e32⟩ := hQ32
      have N32 := Fr.app N31 N32q
      show own_Wp p e below _ T32 (mkF m 143 #[.val (.int p0), .val (.int p1), .val (.int p2), .val (.int (2 : Int32)), .val (.ref (w6_ELASTIC_IP Z)), .val (.int (0 : Int32)), .val (.ref (w4_MONTH Z)), .val (.int (9 : Int32)), .val (.int ((1 : Int32) + ((p2 &&& (2147483647 : Int32)) % (9 : Int32)))), .val (.ref b30)] [(.int ((1 : Int32) + ((p2 &&& (2147483647 : Int32)) % (9 : Int32))))])
      refine own_step (fun _ k => XS.iload X32.here hx rfl (hb hby at_143) rfl k) ?_
      show own_Wp p e below _ T32 (mkF m 145 #[.val (.int p0), .val (.int p1), .val (.int p2), .val (.int (2 : Int32)), .val (.ref (w6_ELASTIC_IP Z)), .val (.int (0 : Int32)), .val (.ref (w4_MONTH Z)), .val (.int (9 : Int32)), .val (.int ((1 : Int32) + ((p2 &&& (2147483647 : Int32)) % (9 : Int32)))), .val (.ref b30)] [(.int ((1 : Int32) + ((p2 &&& (2147483647 : Int32)) % (9 : Int32)))), (.int ((1 : Int32) + ((p2 &&& (2147483647 : Int32)) % (9 : Int32))))])
      refine own_step (fun _ k => XS.icmpNo X32.here hx rfl (hb hby at_145) rfl (teq (rfl : ((1 : Int32) + ((p2 &&& (2147483647 : Int32)) % (9 : Int32))) = ((1 : Int32) + ((p2 &&& (2147483647 : Int32)) % (9 : Int32))))).2 k) ?_
      show own_Wp p e below _ T32 (mkF m 148 #[.val (.int p0), .val (.int p1), .val (.int p2), .val (.int (2 : Int32)), .val (.ref (w6_ELASTIC_IP Z)), .val (.int (0 : Int32)), .val (.ref (w4_MONTH Z)), .val (.int (9 : Int32)), .val (.int ((1 : Int32) + ((p2 &&& (2147483647 : Int32)) % (9 : Int32)))), .val (.ref b30)] [])
      refine own_step (fun _ k => XS.iconst X32.here hx rfl (hb hby at_148) k) ?_
      show own_Wp p e below _ T32 (mkF m 149 #[.val (.int p0), .val (.int p1), .val (.int p2), .val (.int (2 : Int32)), .val (.ref (w6_ELASTIC_IP Z)), .val (.int (0 : Int32)), .val (.ref (w4_MONTH Z)), .val (.int (9 : Int32)), .val (.int ((1 : Int32) + ((p2 &&& (2147483647 : Int32)) % (9 : Int32)))), .val (.ref b30)] [(.int (1 : Int32))])
      refine own_step (fun _ k => XS.goto X32.here hx rfl (pc0 := 149) (pc' := 153) rfl (hb hby at_149) (by decide) (by decide) k) ?_
      show own_Wp p e below _ T32 (mkF m 153 #[.val (.int p0), .val (.int p1), .val (.int p2), .val (.int (2 : Int32)), .val (.ref (w6_ELASTIC_IP Z)), .val (.int (0 : Int32)), .val (.ref (w4_MONTH Z)), .val (.int (9 : Int32)), .val (.int ((1 : Int32) + ((p2 &&& (2147483647 : Int32)) % (9 : Int32)))), .val (.ref b30)] [(.int (1 : Int32))])
      exact own_retNW X32 hS29 (by rw [e32]; exact (Nat.le_refl _)) hx (t := .boolean) hret (by simp) hlk (hb hby at_153) (by decide) (by decide) ⟨rfl, N32⟩
    · skip
      refine own_step (fun _ k => XS.ifNo X26.here hx rfl (hb hby at_50) rfl ((if0 _ _).trans (feq hc27).1) k) ?_
      show own_Wp p e below _ T26 (mkF m 53 #[.val (.int p0), .val (.int p1), .val (.int p2), .val (.int (2 : Int32)), .val (.ref (w6_ELASTIC_IP Z)), .unset, .unset, .unset, .unset, .unset] [])
      refine own_step (fun _ k => XS.iconst X26.here hx rfl (hb hby at_53) k) ?_
      show own_Wp p e below _ T26 (mkF m 54 #[.val (.int p0), .val (.int p1), .val (.int p2), .val (.int (2 : Int32)), .val (.ref (w6_ELASTIC_IP Z)), .unset, .unset, .unset, .unset, .unset] [(.int (1 : Int32))])
      refine own_step (fun _ k => XS.goto X26.here hx rfl (pc0 := 54) (pc' := 58) rfl (hb hby at_54) (by decide) (by decide) k) ?_
      show own_Wp p e below _ T26 (mkF m 58 #[.val (.int p0), .val (.int p1), .val (.int p2), .val (.int (2 : Int32)), .val (.ref (w6_ELASTIC_IP Z)), .unset, .unset, .unset, .unset, .unset] [(.int (1 : Int32))])
      refine own_step (fun _ k => XS.istore X26.here hx rfl (hb hby at_58) rfl (l' := #[.val (.int p0), .val (.int p1), .val (.int p2), .val (.int (2 : Int32)), .val (.ref (w6_ELASTIC_IP Z)), .val (.int (1 : Int32)), .unset, .unset, .unset, .unset]) rfl k) ?_
      show own_Wp p e below _ T26 (mkF m 60 #[.val (.int p0), .val (.int p1), .val (.int p2), .val (.int (2 : Int32)), .val (.ref (w6_ELASTIC_IP Z)), .val (.int (1 : Int32)), .unset, .unset, .unset, .unset] [])
      refine own_step (fun _ k => XS.iload X26.here hx rfl (hb hby at_60) rfl k) ?_
      show own_Wp p e below _ T26 (mkF m 62 #[.val (.int p0), .val (.int p1), .val (.int p2), .val (.int (2 : Int32)), .val (.ref (w6_ELASTIC_IP Z)), .val (.int (1 : Int32)), .unset, .unset, .unset, .unset] [(.int (1 : Int32))])
      refine own_step (fun _ k => XS.ifNo X26.here hx rfl (hb hby at_62) rfl (by decide) k) ?_
      show own_Wp p e below _ T26 (mkF m 65 #[.val (.int p0), .val (.int p1), .val (.int p2), .val (.int (2 : Int32)), .val (.ref (w6_ELASTIC_IP Z)), .val (.int (1 : Int32)), .unset, .unset, .unset, .unset] [])
      obtain ⟨T33, X33, e33, st33⟩ := getS2 X26 hx hZ hown (host := "") (Or.inl (hw _ (List.mem_of_getElem? (i := 3) rfl))) Via.refl e26 ((st_w1_YEAR hw hA hF).ext O0.2) (g := (mkF m 65 #[.val (.int p0), .val (.int p1), .val (.int p2), .val (.int (2 : Int32)), .val (.ref (w6_ELASTIC_IP Z)), .val (.int (1 : Int32)), .unset, .unset, .unset, .unset] [])) rfl (hb hby at_65)
      refine own_step st33 ?_
      show own_Wp p e below _ T33 (mkF m 68 #[.val (.int p0), .val (.int p1), .val (.int p2), .val (.int (2 : Int32)), .val (.ref (w6_ELASTIC_IP Z)), .val (.int (1 : Int32)), .unset, .unset, .unset, .unset] [(.ref (w1_YEAR Z))])
      refine own_step (fun _ k => XS.goto X33.here hx rfl (pc0 := 68) (pc' := 74) rfl (hb hby at_68) (by decide) (by decide) k) ?_
      show own_Wp p e below _ T33 (mkF m 74 #[.val (.int p0), .val (.int p1), .val (.int p2), .val (.int (2 : Int32)), .val (.ref (w6_ELASTIC_IP Z)), .val (.int (1 : Int32)), .unset, .unset, .unset, .unset] [(.ref (w1_YEAR Z))])
      refine own_step (fun _ k => XS.astore X33.here hx rfl (hb hby at_74) rfl rfl (l' := #[.val (.int p0), .val (.int p1), .val (.int p2), .val (.int (2 : Int32)), .val (.ref (w6_ELASTIC_IP Z)), .val (.int (1 : Int32)), .val (.ref (w1_YEAR Z)), .unset, .unset, .unset]) rfl k) ?_
      show own_Wp p e below _ T33 (mkF m 76 #[.val (.int p0), .val (.int p1), .val (.int p2), .val (.int (2 : Int32)), .val (.ref (w6_ELASTIC_IP Z)), .val (.int (1 : Int32)), .val (.ref (w1_YEAR Z)), .unset, .unset, .unset] [])
      refine own_step (fun _ k => XS.iload X33.here hx rfl (hb hby at_76) rfl k) ?_
      show own_Wp p e below _ T33 (mkF m 78 #[.val (.int p0), .val (.int p1), .val (.int p2), .val (.int (2 : Int32)), .val (.ref (w6_ELASTIC_IP Z)), .val (.int (1 : Int32)), .val (.ref (w1_YEAR Z)), .unset, .unset, .unset] [(.int (1 : Int32))])
      refine own_step (fun _ k => XS.ifNo X33.here hx rfl (hb hby at_78) rfl (by decide) k) ?_
      show own_Wp p e below _ T33 (mkF m 81 #[.val (.int p0), .val (.int p1), .val (.int p2), .val (.int (2 : Int32)), .val (.ref (w6_ELASTIC_IP Z)), .val (.int (1 : Int32)), .val (.ref (w1_YEAR Z)), .unset, .unset, .unset] [])
      refine own_step (fun _ k => XS.iloadN X33.here hx rfl (hb hby at_81) rfl k) ?_
      show own_Wp p e below _ T33 (mkF m 82 #[.val (.int p0), .val (.int p1), .val (.int p2), .val (.int (2 : Int32)), .val (.ref (w6_ELASTIC_IP Z)), .val (.int (1 : Int32)), .val (.ref (w1_YEAR Z)), .unset, .unset, .unset] [(.int (2 : Int32))])
      refine own_step (fun _ k => XS.iconst X33.here hx rfl (hb hby at_82) k) ?_
      show own_Wp p e below _ T33 (mkF m 83 #[.val (.int p0), .val (.int p1), .val (.int p2), .val (.int (2 : Int32)), .val (.ref (w6_ELASTIC_IP Z)), .val (.int (1 : Int32)), .val (.ref (w1_YEAR Z)), .unset, .unset, .unset] [(.int (1 : Int32)), (.int (2 : Int32))])
      refine own_step (fun _ k => XS.icmpYes X33.here hx rfl (pc0 := 83) (pc' := 90) rfl (hb hby at_83) rfl (by decide) (by decide) (by decide) k) ?_
      show own_Wp p e below _ T33 (mkF m 90 #[.val (.int p0), .val (.int p1), .val (.int p2), .val (.int (2 : Int32)), .val (.ref (w6_ELASTIC_IP Z)), .val (.int (1 : Int32)), .val (.ref (w1_YEAR Z)), .unset, .unset, .unset] [])
      refine own_step (fun _ k => XS.bipush X33.here hx rfl (hb hby at_90) k) ?_
      show own_Wp p e below _ T33 (mkF m 92 #[.val (.int p0), .val (.int p1), .val (.int p2), .val (.int (2 : Int32)), .val (.ref (w6_ELASTIC_IP Z)), .val (.int (1 : Int32)), .val (.ref (w1_YEAR Z)), .unset, .unset, .unset] [(.int (9 : Int32))])
      refine own_step (fun _ k => XS.istore X33.here hx rfl (hb hby at_92) rfl (l' := #[.val (.int p0), .val (.int p1), .val (.int p2), .val (.int (2 : Int32)), .val (.ref (w6_ELASTIC_IP Z)), .val (.int (1 : Int32)), .val (.ref (w1_YEAR Z)), .val (.int (9 : Int32)), .unset, .unset]) rfl k) ?_
      show own_Wp p e below _ T33 (mkF m 94 #[.val (.int p0), .val (.int p1), .val (.int p2), .val (.int (2 : Int32)), .val (.ref (w6_ELASTIC_IP Z)), .val (.int (1 : Int32)), .val (.ref (w1_YEAR Z)), .val (.int (9 : Int32)), .unset, .unset] [])
      refine own_step (fun _ k => XS.goto X33.here hx rfl (pc0 := 94) (pc' := 101) rfl (hb hby at_94) (by decide) (by decide) k) ?_
      show own_Wp p e below _ T33 (mkF m 101 #[.val (.int p0), .val (.int p1), .val (.int p2), .val (.int (2 : Int32)), .val (.ref (w6_ELASTIC_IP Z)), .val (.int (1 : Int32)), .val (.ref (w1_YEAR Z)), .val (.int (9 : Int32)), .unset, .unset] [])
      refine own_step (fun _ k => XS.iconst X33.here hx rfl (hb hby at_101) k) ?_
      show own_Wp p e below _ T33 (mkF m 102 #[.val (.int p0), .val (.int p1), .val (.int p2), .val (.int (2 : Int32)), .val (.ref (w6_ELASTIC_IP Z)), .val (.int (1 : Int32)), .val (.ref (w1_YEAR Z)), .val (.int (9 : Int32)), .unset, .unset] [(.int (1 : Int32))])
      refine own_step (fun _ k => XS.iloadN X33.here hx rfl (hb hby at_102) rfl k) ?_
      show own_Wp p e below _ T33 (mkF m 103 #[.val (.int p0), .val (.int p1), .val (.int p2), .val (.int (2 : Int32)), .val (.ref (w6_ELASTIC_IP Z)), .val (.int (1 : Int32)), .val (.ref (w1_YEAR Z)), .val (.int (9 : Int32)), .unset, .unset] [(.int p2), (.int (1 : Int32))])
      refine own_step (X33.ldcInt hx hown (mvT hZ (hw _ (List.mem_of_getElem? (i := 6) rfl))) (g := (mkF m 103 #[.val (.int p0), .val (.int p1), .val (.int p2), .val (.int (2 : Int32)), .val (.ref (w6_ELASTIC_IP Z)), .val (.int (1 : Int32)), .val (.ref (w1_YEAR Z)), .val (.int (9 : Int32)), .unset, .unset] [(.int p2), (.int (1 : Int32))])) rfl (hb hby at_103)) ?_
      show own_Wp p e below _ T33 (mkF m 105 #[.val (.int p0), .val (.int p1), .val (.int p2), .val (.int (2 : Int32)), .val (.ref (w6_ELASTIC_IP Z)), .val (.int (1 : Int32)), .val (.ref (w1_YEAR Z)), .val (.int (9 : Int32)), .unset, .unset] [(.int (2147483647 : Int32)), (.int p2), (.int (1 : Int32))])
      refine own_step (fun _ k => XS.iand X33.here hx rfl (hb hby at_105) rfl k) ?_
      show own_Wp p e below _ T33 (mkF m 106 #[.val (.int p0), .val (.int p1), .val (.int p2), .val (.int (2 : Int32)), .val (.ref (w6_ELASTIC_IP Z)), .val (.int (1 : Int32)), .val (.ref (w1_YEAR Z)), .val (.int (9 : Int32)), .unset, .unset] [(.int (p2 &&& (2147483647 : Int32))), (.int (1 : Int32))])
      refine own_step (fun _ k => XS.iload X33.here hx rfl (hb hby at_106) rfl k) ?_
      show own_Wp p e below _ T33 (mkF m 108 #[.val (.int p0), .val (.int p1), .val (.int p2), .val (.int (2 : Int32)), .val (.ref (w6_ELASTIC_IP Z)), .val (.int (1 : Int32)), .val (.ref (w1_YEAR Z)), .val (.int (9 : Int32)), .unset, .unset] [(.int (9 : Int32)), (.int (p2 &&& (2147483647 : Int32))), (.int (1 : Int32))])
      refine own_step (fun _ k => iremM (g := (mkF m 108 #[.val (.int p0), .val (.int p1), .val (.int p2), .val (.int (2 : Int32)), .val (.ref (w6_ELASTIC_IP Z)), .val (.int (1 : Int32)), .val (.ref (w1_YEAR Z)), .val (.int (9 : Int32)), .unset, .unset] [(.int (9 : Int32)), (.int (p2 &&& (2147483647 : Int32))), (.int (1 : Int32))])) X33 hx rfl (hb hby at_108) rfl (by decide) k) ?_
      show own_Wp p e below _ T33 (mkF m 109 #[.val (.int p0), .val (.int p1), .val (.int p2), .val (.int (2 : Int32)), .val (.ref (w6_ELASTIC_IP Z)), .val (.int (1 : Int32)), .val (.ref (w1_YEAR Z)), .val (.int (9 : Int32)), .unset, .unset] [(.int ((p2 &&& (2147483647 : Int32)) % (9 : Int32))), (.int (1 : Int32))])
      refine own_step (fun _ k => XS.iadd X33.here hx rfl (hb hby at_109) rfl k) ?_
      show own_Wp p e below _ T33 (mkF m 110 #[.val (.int p0), .val (.int p1), .val (.int p2), .val (.int (2 : Int32)), .val (.ref (w6_ELASTIC_IP Z)), .val (.int (1 : Int32)), .val (.ref (w1_YEAR Z)), .val (.int (9 : Int32)), .unset, .unset] [(.int ((1 : Int32) + ((p2 &&& (2147483647 : Int32)) % (9 : Int32))))])
      have hr1 : ¬ (((1 : Int32) + ((p2 &&& (2147483647 : Int32)) % (9 : Int32))) < (1 : Int32)) := own_r1 p2 (n := (9 : Int32)) (by decide) (by decide)
      have hr2 : ¬ ((9 : Int32) < ((1 : Int32) + ((p2 &&& (2147483647 : Int32)) % (9 : Int32)))) := own_r2 p2 (n := (9 : Int32)) (by decide) (by decide)
      refine own_step (fun _ k => XS.istore X33.here hx rfl (hb hby at_110) rfl (l' := #[.val (.int p0), .val (.int p1), .val (.int p2), .val (.int (2 : Int32)), .val (.ref (w6_ELASTIC_IP Z)), .val (.int (1 : Int32)), .val (.ref (w1_YEAR Z)), .val (.int (9 : Int32)), .val (.int ((1 : Int32) + ((p2 &&& (2147483647 : Int32)) % (9 : Int32)))), .unset]) rfl k) ?_
      show own_Wp p e below _ T33 (mkF m 112 #[.val (.int p0), .val (.int p1), .val (.int p2), .val (.int (2 : Int32)), .val (.ref (w6_ELASTIC_IP Z)), .val (.int (1 : Int32)), .val (.ref (w1_YEAR Z)), .val (.int (9 : Int32)), .val (.int ((1 : Int32) + ((p2 &&& (2147483647 : Int32)) % (9 : Int32)))), .unset] [])
      refine own_step (fun _ k => XS.aload X33.here hx rfl (hb hby at_112) rfl rfl k) ?_
      show own_Wp p e below _ T33 (mkF m 114 #[.val (.int p0), .val (.int p1), .val (.int p2), .val (.int (2 : Int32)), .val (.ref (w6_ELASTIC_IP Z)), .val (.int (1 : Int32)), .val (.ref (w1_YEAR Z)), .val (.int (9 : Int32)), .val (.int ((1 : Int32) + ((p2 &&& (2147483647 : Int32)) % (9 : Int32)))), .unset] [(.ref (w6_ELASTIC_IP Z))])
      refine own_step (fun _ k => XS.aload X33.here hx rfl (hb hby at_114) rfl rfl k) ?_
      show own_Wp p e below _ T33 (mkF m 116 #[.val (.int p0), .val (.int p1), .val (.int p2), .val (.int (2 : Int32)), .val (.ref (w6_ELASTIC_IP Z)), .val (.int (1 : Int32)), .val (.ref (w1_YEAR Z)), .val (.int (9 : Int32)), .val (.int ((1 : Int32) + ((p2 &&& (2147483647 : Int32)) % (9 : Int32)))), .unset] [(.ref (w1_YEAR Z)), (.ref (w6_ELASTIC_IP Z))])
      refine own_step (fun _ k => XS.iload X33.here hx rfl (hb hby at_116) rfl k) ?_
      show own_Wp p e below _ T33 (mkF m 118 #[.val (.int p0), .val (.int p1), .val (.int p2), .val (.int (2 : Int32)), .val (.ref (w6_ELASTIC_IP Z)), .val (.int (1 : Int32)), .val (.ref (w1_YEAR Z)), .val (.int (9 : Int32)), .val (.int ((1 : Int32) + ((p2 &&& (2147483647 : Int32)) % (9 : Int32)))), .unset] [(.int ((1 : Int32) + ((p2 &&& (2147483647 : Int32)) % (9 : Int32)))), (.ref (w1_YEAR Z)), (.ref (w6_ELASTIC_IP Z))])
      obtain ⟨_, T34, L34, X34, hS34, hZ34, hown34, hQ34, st34⟩ := own_callVW X33 hx hZ hS0 (Nat.zero_le _) hown (hw _ (List.mem_of_getElem? (i := 7) rfl)) (hw _ (List.mem_of_getElem? (i := 8) rfl)) (notFace_of_selects (args := #[]) (mvT hZ (hw _ (List.mem_of_getElem? (i := 10) rfl)))) (hw _ (List.mem_of_getElem? (i := 10) rfl)) (hw _ (List.mem_of_getElem? (i := 9) rfl)) (hw _ (List.mem_of_getElem? (i := 1) rfl)) (hw _ (List.mem_of_getElem? (i := 11) rfl)) (by decide) ((ex_w6_ELASTIC_IP hw hA hF).ext O0.2) (rm1_10 l Z a0 hw hA hF [] (w6_ELASTIC_IP Z) (w1_YEAR Z) ((1 : Int32) + ((p2 &&& (2147483647 : Int32)) % (9 : Int32))) h0 n0 O0 hr1 hr2 (fl0 hw hA hF) (ex_w1_YEAR hw hA hF) (fl6 hw hA hF)) (W := 0) (by decide) (by decide) [(.ref (w1_YEAR Z)), (.int ((1 : Int32) + ((p2 &&& (2147483647 : Int32)) % (9 : Int32))))] rfl (lenOf pd9 rfl) (Ls := #[.val (.int p0), .val (.int p1), .val (.int p2), .val (.int (2 : Int32)), .val (.ref (w6_ELASTIC_IP Z)), .val (.int (1 : Int32)), .val (.ref (w1_YEAR Z)), .val (.int (9 : Int32)), .val (.int ((1 : Int32) + ((p2 &&& (2147483647 : Int32)) % (9 : Int32)))), .unset]) (by rw [hml]; rfl) (rest := []) (Nat.le_of_eq rfl) (hb hby at_118) e33 (by decide) (by decide)
      refine st34 _ ?_
      obtain ⟨b35, rfl, N34q, K34q, y34_0, F34_0, F34_1, F34_2⟩ := hQ34
      have N34 := Fr.app (Fr.nil n0) N34q
      have g34_0 : n0 ≤ b35 := Nat.le_trans (O0.1 ▸ O0.2.1) y34_0
      have u34_0 : h0.size ≤ b35 := Nat.le_trans (Nat.le_refl _) y34_0
      have O34 := O0.keep K34q all0
      have K34 : Keep h0 T34.heap [] := Keep.trans (Keep.refl h0 []) K34q all0
      show own_Wp p e below _ T34 (mkF m 121 #[.val (.int p0), .val (.int p1), .val (.int p2), .val (.int (2 : Int32)), .val (.ref (w6_ELASTIC_IP Z)), .val (.int (1 : Int32)), .val (.ref (w1_YEAR Z)), .val (.int (9 : Int32)), .val (.int ((1 : Int32) + ((p2 &&& (2147483647 : Int32)) % (9 : Int32)))), .unset] [(.ref b35)])
      refine own_step (fun _ k => XS.astore X34.here hx rfl (hb hby at_121) rfl rfl (l' := #[.val (.int p0), .val (.int p1), .val (.int p2), .val (.int (2 : Int32)), .val (.ref (w6_ELASTIC_IP Z)), .val (.int (1 : Int32)), .val (.ref (w1_YEAR Z)), .val (.int (9 : Int32)), .val (.int ((1 : Int32) + ((p2 &&& (2147483647 : Int32)) % (9 : Int32)))), .val (.ref b35)]) rfl k) ?_
      show own_Wp p e below _ T34 (mkF m 123 #[.val (.int p0), .val (.int p1), .val (.int p2), .val (.int (2 : Int32)), .val (.ref (w6_ELASTIC_IP Z)), .val (.int (1 : Int32)), .val (.ref (w1_YEAR Z)), .val (.int (9 : Int32)), .val (.int ((1 : Int32) + ((p2 &&& (2147483647 : Int32)) % (9 : Int32)))), .val (.ref b35)] [])
      refine own_step (fun _ k => XS.aload X34.here hx rfl (hb hby at_123) rfl rfl k) ?_
      show own_Wp p e below _ T34 (mkF m 125 #[.val (.int p0), .val (.int p1), .val (.int p2), .val (.int (2 : Int32)), .val (.ref (w6_ELASTIC_IP Z)), .val (.int (1 : Int32)), .val (.ref (w1_YEAR Z)), .val (.int (9 : Int32)), .val (.int ((1 : Int32) + ((p2 &&& (2147483647 : Int32)) % (9 : Int32)))), .val (.ref b35)] [(.ref b35)])
      refine own_step (fun _ k => XS.ifnullNo X34.here hx rfl (hb hby at_125) rfl k) ?_
      show own_Wp p e below _ T34 (mkF m 128 #[.val (.int p0), .val (.int p1), .val (.int p2), .val (.int (2 : Int32)), .val (.ref (w6_ELASTIC_IP Z)), .val (.int (1 : Int32)), .val (.ref (w1_YEAR Z)), .val (.int (9 : Int32)), .val (.int ((1 : Int32) + ((p2 &&& (2147483647 : Int32)) % (9 : Int32)))), .val (.ref b35)] [])
      refine own_step (fun _ k => XS.aload X34.here hx rfl (hb hby at_128) rfl rfl k) ?_
      show own_Wp p e below _ T34 (mkF m 130 #[.val (.int p0), .val (.int p1), .val (.int p2), .val (.int (2 : Int32)), .val (.ref (w6_ELASTIC_IP Z)), .val (.int (1 : Int32)), .val (.ref (w1_YEAR Z)), .val (.int (9 : Int32)), .val (.int ((1 : Int32) + ((p2 &&& (2147483647 : Int32)) % (9 : Int32)))), .val (.ref b35)] [(.ref b35)])
      obtain ⟨_, T36, L36, X36, hQ36, st36⟩ := own_callV X34 hx hZ34 hown34 (hw _ (List.mem_of_getElem? (i := 56) rfl)) (hw _ (List.mem_of_getElem? (i := 57) rfl)) (notFace_of_selects (args := #[]) (mvT hZ34 (hw _ (List.mem_of_getElem? (i := 59) rfl)))) (hw _ (List.mem_of_getElem? (i := 59) rfl)) (hw _ (List.mem_of_getElem? (i := 58) rfl)) (hw _ (List.mem_of_getElem? (i := 28) rfl)) (hw _ (List.mem_of_getElem? (i := 60) rfl)) (by decide) F34_0 (rm7_9 l Z a0 hw hA hF [] b35 T34.heap n0 O34 F34_1) (W := 0) (by decide) (by decide) [] rfl (lenOf pd10 rfl) (Ls := #[.val (.int p0), .val (.int p1), .val (.int p2), .val (.int (2 : Int32)), .val (.ref (w6_ELASTIC_IP Z)), .val (.int (1 : Int32)), .val (.ref (w1_YEAR Z)), .val (.int (9 : Int32)), .val (.int ((1 : Int32) + ((p2 &&& (2147483647 : Int32)) % (9 : Int32)))), .val (.ref b35)]) (by rw [hml]; rfl) (rest := []) (Nat.le_of_eq rfl) (hb hby at_130) rfl (by decide) (by decide)
      refine st36 _ ?_
      obtain ⟨rfl, N36q, e36⟩ := hQ36
      have N36 := Fr.app N34 N36q
      show own_Wp p e below _ T36 (mkF m 133 #[.val (.int p0), .val (.int p1), .val (.int p2), .val (.int (2 : Int32)), .val (.ref (w6_ELASTIC_IP Z)), .val (.int (1 : Int32)), .val (.ref (w1_YEAR Z)), .val (.int (9 : Int32)), .val (.int ((1 : Int32) + ((p2 &&& (2147483647 : Int32)) % (9 : Int32)))), .val (.ref b35)] [(.ref (w1_YEAR Z))])
      refine own_step (fun _ k => XS.aload X36.here hx rfl (hb hby at_133) rfl rfl k) ?_
      show own_Wp p e below _ T36 (mkF m 135 #[.val (.int p0), .val (.int p1), .val (.int p2), .val (.int (2 : Int32)), .val (.ref (w6_ELASTIC_IP Z)), .val (.int (1 : Int32)), .val (.ref (w1_YEAR Z)), .val (.int (9 : Int32)), .val (.int ((1 : Int32) + ((p2 &&& (2147483647 : Int32)) % (9 : Int32)))), .val (.ref b35)] [(.ref (w1_YEAR Z)), (.ref (w1_YEAR Z))])
      refine own_step (fun _ k => Jvm.RoadKit.acmp (g := (mkF m 135 #[.val (.int p0), .val (.int p1), .val (.int p2), .val (.int (2 : Int32)), .val (.ref (w6_ELASTIC_IP Z)), .val (.int (1 : Int32)), .val (.ref (w1_YEAR Z)), .val (.int (9 : Int32)), .val (.int ((1 : Int32) + ((p2 &&& (2147483647 : Int32)) % (9 : Int32)))), .val (.ref b35)] [(.ref (w1_YEAR Z)), (.ref (w1_YEAR Z))])) X36 hx rfl rfl rfl (pc0 := 135) (pc' := 138) (same := true) rfl (hb hby at_135) rfl (decide_eq_true rfl) (by decide) (by decide) k) ?_
      show own_Wp p e below _ T36 (mkF m 138 #[.val (.int p0), .val (.int p1), .val (.int p2), .val (.int (2 : Int32)), .val (.ref (w6_ELASTIC_IP Z)), .val (.int (1 : Int32)), .val (.ref (w1_YEAR Z)), .val (.int (9 : Int32)), .val (.int ((1 : Int32) + ((p2 &&& (2147483647 : Int32)) % (9 : Int32)))), .val (.ref b35)] [])
      refine own_step (fun _ k => XS.aload X36.here hx rfl (hb hby at_138) rfl rfl k) ?_
      show own_Wp p e below _ T36 (mkF m 140 #[.val (.int p0), .val (.int p1), .val (.int p2), .val (.int (2 : Int32)), .val (.ref (w6_ELASTIC_IP Z)), .val (.int (1 : Int32)), .val (.ref (w1_YEAR Z)), .val (.int (9 : Int32)), .val (.int ((1 : Int32) + ((p2 &&& (2147483647 : Int32)) % (9 : Int32)))), .val (.ref b35)] [(.ref b35)])
      obtain ⟨_, T37, L37, X37, hQ37, st37⟩ := own_callV X36 hx hZ34 hown34 (hw _ (List.mem_of_getElem? (i := 61) rfl)) (hw _ (List.mem_of_getElem? (i := 62) rfl)) (notFace_of_selects (args := #[]) (mvT hZ34 (hw _ (List.mem_of_getElem? (i := 64) rfl)))) (hw _ (List.mem_of_getElem? (i := 64) rfl)) (hw _ (List.mem_of_getElem? (i := 63) rfl)) (hw _ (List.mem_of_getElem? (i := 28) rfl)) (hw _ (List.mem_of_getElem? (i := 65) rfl)) (by decide) F34_0 (rm8_6 l Z a0 hw hA hF [] b35 ((1 : Int32) + ((p2 &&& (2147483647 : Int32)) % (9 : Int32))) T34.heap n0 O34 F34_2) (W := 0) (by decide) (by decide) [] rfl (lenOf pd1 rfl) (Ls := #[.val (.int p0), .val (.int p1), .val (.int p2), .val (.int (2 : Int32)), .val (.ref (w6_ELASTIC_IP Z)), .val (.int (1 : Int32)), .val (.ref (w1_YEAR Z)), .val (.int (9 : Int32)), .val (.int ((1 : Int32) + ((p2 &&& (2147483647 : Int32)) % (9 : Int32)))), .val (.ref b35)]) (by rw [hml]; rfl) (rest := []) (Nat.le_of_eq rfl) (hb hby at_140) e36 (by decide) (by decide)
      refine st37 _ ?_
      obtain ⟨rfl, N37q, e37⟩ := hQ37
      have N37 := Fr.app N36 N37q
      show own_Wp p e below _ T37 (mkF m 143 #[.val (.int p0), .val (.int p1), .val (.int p2), .val (.int (2 : Int32)), .val (.ref (w6_ELASTIC_IP Z)), .val (.int (1 : Int32)), .val (.ref (w1_YEAR Z)), .val (.int (9 : Int32)), .val (.int ((1 : Int32) + ((p2 &&& (2147483647 : Int32)) % (9 : Int32)))), .val (.ref b35)] [(.int ((1 : Int32) + ((p2 &&& (2147483647 : Int32)) % (9 : Int32))))])
      refine own_step (fun _ k => XS.iload X37.here hx rfl (hb hby at_143) rfl k) ?_
      show own_Wp p e below _ T37 (mkF m 145 #[.val (.int p0), .val (.int p1), .val (.int p2), .val (.int (2 : Int32)), .val (.ref (w6_ELASTIC_IP Z)), .val (.int (1 : Int32)), .val (.ref (w1_YEAR Z)), .val (.int (9 : Int32)), .val (.int ((1 : Int32) + ((p2 &&& (2147483647 : Int32)) % (9 : Int32)))), .val (.ref b35)] [(.int ((1 : Int32) + ((p2 &&& (2147483647 : Int32)) % (9 : Int32)))), (.int ((1 : Int32) + ((p2 &&& (2147483647 : Int32)) % (9 : Int32))))])
      refine own_step (fun _ k => XS.icmpNo X37.here hx rfl (hb hby at_145) rfl (teq (rfl : ((1 : Int32) + ((p2 &&& (2147483647 : Int32)) % (9 : Int32))) = ((1 : Int32) + ((p2 &&& (2147483647 : Int32)) % (9 : Int32))))).2 k) ?_
      show own_Wp p e below _ T37 (mkF m 148 #[.val (.int p0), .val (.int p1), .val (.int p2), .val (.int (2 : Int32)), .val (.ref (w6_ELASTIC_IP Z)), .val (.int (1 : Int32)), .val (.ref (w1_YEAR Z)), .val (.int (9 : Int32)), .val (.int ((1 : Int32) + ((p2 &&& (2147483647 : Int32)) % (9 : Int32)))), .val (.ref b35)] [])
      refine own_step (fun _ k => XS.iconst X37.here hx rfl (hb hby at_148) k) ?_
      show own_Wp p e below _ T37 (mkF m 149 #[.val (.int p0), .val (.int p1), .val (.int p2), .val (.int (2 : Int32)), .val (.ref (w6_ELASTIC_IP Z)), .val (.int (1 : Int32)), .val (.ref (w1_YEAR Z)), .val (.int (9 : Int32)), .val (.int ((1 : Int32) + ((p2 &&& (2147483647 : Int32)) % (9 : Int32)))), .val (.ref b35)] [(.int (1 : Int32))])
      refine own_step (fun _ k => XS.goto X37.here hx rfl (pc0 := 149) (pc' := 153) rfl (hb hby at_149) (by decide) (by decide) k) ?_
      show own_Wp p e below _ T37 (mkF m 153 #[.val (.int p0), .val (.int p1), .val (.int p2), .val (.int (2 : Int32)), .val (.ref (w6_ELASTIC_IP Z)), .val (.int (1 : Int32)), .val (.ref (w1_YEAR Z)), .val (.int (9 : Int32)), .val (.int ((1 : Int32) + ((p2 &&& (2147483647 : Int32)) % (9 : Int32)))), .val (.ref b35)] [(.int (1 : Int32))])
      exact own_retNW X37 hS34 (by rw [e37]; exact (Nat.le_refl _)) hx (t := .boolean) hret (by simp) hlk (hb hby at_153) (by decide) (by decide) ⟨rfl, N37⟩
  · skip
    refine own_cast (g' := (mkF m 3 #[.val (.int p0), .val (.int p1), .val (.int p2), .unset, .unset, .unset, .unset, .unset, .unset, .unset] [(.int (3 : Int32))])) (by rw [hm1]) ?_
    show own_Wp p e below _ s₁ (mkF m 3 #[.val (.int p0), .val (.int p1), .val (.int p2), .unset, .unset, .unset, .unset, .unset, .unset, .unset] [(.int (3 : Int32))])
    refine own_step (fun _ k => XS.istoreN X0.here hx rfl (hb hby at_3) rfl (l' := #[.val (.int p0), .val (.int p1), .val (.int p2), .val (.int (3 : Int32)), .unset, .unset, .unset, .unset, .unset, .unset]) rfl k) ?_
    show own_Wp p e below _ s₁ (mkF m 4 #[.val (.int p0), .val (.int p1), .val (.int p2), .val (.int (3 : Int32)), .unset, .unset, .unset, .unset, .unset, .unset] [])
    refine own_step (fun _ k => XS.iloadN X0.here hx rfl (hb hby at_4) rfl k) ?_
    show own_Wp p e below _ s₁ (mkF m 5 #[.val (.int p0), .val (.int p1), .val (.int p2), .val (.int (3 : Int32)), .unset, .unset, .unset, .unset, .unset, .unset] [(.int (3 : Int32))])
    refine own_step (fun _ k => XS.ifYes X0.here hx rfl (pc0 := 5) (pc' := 16) rfl (hb hby at_5) rfl (by decide) (by decide) (by decide) k) ?_
    show own_Wp p e below _ s₁ (mkF m 16 #[.val (.int p0), .val (.int p1), .val (.int p2), .val (.int (3 : Int32)), .unset, .unset, .unset, .unset, .unset, .unset] [])
    refine own_step (fun _ k => XS.iloadN X0.here hx rfl (hb hby at_16) rfl k) ?_
    show own_Wp p e below _ s₁ (mkF m 17 #[.val (.int p0), .val (.int p1), .val (.int p2), .val (.int (3 : Int32)), .unset, .unset, .unset, .unset, .unset, .unset] [(.int (3 : Int32))])
    refine own_step (fun _ k => XS.iconst X0.here hx rfl (hb hby at_17) k) ?_
    show own_Wp p e below _ s₁ (mkF m 18 #[.val (.int p0), .val (.int p1), .val (.int p2), .val (.int (3 : Int32)), .unset, .unset, .unset, .unset, .unset, .unset] [(.int (1 : Int32)), (.int (3 : Int32))])
    refine own_step (fun _ k => XS.icmpYes X0.here hx rfl (pc0 := 18) (pc' := 29) rfl (hb hby at_18) rfl (by decide) (by decide) (by decide) k) ?_
    show own_Wp p e below _ s₁ (mkF m 29 #[.val (.int p0), .val (.int p1), .val (.int p2), .val (.int (3 : Int32)), .unset, .unset, .unset, .unset, .unset, .unset] [])
    refine own_step (fun _ k => XS.iloadN X0.here hx rfl (hb hby at_29) rfl k) ?_
    show own_Wp p e below _ s₁ (mkF m 30 #[.val (.int p0), .val (.int p1), .val (.int p2), .val (.int (3 : Int32)), .unset, .unset, .unset, .unset, .unset, .unset] [(.int (3 : Int32))])
    refine own_step (fun _ k => XS.iconst X0.here hx rfl (hb hby at_30) k) ?_
    show own_Wp p e below _ s₁ (mkF m 31 #[.val (.int p0), .val (.int p1), .val (.int p2), .val (.int (3 : Int32)), .unset, .unset, .unset, .unset, .unset, .unset] [(.int (2 : Int32)), (.int (3 : Int32))])
    refine own_step (fun _ k => XS.icmpYes X0.here hx rfl (pc0 := 31) (pc' := 42) rfl (hb hby at_31) rfl (by decide) (by decide) (by decide) k) ?_
    show own_Wp p e below _ s₁ (mkF m 42 #[.val (.int p0), .val (.int p1), .val (.int p2), .val (.int (3 : Int32)), .unset, .unset, .unset, .unset, .unset, .unset] [])
    obtain ⟨T38, X38, e38, st38⟩ := getS2 X0 hx hZ hown (host := "") (Or.inl (hw _ (List.mem_of_getElem? (i := 72) rfl))) Via.refl e0 ((st_w5_BACKUP_VAULT hw hA hF).ext O0.2) (g := (mkF m 42 #[.val (.int p0), .val (.int p1), .val (.int p2), .val (.int (3 : Int32)), .unset, .unset, .unset, .unset, .unset, .unset] [])) rfl (hb hby at_42)
    refine own_step st38 ?_
    show own_Wp p e below _ T38 (mkF m 45 #[.val (.int p0), .val (.int p1), .val (.int p2), .val (.int (3 : Int32)), .unset, .unset, .unset, .unset, .unset, .unset] [(.ref (w5_BACKUP_VAULT Z))])
    refine own_step (fun _ k => XS.astore X38.here hx rfl (hb hby at_45) rfl rfl (l' := #[.val (.int p0), .val (.int p1), .val (.int p2), .val (.int (3 : Int32)), .val (.ref (w5_BACKUP_VAULT Z)), .unset, .unset, .unset, .unset, .unset]) rfl k) ?_
    show own_Wp p e below _ T38 (mkF m 47 #[.val (.int p0), .val (.int p1), .val (.int p2), .val (.int (3 : Int32)), .val (.ref (w5_BACKUP_VAULT Z)), .unset, .unset, .unset, .unset, .unset] [])
    refine own_step (fun _ k => XS.iloadN X38.here hx rfl (hb hby at_47) rfl k) ?_
    show own_Wp p e below _ T38 (mkF m 48 #[.val (.int p0), .val (.int p1), .val (.int p2), .val (.int (3 : Int32)), .val (.ref (w5_BACKUP_VAULT Z)), .unset, .unset, .unset, .unset, .unset] [(.int p1)])
    refine own_step (fun _ k => XS.iconst X38.here hx rfl (hb hby at_48) k) ?_
    show own_Wp p e below _ T38 (mkF m 49 #[.val (.int p0), .val (.int p1), .val (.int p2), .val (.int (3 : Int32)), .val (.ref (w5_BACKUP_VAULT Z)), .unset, .unset, .unset, .unset, .unset] [(.int (1 : Int32)), (.int p1)])
    refine own_step (fun _ k => XS.iand X38.here hx rfl (hb hby at_49) rfl k) ?_
    show own_Wp p e below _ T38 (mkF m 50 #[.val (.int p0), .val (.int p1), .val (.int p2), .val (.int (3 : Int32)), .val (.ref (w5_BACKUP_VAULT Z)), .unset, .unset, .unset, .unset, .unset] [(.int (p1 &&& (1 : Int32)))])
    by_cases hc39 : (p1 &&& (1 : Int32)) = (0 : Int32)
    · skip
      refine own_step (fun _ k => XS.ifYes X38.here hx rfl (pc0 := 50) (pc' := 57) rfl (hb hby at_50) rfl ((if0 _ _).trans (teq hc39).1) (by decide) (by decide) k) ?_
      show own_Wp p e below _ T38 (mkF m 57 #[.val (.int p0), .val (.int p1), .val (.int p2), .val (.int (3 : Int32)), .val (.ref (w5_BACKUP_VAULT Z)), .unset, .unset, .unset, .unset, .unset] [])
      refine own_step (fun _ k => XS.iconst X38.here hx rfl (hb hby at_57) k) ?_
      show own_Wp p e below _ T38 (mkF m 58 #[.val (.int p0), .val (.int p1), .val (.int p2), .val (.int (3 : Int32)), .val (.ref (w5_BACKUP_VAULT Z)), .unset, .unset, .unset, .unset, .unset] [(.int (0 : Int32))])
      refine own_step (fun _ k => XS.istore X38.here hx rfl (hb hby at_58) rfl (l' := #[.val (.int p0), .val (.int p1), .val (.int p2), .val (.int (3 : Int32)), .val (.ref (w5_BACKUP_VAULT Z)), .val (.int (0 : Int32)), .unset, .unset, .unset, .unset]) rfl k) ?_
      show own_Wp p e below _ T38 (mkF m 60 #[.val (.int p0), .val (.int p1), .val (.int p2), .val (.int (3 : Int32)), .val (.ref (w5_BACKUP_VAULT Z)), .val (.int (0 : Int32)), .unset, .unset, .unset, .unset] [])
      refine own_step (fun _ k => XS.iload X38.here hx rfl (hb hby at_60) rfl k) ?_
      show own_Wp p e below _ T38 (mkF m 62 #[.val (.int p0), .val (.int p1), .val (.int p2), .val (.int (3 : Int32)), .val (.ref (w5_BACKUP_VAULT Z)), .val (.int (0 : Int32)), .unset, .unset, .unset, .unset] [(.int (0 : Int32))])
      refine own_step (fun _ k => XS.ifYes X38.here hx rfl (pc0 := 62) (pc' := 71) rfl (hb hby at_62) rfl (by decide) (by decide) (by decide) k) ?_
      show own_Wp p e below _ T38 (mkF m 71 #[.val (.int p0), .val (.int p1), .val (.int p2), .val (.int (3 : Int32)), .val (.ref (w5_BACKUP_VAULT Z)), .val (.int (0 : Int32)), .unset, .unset, .unset, .unset] [])
      obtain ⟨T40, X40, e40, st40⟩ := getS2 X38 hx hZ hown (host := "") (Or.inl (hw _ (List.mem_of_getElem? (i := 68) rfl))) Via.refl e38 ((st_w4_MONTH hw hA hF).ext O0.2) (g := (mkF m 71 #[.val (.int p0), .val (.int p1), .val (.int p2), .val (.int (3 : Int32)), .val (.ref (w5_BACKUP_VAULT Z)), .val (.int (0 : Int32)), .unset, .unset, .unset, .unset] [])) rfl (hb hby at_71)
      refine own_step st40 ?_
      show own_Wp p e below _ T40 (mkF m 74 #[.val (.int p0), .val (.int p1), .val (.int p2), .val (.int (3 : Int32)), .val (.ref (w5_BACKUP_VAULT Z)), .val (.int (0 : Int32)), .unset, .unset, .unset, .unset] [(.ref (w4_MONTH Z))])
      refine own_step (fun _ k => XS.astore X40.here hx rfl (hb hby at_74) rfl rfl (l' := #[.val (.int p0), .val (.int p1), .val (.int p2), .val (.int (3 : Int32)), .val (.ref (w5_BACKUP_VAULT Z)), .val (.int (0 : Int32)), .val (.ref (w4_MONTH Z)), .unset, .unset, .unset]) rfl k) ?_
      show own_Wp p e below _ T40 (mkF m 76 #[.val (.int p0), .val (.int p1), .val (.int p2), .val (.int (3 : Int32)), .val (.ref (w5_BACKUP_VAULT Z)), .val (.int (0 : Int32)), .val (.ref (w4_MONTH Z)), .unset, .unset, .unset] [])
      refine own_step (fun _ k => XS.iload X40.here hx rfl (hb hby at_76) rfl k) ?_
      show own_Wp p e below _ T40 (mkF m 78 #[.val (.int p0), .val (.int p1), .val (.int p2), .val (.int (3 : Int32)), .val (.ref (w5_BACKUP_VAULT Z)), .val (.int (0 : Int32)), .val (.ref (w4_MONTH Z)), .unset, .unset, .unset] [(.int (0 : Int32))])
      refine own_step (fun _ k => XS.ifYes X40.here hx rfl (pc0 := 78) (pc' := 97) rfl (hb hby at_78) rfl (by decide) (by decide) (by decide) k) ?_
      show own_Wp p e below _ T40 (mkF m 97 #[.val (.int p0), .val (.int p1), .val (.int p2), .val (.int (3 : Int32)), .val (.ref (w5_BACKUP_VAULT Z)), .val (.int (0 : Int32)), .val (.ref (w4_MONTH Z)), .unset, .unset, .unset] [])
      refine own_step (fun _ k => XS.bipush X40.here hx rfl (hb hby at_97) k) ?_
      show own_Wp p e below _ T40 (mkF m 99 #[.val (.int p0), .val (.int p1), .val (.int p2), .val (.int (3 : Int32)), .val (.ref (w5_BACKUP_VAULT Z)), .val (.int (0 : Int32)), .val (.ref (w4_MONTH Z)), .unset, .unset, .unset] [(.int (9 : Int32))])
      refine own_step (fun _ k => XS.istore X40.here hx rfl (hb hby at_99) rfl (l' := #[.val (.int p0), .val (.int p1), .val (.int p2), .val (.int (3 : Int32)), .val (.ref (w5_BACKUP_VAULT Z)), .val (.int (0 : Int32)), .val (.ref (w4_MONTH Z)), .val (.int (9 : Int32)), .unset, .unset]) rfl k) ?_
      show own_Wp p e below _ T40 (mkF m 101 #[.val (.int p0), .val (.int p1), .val (.int p2), .val (.int (3 : Int32)), .val (.ref (w5_BACKUP_VAULT Z)), .val (.int (0 : Int32)), .val (.ref (w4_MONTH Z)), .val (.int (9 : Int32)), .unset, .unset] [])
      refine own_step (fun _ k => XS.iconst X40.here hx rfl (hb hby at_101) k) ?_
      show own_Wp p e below _ T40 (mkF m 102 #[.val (.int p0), .val (.int p1), .val (.int p2), .val (.int (3 : Int32)), .val (.ref (w5_BACKUP_VAULT Z)), .val (.int (0 : Int32)), .val (.ref (w4_MONTH Z)), .val (.int (9 : Int32)), .unset, .unset] [(.int (1 : Int32))])
      refine own_step (fun _ k => XS.iloadN X40.here hx rfl (hb hby at_102) rfl k) ?_
      show own_Wp p e below _ T40 (mkF m 103 #[.val (.int p0), .val (.int p1), .val (.int p2), .val (.int (3 : Int32)), .val (.ref (w5_BACKUP_VAULT Z)), .val (.int (0 : Int32)), .val (.ref (w4_MONTH Z)), .val (.int (9 : Int32)), .unset, .unset] [(.int p2), (.int (1 : Int32))])
      refine own_step (X40.ldcInt hx hown (mvT hZ (hw _ (List.mem_of_getElem? (i := 6) rfl))) (g := (mkF m 103 #[.val (.int p0), .val (.int p1), .val (.int p2), .val (.int (3 : Int32)), .val (.ref (w5_BACKUP_VAULT Z)), .val (.int (0 : Int32)), .val (.ref (w4_MONTH Z)), .val (.int (9 : Int32)), .unset, .unset] [(.int p2), (.int (1 : Int32))])) rfl (hb hby at_103)) ?_
      show own_Wp p e below _ T40 (mkF m 105 #[.val (.int p0), .val (.int p1), .val (.int p2), .val (.int (3 : Int32)), .val (.ref (w5_BACKUP_VAULT Z)), .val (.int (0 : Int32)), .val (.ref (w4_MONTH Z)), .val (.int (9 : Int32)), .unset, .unset] [(.int (2147483647 : Int32)), (.int p2), (.int (1 : Int32))])
      refine own_step (fun _ k => XS.iand X40.here hx rfl (hb hby at_105) rfl k) ?_
      show own_Wp p e below _ T40 (mkF m 106 #[.val (.int p0), .val (.int p1), .val (.int p2), .val (.int (3 : Int32)), .val (.ref (w5_BACKUP_VAULT Z)), .val (.int (0 : Int32)), .val (.ref (w4_MONTH Z)), .val (.int (9 : Int32)), .unset, .unset] [(.int (p2 &&& (2147483647 : Int32))), (.int (1 : Int32))])
      refine own_step (fun _ k => XS.iload X40.here hx rfl (hb hby at_106) rfl k) ?_
      show own_Wp p e below _ T40 (mkF m 108 #[.val (.int p0), .val (.int p1), .val (.int p2), .val (.int (3 : Int32)), .val (.ref (w5_BACKUP_VAULT Z)), .val (.int (0 : Int32)), .val (.ref (w4_MONTH Z)), .val (.int (9 : Int32)), .unset, .unset] [(.int (9 : Int32)), (.int (p2 &&& (2147483647 : Int32))), (.int (1 : Int32))])
      refine own_step (fun _ k => iremM (g := (mkF m 108 #[.val (.int p0), .val (.int p1), .val (.int p2), .val (.int (3 : Int32)), .val (.ref (w5_BACKUP_VAULT Z)), .val (.int (0 : Int32)), .val (.ref (w4_MONTH Z)), .val (.int (9 : Int32)), .unset, .unset] [(.int (9 : Int32)), (.int (p2 &&& (2147483647 : Int32))), (.int (1 : Int32))])) X40 hx rfl (hb hby at_108) rfl (by decide) k) ?_
      show own_Wp p e below _ T40 (mkF m 109 #[.val (.int p0), .val (.int p1), .val (.int p2), .val (.int (3 : Int32)), .val (.ref (w5_BACKUP_VAULT Z)), .val (.int (0 : Int32)), .val (.ref (w4_MONTH Z)), .val (.int (9 : Int32)), .unset, .unset] [(.int ((p2 &&& (2147483647 : Int32)) % (9 : Int32))), (.int (1 : Int32))])
      refine own_step (fun _ k => XS.iadd X40.here hx rfl (hb hby at_109) rfl k) ?_
      show own_Wp p e below _ T40 (mkF m 110 #[.val (.int p0), .val (.int p1), .val (.int p2), .val (.int (3 : Int32)), .val (.ref (w5_BACKUP_VAULT Z)), .val (.int (0 : Int32)), .val (.ref (w4_MONTH Z)), .val (.int (9 : Int32)), .unset, .unset] [(.int ((1 : Int32) + ((p2 &&& (2147483647 : Int32)) % (9 : Int32))))])
      have hr1 : ¬ (((1 : Int32) + ((p2 &&& (2147483647 : Int32)) % (9 : Int32))) < (1 : Int32)) := own_r1 p2 (n := (9 : Int32)) (by decide) (by decide)
      have hr2 : ¬ ((9 : Int32) < ((1 : Int32) + ((p2 &&& (2147483647 : Int32)) % (9 : Int32)))) := own_r2 p2 (n := (9 : Int32)) (by decide) (by decide)
      refine own_step (fun _ k => XS.istore X40.here hx rfl (hb hby at_110) rfl (l' := #[.val (.int p0), .val (.int p1), .val (.int p2), .val (.int (3 : Int32)), .val (.ref (w5_BACKUP_VAULT Z)), .val (.int (0 : Int32)), .val (.ref (w4_MONTH Z)), .val (.int (9 : Int32)), .val (.int ((1 : Int32) + ((p2 &&& (2147483647 : Int32)) % (9 : Int32)))), .unset]) rfl k) ?_
      show own_Wp p e below _ T40 (mkF m 112 #[.val (.int p0), .val (.int p1), .val (.int p2), .val (.int (3 : Int32)), .val (.ref (w5_BACKUP_VAULT Z)), .val (.int (0 : Int32)), .val (.ref (w4_MONTH Z)), .val (.int (9 : Int32)), .val (.int ((1 : Int32) + ((p2 &&& (2147483647 : Int32)) % (9 : Int32)))), .unset] [])
      refine own_step (fun _ k => XS.aload X40.here hx rfl (hb hby at_112) rfl rfl k) ?_
      show own_Wp p e below _ T40 (mkF m 114 #[.val (.int p0), .val (.int p1), .val (.int p2), .val (.int (3 : Int32)), .val (.ref (w5_BACKUP_VAULT Z)), .val (.int (0 : Int32)), .val (.ref (w4_MONTH Z)), .val (.int (9 : Int32)), .val (.int ((1 : Int32) + ((p2 &&& (2147483647 : Int32)) % (9 : Int32)))), .unset] [(.ref (w5_BACKUP_VAULT Z))])
      refine own_step (fun _ k => XS.aload X40.here hx rfl (hb hby at_114) rfl rfl k) ?_
      show own_Wp p e below _ T40 (mkF m 116 #[.val (.int p0), .val (.int p1), .val (.int p2), .val (.int (3 : Int32)), .val (.ref (w5_BACKUP_VAULT Z)), .val (.int (0 : Int32)), .val (.ref (w4_MONTH Z)), .val (.int (9 : Int32)), .val (.int ((1 : Int32) + ((p2 &&& (2147483647 : Int32)) % (9 : Int32)))), .unset] [(.ref (w4_MONTH Z)), (.ref (w5_BACKUP_VAULT Z))])
      refine own_step (fun _ k => XS.iload X40.here hx rfl (hb hby at_116) rfl k) ?_
      show own_Wp p e below _ T40 (mkF m 118 #[.val (.int p0), .val (.int p1), .val (.int p2), .val (.int (3 : Int32)), .val (.ref (w5_BACKUP_VAULT Z)), .val (.int (0 : Int32)), .val (.ref (w4_MONTH Z)), .val (.int (9 : Int32)), .val (.int ((1 : Int32) + ((p2 &&& (2147483647 : Int32)) % (9 : Int32)))), .unset] [(.int ((1 : Int32) + ((p2 &&& (2147483647 : Int32)) % (9 : Int32)))), (.ref (w4_MONTH Z)), (.ref (w5_BACKUP_VAULT Z))])
      obtain ⟨_, T41, L41, X41, hS41, hZ41, hown41, hQ41, st41⟩ := own_callVW X40 hx hZ hS0 (Nat.zero_le _) hown (hw _ (List.mem_of_getElem? (i := 7) rfl)) (hw _ (List.mem_of_getElem? (i := 8) rfl)) (notFace_of_selects (args := #[]) (mvT hZ (hw _ (List.mem_of_getElem? (i := 10) rfl)))) (hw _ (List.mem_of_getElem? (i := 10) rfl)) (hw _ (List.mem_of_getElem? (i := 9) rfl)) (hw _ (List.mem_of_getElem? (i := 1) rfl)) (hw _ (List.mem_of_getElem? (i := 11) rfl)) (by decide) ((ex_w5_BACKUP_VAULT hw hA hF).ext O0.2) (rm1_4 l Z a0 hw hA hF [] (w5_BACKUP_VAULT Z) (w4_MONTH Z) ((1 : Int32) + ((p2 &&& (2147483647 : Int32)) % (9 : Int32))) h0 n0 O0 hr1 hr2 (fl2 hw hA hF) (ex_w4_MONTH hw hA hF) (fl5 hw hA hF)) (W := 0) (by decide) (by decide) [(.ref (w4_MONTH Z)), (.int ((1 : Int32) + ((p2 &&& (2147483647 : Int32)) % (9 : Int32))))] rfl (lenOf pd9 rfl) (Ls := #[.val (.int p0), .val (.int p1), .val (.int p2), .val (.int (3 : Int32)), .val (.ref (w5_BACKUP_VAULT Z)), .val (.int (0 : Int32)), .val (.ref (w4_MONTH Z)), .val (.int (9 : Int32)), .val (.int ((1 : Int32) + ((p2 &&& (2147483647 : Int32)) % (9 : Int32)))), .unset]) (by rw [hml]; rfl) (rest := []) (Nat.le_of_eq rfl) (hb hby at_118) e40 (by decide) (by decide)
      refine st41 _ ?_
      obtain ⟨b42, rfl, N41q, K41q, y41_0, F41_0, F41_1, F41_2⟩ := hQ41
      have N41 := Fr.app (Fr.nil n0) N41q
      have g41_0 : n0 ≤ b42 := Nat.le_trans (O0.1 ▸ O0.2.1) y41_0
      have u41_0 : h0.size ≤ b42 := Nat.le_trans (Nat.le_refl _) y41_0
      have O41 := O0.keep K41q all0
      have K41 : Keep h0 T41.heap [] := Keep.trans (Keep.refl h0 []) K41q all0
      show own_Wp p e below _ T41 (mkF m 121 #[.val (.int p0), .val (.int p1), .val (.int p2), .val (.int (3 : Int32)), .val (.ref (w5_BACKUP_VAULT Z)), .val (.int (0 : Int32)), .val (.ref (w4_MONTH Z)), .val (.int (9 : Int32)), .val (.int ((1 : Int32) + ((p2 &&& (2147483647 : Int32)) % (9 : Int32)))), .unset] [(.ref b42)])
      refine own_step (fun _ k => XS.astore X41.here hx rfl (hb hby at_121) rfl rfl (l' := #[.val (.int p0), .val (.int p1), .val (.int p2), .val (.int (3 : Int32)), .val (.ref (w5_BACKUP_VAULT Z)), .val (.int (0 : Int32)), .val (.ref (w4_MONTH Z)), .val (.int (9 : Int32)), .val (.int ((1 : Int32) + ((p2 &&& (2147483647 : Int32)) % (9 : Int32)))), .val (.ref b42)]) rfl k) ?_
      show own_Wp p e below _ T41 (mkF m 123 #[.val (.int p0), .val (.int p1), .val (.int p2), .val (.int (3 : Int32)), .val (.ref (w5_BACKUP_VAULT Z)), .val (.int (0 : Int32)), .val (.ref (w4_MONTH Z)), .val (.int (9 : Int32)), .val (.int ((1 : Int32) + ((p2 &&& (2147483647 : Int32)) % (9 : Int32)))), .val (.ref b42)] [])
      refine own_step (fun _ k => XS.aload X41.here hx rfl (hb hby at_123) rfl rfl k) ?_
      show own_Wp p e below _ T41 (mkF m 125 #[.val (.int p0), .val (.int p1), .val (.int p2), .val (.int (3 : Int32)), .val (.ref (w5_BACKUP_VAULT Z)), .val (.int (0 : Int32)), .val (.ref (w4_MONTH Z)), .val (.int (9 : Int32)), .val (.int ((1 : Int32) + ((p2 &&& (2147483647 : Int32)) % (9 : Int32)))), .val (.ref b42)] [(.ref b42)])
      refine own_step (fun _ k => XS.ifnullNo X41.here hx rfl (hb hby at_125) rfl k) ?_
      show own_Wp p e below _ T41 (mkF m 128 #[.val (.int p0), .val (.int p1), .val (.int p2), .val (.int (3 : Int32)), .val (.ref (w5_BACKUP_VAULT Z)), .val (.int (0 : Int32)), .val (.ref (w4_MONTH Z)), .val (.int (9 : Int32)), .val (.int ((1 : Int32) + ((p2 &&& (2147483647 : Int32)) % (9 : Int32)))), .val (.ref b42)] [])
      refine own_step (fun _ k => XS.aload X41.here hx rfl (hb hby at_128) rfl rfl k) ?_
      show own_Wp p e below _ T41 (mkF m 130 #[.val (.int p0), .val (.int p1), .val (.int p2), .val (.int (3 : Int32)), .val (.ref (w5_BACKUP_VAULT Z)), .val (.int (0 : Int32)), .val (.ref (w4_MONTH Z)), .val (.int (9 : Int32)), .val (.int ((1 : Int32) + ((p2 &&& (2147483647 : Int32)) % (9 : Int32)))), .val (.ref b42)] [(.ref b42)])
      obtain ⟨_, T43, L43, X43, hQ43, st43⟩ := own_callV X41 hx hZ41 hown41 (hw _ (List.mem_of_getElem? (i := 56) rfl)) (hw _ (List.mem_of_getElem? (i := 57) rfl)) (notFace_of_selects (args := #[]) (mvT hZ41 (hw _ (List.mem_of_getElem? (i := 59) rfl)))) (hw _ (List.mem_of_getElem? (i := 59) rfl)) (hw _ (List.mem_of_getElem? (i := 58) rfl)) (hw _ (List.mem_of_getElem? (i := 28) rfl)) (hw _ (List.mem_of_getElem? (i := 60) rfl)) (by decide) F41_0 (rm7_5 l Z a0 hw hA hF [] b42 T41.heap n0 O41 F41_1) (W := 0) (by decide) (by decide) [] rfl (lenOf pd10 rfl) (Ls := #[.val (.int p0), .val (.int p1), .val (.int p2), .val (.int (3 : Int32)), .val (.ref (w5_BACKUP_VAULT Z)), .val (.int (0 : Int32)), .val (.ref (w4_MONTH Z)), .val (.int (9 : Int32)), .val (.int ((1 : Int32) + ((p2 &&& (2147483647 : Int32)) % (9 : Int32)))), .val (.ref b42)]) (by rw [hml]; rfl) (rest := []) (Nat.le_of_eq rfl) (hb hby at_130) rfl (by decide) (by decide)
      refine st43 _ ?_
      obtain ⟨rfl, N43q, e43⟩ := hQ43
      have N43 := Fr.app N41 N43q
      show own_Wp p e below _ T43 (mkF m 133 #[.val (.int p0), .val (.int p1), .val (.int p2), .val (.int (3 : Int32)), .val (.ref (w5_BACKUP_VAULT Z)), .val (.int (0 : Int32)), .val (.ref (w4_MONTH Z)), .val (.int (9 : Int32)), .val (.int ((1 : Int32) + ((p2 &&& (2147483647 : Int32)) % (9 : Int32)))), .val (.ref b42)] [(.ref (w4_MONTH Z))])
      refine own_step (fun _ k => XS.aload X43.here hx rfl (hb hby at_133) rfl rfl k) ?_
      show own_Wp p e below _ T43 (mkF m 135 #[.val (.int p0), .val (.int p1), .val (.int p2), .val (.int (3 : Int32)), .val (.ref (w5_BACKUP_VAULT Z)), .val (.int (0 : Int32)), .val (.ref (w4_MONTH Z)), .val (.int (9 : Int32)), .val (.int ((1 : Int32) + ((p2 &&& (2147483647 : Int32)) % (9 : Int32)))), .val (.ref b42)] [(.ref (w4_MONTH Z)), (.ref (w4_MONTH Z))])
      refine own_step (fun _ k => Jvm.RoadKit.acmp (g := (mkF m 135 #[.val (.int p0), .val (.int p1), .val (.int p2), .val (.int (3 : Int32)), .val (.ref (w5_BACKUP_VAULT Z)), .val (.int (0 : Int32)), .val (.ref (w4_MONTH Z)), .val (.int (9 : Int32)), .val (.int ((1 : Int32) + ((p2 &&& (2147483647 : Int32)) % (9 : Int32)))), .val (.ref b42)] [(.ref (w4_MONTH Z)), (.ref (w4_MONTH Z))])) X43 hx rfl rfl rfl (pc0 := 135) (pc' := 138) (same := true) rfl (hb hby at_135) rfl (decide_eq_true rfl) (by decide) (by decide) k) ?_
      show own_Wp p e below _ T43 (mkF m 138 #[.val (.int p0), .val (.int p1), .val (.int p2), .val (.int (3 : Int32)), .val (.ref (w5_BACKUP_VAULT Z)), .val (.int (0 : Int32)), .val (.ref (w4_MONTH Z)), .val (.int (9 : Int32)), .val (.int ((1 : Int32) + ((p2 &&& (2147483647 : Int32)) % (9 : Int32)))), .val (.ref b42)] [])
      refine own_step (fun _ k => XS.aload X43.here hx rfl (hb hby at_138) rfl rfl k) ?_
      show own_Wp p e below _ T43 (mkF m 140 #[.val (.int p0), .val (.int p1), .val (.int p2), .val (.int (3 : Int32)), .val (.ref (w5_BACKUP_VAULT Z)), .val (.int (0 : Int32)), .val (.ref (w4_MONTH Z)), .val (.int (9 : Int32)), .val (.int ((1 : Int32) + ((p2 &&& (2147483647 : Int32)) % (9 : Int32)))), .val (.ref b42)] [(.ref b42)])
      obtain ⟨_, T44, L44, X44, hQ44, st44⟩ := own_callV X43 hx hZ41 hown41 (hw _ (List.mem_of_getElem? (i := 61) rfl)) (hw _ (List.mem_of_getElem? (i := 62) rfl)) (notFace_of_selects (args := #[]) (mvT hZ41 (hw _ (List.mem_of_getElem? (i := 64) rfl)))) (hw _ (List.mem_of_getElem? (i := 64) rfl)) (hw _ (List.mem_of_getElem? (i := 63) rfl)) (hw _ (List.mem_of_getElem? (i := 28) rfl)) (hw _ (List.mem_of_getElem? (i := 65) rfl)) (by decide) F41_0 (rm8_6 l Z a0 hw hA hF [] b42 ((1 : Int32) + ((p2 &&& (2147483647 : Int32)) % (9 : Int32))) T41.heap n0 O41 F41_2) (W := 0) (by decide) (by decide) [] rfl (lenOf pd1 rfl) (Ls := #[.val (.int p0), .val (.int p1), .val (.int p2), .val (.int (3 : Int32)), .val (.ref (w5_BACKUP_VAULT Z)), .val (.int (0 : Int32)), .val (.ref (w4_MONTH Z)), .val (.int (9 : Int32)), .val (.int ((1 : Int32) + ((p2 &&& (2147483647 : Int32)) % (9 : Int32)))), .val (.ref b42)]) (by rw [hml]; rfl) (rest := []) (Nat.le_of_eq rfl) (hb hby at_140) e43 (by decide) (by decide)
      refine st44 _ ?_
      obtain ⟨rfl, N44q, e44⟩ := hQ44
      have N44 := Fr.app N43 N44q
      show own_Wp p e below _ T44 (mkF m 143 #[.val (.int p0), .val (.int p1), .val (.int p2), .val (.int (3 : Int32)), .val (.ref (w5_BACKUP_VAULT Z)), .val (.int (0 : Int32)), .val (.ref (w4_MONTH Z)), .val (.int (9 : Int32)), .val (.int ((1 : Int32) + ((p2 &&& (2147483647 : Int32)) % (9 : Int32)))), .val (.ref b42)] [(.int ((1 : Int32) + ((p2 &&& (2147483647 : Int32)) % (9 : Int32))))])
      refine own_step (fun _ k => XS.iload X44.here hx rfl (hb hby at_143) rfl k) ?_
      show own_Wp p e below _ T44 (mkF m 145 #[.val (.int p0), .val (.int p1), .val (.int p2), .val (.int (3 : Int32)), .val (.ref (w5_BACKUP_VAULT Z)), .val (.int (0 : Int32)), .val (.ref (w4_MONTH Z)), .val (.int (9 : Int32)), .val (.int ((1 : Int32) + ((p2 &&& (2147483647 : Int32)) % (9 : Int32)))), .val (.ref b42)] [(.int ((1 : Int32) + ((p2 &&& (2147483647 : Int32)) % (9 : Int32)))), (.int ((1 : Int32) + ((p2 &&& (2147483647 : Int32)) % (9 : Int32))))])
      refine own_step (fun _ k => XS.icmpNo X44.here hx rfl (hb hby at_145) rfl (teq (rfl : ((1 : Int32) + ((p2 &&& (2147483647 : Int32)) % (9 : Int32))) = ((1 : Int32) + ((p2 &&& (2147483647 : Int32)) % (9 : Int32))))).2 k) ?_
      show own_Wp p e below _ T44 (mkF m 148 #[.val (.int p0), .val (.int p1), .val (.int p2), .val (.int (3 : Int32)), .val (.ref (w5_BACKUP_VAULT Z)), .val (.int (0 : Int32)), .val (.ref (w4_MONTH Z)), .val (.int (9 : Int32)), .val (.int ((1 : Int32) + ((p2 &&& (2147483647 : Int32)) % (9 : Int32)))), .val (.ref b42)] [])
      refine own_step (fun _ k => XS.iconst X44.here hx rfl (hb hby at_148) k) ?_
      show own_Wp p e below _ T44 (mkF m 149 #[.val (.int p0), .val (.int p1), .val (.int p2), .val (.int (3 : Int32)), .val (.ref (w5_BACKUP_VAULT Z)), .val (.int (0 : Int32)), .val (.ref (w4_MONTH Z)), .val (.int (9 : Int32)), .val (.int ((1 : Int32) + ((p2 &&& (2147483647 : Int32)) % (9 : Int32)))), .val (.ref b42)] [(.int (1 : Int32))])
      refine own_step (fun _ k => XS.goto X44.here hx rfl (pc0 := 149) (pc' := 153) rfl (hb hby at_149) (by decide) (by decide) k) ?_
      show own_Wp p e below _ T44 (mkF m 153 #[.val (.int p0), .val (.int p1), .val (.int p2), .val (.int (3 : Int32)), .val (.ref (w5_BACKUP_VAULT Z)), .val (.int (0 : Int32)), .val (.ref (w4_MONTH Z)), .val (.int (9 : Int32)), .val (.int ((1 : Int32) + ((p2 &&& (2147483647 : Int32)) % (9 : Int32)))), .val (.ref b42)] [(.int (1 : Int32))])
      exact own_retNW X44 hS41 (by rw [e44]; exact (Nat.le_refl _)) hx (t := .boolean) hret (by simp) hlk (hb hby at_153) (by decide) (by decide) ⟨rfl, N44⟩
    · skip
      refine own_step (fun _ k => XS.ifNo X38.here hx rfl (hb hby at_50) rfl ((if0 _ _).trans (feq hc39).1) k) ?_
      show own_Wp p e below _ T38 (mkF m 53 #[.val (.int p0), .val (.int p1), .val (.int p2), .val (.int (3 : Int32)), .val (.ref (w5_BACKUP_VAULT Z)), .unset, .unset, .unset, .unset, .unset] [])
      refine own_step (fun _ k => XS.iconst X38.here hx rfl (hb hby at_53) k) ?_
      show own_Wp p e below _ T38 (mkF m 54 #[.val (.int p0), .val (.int p1), .val (.int p2), .val (.int (3 : Int32)), .val (.ref (w5_BACKUP_VAULT Z)), .unset, .unset, .unset, .unset, .unset] [(.int (1 : Int32))])
      refine own_step (fun _ k => XS.goto X38.here hx rfl (pc0 := 54) (pc' := 58) rfl (hb hby at_54) (by decide) (by decide) k) ?_
      show own_Wp p e below _ T38 (mkF m 58 #[.val (.int p0), .val (.int p1), .val (.int p2), .val (.int (3 : Int32)), .val (.ref (w5_BACKUP_VAULT Z)), .unset, .unset, .unset, .unset, .unset] [(.int (1 : Int32))])
      refine own_step (fun _ k => XS.istore X38.here hx rfl (hb hby at_58) rfl (l' := #[.val (.int p0), .val (.int p1), .val (.int p2), .val (.int (3 : Int32)), .val (.ref (w5_BACKUP_VAULT Z)), .val (.int (1 : Int32)), .unset, .unset, .unset, .unset]) rfl k) ?_
      show own_Wp p e below _ T38 (mkF m 60 #[.val (.int p0), .val (.int p1), .val (.int p2), .val (.int (3 : Int32)), .val (.ref (w5_BACKUP_VAULT Z)), .val (.int (1 : Int32)), .unset, .unset, .unset, .unset] [])
      refine own_step (fun _ k => XS.iload X38.here hx rfl (hb hby at_60) rfl k) ?_
      show own_Wp p e below _ T38 (mkF m 62 #[.val (.int p0), .val (.int p1), .val (.int p2), .val (.int (3 : Int32)), .val (.ref (w5_BACKUP_VAULT Z)), .val (.int (1 : Int32)), .unset, .unset, .unset, .unset] [(.int (1 : Int32))])
      refine own_step (fun _ k => XS.ifNo X38.here hx rfl (hb hby at_62) rfl (by decide) k) ?_
      show own_Wp p e below _ T38 (mkF m 65 #[.val (.int p0), .val (.int p1), .val (.int p2), .val (.int (3 : Int32)), .val (.ref (w5_BACKUP_VAULT Z)), .val (.int (1 : Int32)), .unset, .unset, .unset, .unset] [])
      obtain ⟨T45, X45, e45, st45⟩ := getS2 X38 hx hZ hown (host := "") (Or.inl (hw _ (List.mem_of_getElem? (i := 3) rfl))) Via.refl e38 ((st_w1_YEAR hw hA hF).ext O0.2) (g := (mkF m 65 #[.val (.int p0), .val (.int p1), .val (.int p2), .val (.int (3 : Int32)), .val (.ref (w5_BACKUP_VAULT Z)), .val (.int (1 : Int32)), .unset, .unset, .unset, .unset] [])) rfl (hb hby at_65)
      refine own_step st45 ?_
      show own_Wp p e below _ T45 (mkF m 68 #[.val (.int p0), .val (.int p1), .val (.int p2), .val (.int (3 : Int32)), .val (.ref (w5_BACKUP_VAULT Z)), .val (.int (1 : Int32)), .unset, .unset, .unset, .unset] [(.ref (w1_YEAR Z))])
      refine own_step (fun _ k => XS.goto X45.here hx rfl (pc0 := 68) (pc' := 74) rfl (hb hby at_68) (by decide) (by decide) k) ?_
      show own_Wp p e below _ T45 (mkF m 74 #[.val (.int p0), .val (.int p1), .val (.int p2), .val (.int (3 : Int32)), .val (.ref (w5_BACKUP_VAULT Z)), .val (.int (1 : Int32)), .unset, .unset, .unset, .unset] [(.ref (w1_YEAR Z))])
      refine own_step (fun _ k => XS.astore X45.here hx rfl (hb hby at_74) rfl rfl (l' := #[.val (.int p0), .val (.int p1), .val (.int p2), .val (.int (3 : Int32)), .val (.ref (w5_BACKUP_VAULT Z)), .val (.int (1 : Int32)), .val (.ref (w1_YEAR Z)), .unset, .unset, .unset]) rfl k) ?_
      show own_Wp p e below _ T45 (mkF m 76 #[.val (.int p0), .val (.int p1), .val (.int p2), .val (.int (3 : Int32)), .val (.ref (w5_BACKUP_VAULT Z)), .val (.int (1 : Int32)), .val (.ref (w1_YEAR Z)), .unset, .unset, .unset] [])
      refine own_step (fun _ k => XS.iload X45.here hx rfl (hb hby at_76) rfl k) ?_
      show own_Wp p e below _ T45 (mkF m 78 #[.val (.int p0), .val (.int p1), .val (.int p2), .val (.int (3 : Int32)), .val (.ref (w5_BACKUP_VAULT Z)), .val (.int (1 : Int32)), .val (.ref (w1_YEAR Z)), .unset, .unset, .unset] [(.int (1 : Int32))])
      refine own_step (fun _ k => XS.ifNo X45.here hx rfl (hb hby at_78) rfl (by decide) k) ?_
      show own_Wp p e below _ T45 (mkF m 81 #[.val (.int p0), .val (.int p1), .val (.int p2), .val (.int (3 : Int32)), .val (.ref (w5_BACKUP_VAULT Z)), .val (.int (1 : Int32)), .val (.ref (w1_YEAR Z)), .unset, .unset, .unset] [])
      refine own_step (fun _ k => XS.iloadN X45.here hx rfl (hb hby at_81) rfl k) ?_
      show own_Wp p e below _ T45 (mkF m 82 #[.val (.int p0), .val (.int p1), .val (.int p2), .val (.int (3 : Int32)), .val (.ref (w5_BACKUP_VAULT Z)), .val (.int (1 : Int32)), .val (.ref (w1_YEAR Z)), .unset, .unset, .unset] [(.int (3 : Int32))])
      refine own_step (fun _ k => XS.iconst X45.here hx rfl (hb hby at_82) k) ?_
      show own_Wp p e below _ T45 (mkF m 83 #[.val (.int p0), .val (.int p1), .val (.int p2), .val (.int (3 : Int32)), .val (.ref (w5_BACKUP_VAULT Z)), .val (.int (1 : Int32)), .val (.ref (w1_YEAR Z)), .unset, .unset, .unset] [(.int (1 : Int32)), (.int (3 : Int32))])
      refine own_step (fun _ k => XS.icmpYes X45.here hx rfl (pc0 := 83) (pc' := 90) rfl (hb hby at_83) rfl (by decide) (by decide) (by decide) k) ?_
      show own_Wp p e below _ T45 (mkF m 90 #[.val (.int p0), .val (.int p1), .val (.int p2), .val (.int (3 : Int32)), .val (.ref (w5_BACKUP_VAULT Z)), .val (.int (1 : Int32)), .val (.ref (w1_YEAR Z)), .unset, .unset, .unset] [])
      refine own_step (fun _ k => XS.bipush X45.here hx rfl (hb hby at_90) k) ?_
      show own_Wp p e below _ T45 (mkF m 92 #[.val (.int p0), .val (.int p1), .val (.int p2), .val (.int (3 : Int32)), .val (.ref (w5_BACKUP_VAULT Z)), .val (.int (1 : Int32)), .val (.ref (w1_YEAR Z)), .unset, .unset, .unset] [(.int (9 : Int32))])
      refine own_step (fun _ k => XS.istore X45.here hx rfl (hb hby at_92) rfl (l' := #[.val (.int p0), .val (.int p1), .val (.int p2), .val (.int (3 : Int32)), .val (.ref (w5_BACKUP_VAULT Z)), .val (.int (1 : Int32)), .val (.ref (w1_YEAR Z)), .val (.int (9 : Int32)), .unset, .unset]) rfl k) ?_
      show own_Wp p e below _ T45 (mkF m 94 #[.val (.int p0), .val (.int p1), .val (.int p2), .val (.int (3 : Int32)), .val (.ref (w5_BACKUP_VAULT Z)), .val (.int (1 : Int32)), .val (.ref (w1_YEAR Z)), .val (.int (9 : Int32)), .unset, .unset] [])
      refine own_step (fun _ k => XS.goto X45.here hx rfl (pc0 := 94) (pc' := 101) rfl (hb hby at_94) (by decide) (by decide) k) ?_
      show own_Wp p e below _ T45 (mkF m 101 #[.val (.int p0), .val (.int p1), .val (.int p2), .val (.int (3 : Int32)), .val (.ref (w5_BACKUP_VAULT Z)), .val (.int (1 : Int32)), .val (.ref (w1_YEAR Z)), .val (.int (9 : Int32)), .unset, .unset] [])
      refine own_step (fun _ k => XS.iconst X45.here hx rfl (hb hby at_101) k) ?_
      show own_Wp p e below _ T45 (mkF m 102 #[.val (.int p0), .val (.int p1), .val (.int p2), .val (.int (3 : Int32)), .val (.ref (w5_BACKUP_VAULT Z)), .val (.int (1 : Int32)), .val (.ref (w1_YEAR Z)), .val (.int (9 : Int32)), .unset, .unset] [(.int (1 : Int32))])
      refine own_step (fun _ k => XS.iloadN X45.here hx rfl (hb hby at_102) rfl k) ?_
      show own_Wp p e below _ T45 (mkF m 103 #[.val (.int p0), .val (.int p1), .val (.int p2), .val (.int (3 : Int32)), .val (.ref (w5_BACKUP_VAULT Z)), .val (.int (1 : Int32)), .val (.ref (w1_YEAR Z)), .val (.int (9 : Int32)), .unset, .unset] [(.int p2), (.int (1 : Int32))])
      refine own_step (X45.ldcInt hx hown (mvT hZ (hw _ (List.mem_of_getElem? (i := 6) rfl))) (g := (mkF m 103 #[.val (.int p0), .val (.int p1), .val (.int p2), .val (.int (3 : Int32)), .val (.ref (w5_BACKUP_VAULT Z)), .val (.int (1 : Int32)), .val (.ref (w1_YEAR Z)), .val (.int (9 : Int32)), .unset, .unset] [(.int p2), (.int (1 : Int32))])) rfl (hb hby at_103)) ?_
      show own_Wp p e below _ T45 (mkF m 105 #[.val (.int p0), .val (.int p1), .val (.int p2), .val (.int (3 : Int32)), .val (.ref (w5_BACKUP_VAULT Z)), .val (.int (1 : Int32)), .val (.ref (w1_YEAR Z)), .val (.int (9 : Int32)), .unset, .unset] [(.int (2147483647 : Int32)), (.int p2), (.int (1 : Int32))])
      refine own_step (fun _ k => XS.iand X45.here hx rfl (hb hby at_105) rfl k) ?_
      show own_Wp p e below _ T45 (mkF m 106 #[.val (.int p0), .val (.int p1), .val (.int p2), .val (.int (3 : Int32)), .val (.ref (w5_BACKUP_VAULT Z)), .val (.int (1 : Int32)), .val (.ref (w1_YEAR Z)), .val (.int (9 : Int32)), .unset, .unset] [(.int (p2 &&& (2147483647 : Int32))), (.int (1 : Int32))])
      refine own_step (fun _ k => XS.iload X45.here hx rfl (hb hby at_106) rfl k) ?_
      show own_Wp p e below _ T45 (mkF m 108 #[.val (.int p0), .val (.int p1), .val (.int p2), .val (.int (3 : Int32)), .val (.ref (w5_BACKUP_VAULT Z)), .val (.int (1 : Int32)), .val (.ref (w1_YEAR Z)), .val (.int (9 : Int32)), .unset, .unset] [(.int (9 : Int32)), (.int (p2 &&& (2147483647 : Int32))), (.int (1 : Int32))])
      refine own_step (fun _ k => iremM (g := (mkF m 108 #[.val (.int p0), .val (.int p1), .val (.int p2), .val (.int (3 : Int32)), .val (.ref (w5_BACKUP_VAULT Z)), .val (.int (1 : Int32)), .val (.ref (w1_YEAR Z)), .val (.int (9 : Int32)), .unset, .unset] [(.int (9 : Int32)), (.int (p2 &&& (2147483647 : Int32))), (.int (1 : Int32))])) X45 hx rfl (hb hby at_108) rfl (by decide) k) ?_
      show own_Wp p e below _ T45 (mkF m 109 #[.val (.int p0), .val (.int p1), .val (.int p2), .val (.int (3 : Int32)), .val (.ref (w5_BACKUP_VAULT Z)), .val (.int (1 : Int32)), .val (.ref (w1_YEAR Z)), .val (.int (9 : Int32)), .unset, .unset] [(.int ((p2 &&& (2147483647 : Int32)) % (9 : Int32))), (.int (1 : Int32))])
      refine own_step (fun _ k => XS.iadd X45.here hx rfl (hb hby at_109) rfl k) ?_
      show own_Wp p e below _ T45 (mkF m 110 #[.val (.int p0), .val (.int p1), .val (.int p2), .val (.int (3 : Int32)), .val (.ref (w5_BACKUP_VAULT Z)), .val (.int (1 : Int32)), .val (.ref (w1_YEAR Z)), .val (.int (9 : Int32)), .unset, .unset] [(.int ((1 : Int32) + ((p2 &&& (2147483647 : Int32)) % (9 : Int32))))])
      have hr1 : ¬ (((1 : Int32) + ((p2 &&& (2147483647 : Int32)) % (9 : Int32))) < (1 : Int32)) := own_r1 p2 (n := (9 : Int32)) (by decide) (by decide)
      have hr2 : ¬ ((9 : Int32) < ((1 : Int32) + ((p2 &&& (2147483647 : Int32)) % (9 : Int32)))) := own_r2 p2 (n := (9 : Int32)) (by decide) (by decide)
      refine own_step (fun _ k => XS.istore X45.here hx rfl (hb hby at_110) rfl (l' := #[.val (.int p0), .val (.int p1), .val (.int p2), .val (.int (3 : Int32)), .val (.ref (w5_BACKUP_VAULT Z)), .val (.int (1 : Int32)), .val (.ref (w1_YEAR Z)), .val (.int (9 : Int32)), .val (.int ((1 : Int32) + ((p2 &&& (2147483647 : Int32)) % (9 : Int32)))), .unset]) rfl k) ?_
      show own_Wp p e below _ T45 (mkF m 112 #[.val (.int p0), .val (.int p1), .val (.int p2), .val (.int (3 : Int32)), .val (.ref (w5_BACKUP_VAULT Z)), .val (.int (1 : Int32)), .val (.ref (w1_YEAR Z)), .val (.int (9 : Int32)), .val (.int ((1 : Int32) + ((p2 &&& (2147483647 : Int32)) % (9 : Int32)))), .unset] [])
      refine own_step (fun _ k => XS.aload X45.here hx rfl (hb hby at_112) rfl rfl k) ?_
      show own_Wp p e below _ T45 (mkF m 114 #[.val (.int p0), .val (.int p1), .val (.int p2), .val (.int (3 : Int32)), .val (.ref (w5_BACKUP_VAULT Z)), .val (.int (1 : Int32)), .val (.ref (w1_YEAR Z)), .val (.int (9 : Int32)), .val (.int ((1 : Int32) + ((p2 &&& (2147483647 : Int32)) % (9 : Int32)))), .unset] [(.ref (w5_BACKUP_VAULT Z))])
      refine own_step (fun _ k => XS.aload X45.here hx rfl (hb hby at_114) rfl rfl k) ?_
      show own_Wp p e below _ T45 (mkF m 116 #[.val (.int p0), .val (.int p1), .val (.int p2), .val (.int (3 : Int32)), .val (.ref (w5_BACKUP_VAULT Z)), .val (.int (1 : Int32)), .val (.ref (w1_YEAR Z)), .val (.int (9 : Int32)), .val (.int ((1 : Int32) + ((p2 &&& (2147483647 : Int32)) % (9 : Int32)))), .unset] [(.ref (w1_YEAR Z)), (.ref (w5_BACKUP_VAULT Z))])
      refine own_step (fun _ k => XS.iload X45.here hx rfl (hb hby at_116) rfl k) ?_
      show own_Wp p e below _ T45 (mkF m 118 #[.val (.int p0), .val (.int p1), .val (.int p2), .val (.int (3 : Int32)), .val (.ref (w5_BACKUP_VAULT Z)), .val (.int (1 : Int32)), .val (.ref (w1_YEAR Z)), .val (.int (9 : Int32)), .val (.int ((1 : Int32) + ((p2 &&& (2147483647 : Int32)) % (9 : Int32)))), .unset] [(.int ((1 : Int32) + ((p2 &&& (2147483647 : Int32)) % (9 : Int32)))), (.ref (w1_YEAR Z)), (.ref (w5_BACKUP_VAULT Z))])
      obtain ⟨_, T46, L46, X46, hS46, hZ46, hown46, hQ46, st46⟩ := own_callVW X45 hx hZ hS0 (Nat.zero_le _) hown (hw _ (List.mem_of_getElem? (i := 7) rfl)) (hw _ (List.mem_of_getElem? (i := 8) rfl)) (notFace_of_selects (args := #[]) (mvT hZ (hw _ (List.mem_of_getElem? (i := 10) rfl)))) (hw _ (List.mem_of_getElem? (i := 10) rfl)) (hw _ (List.mem_of_getElem? (i := 9) rfl)) (hw _ (List.mem_of_getElem? (i := 1) rfl)) (hw _ (List.mem_of_getElem? (i := 11) rfl)) (by decide) ((ex_w5_BACKUP_VAULT hw hA hF).ext O0.2) (rm1_10 l Z a0 hw hA hF [] (w5_BACKUP_VAULT Z) (w1_YEAR Z) ((1 : Int32) + ((p2 &&& (2147483647 : Int32)) % (9 : Int32))) h0 n0 O0 hr1 hr2 (fl0 hw hA hF) (ex_w1_YEAR hw hA hF) (fl7 hw hA hF)) (W := 0) (by decide) (by decide) [(.ref (w1_YEAR Z)), (.int ((1 : Int32) + ((p2 &&& (2147483647 : Int32)) % (9 : Int32))))] rfl (lenOf pd9 rfl) (Ls := #[.val (.int p0), .val (.int p1), .val (.int p2), .val (.int (3 : Int32)), .val (.ref (w5_BACKUP_VAULT Z)), .val (.int (1 : Int32)), .val (.ref (w1_YEAR Z)), .val (.int (9 : Int32)), .val (.int ((1 : Int32) + ((p2 &&& (2147483647 : Int32)) % (9 : Int32)))), .unset]) (by rw [hml]; rfl) (rest := []) (Nat.le_of_eq rfl) (hb hby at_118) e45 (by decide) (by decide)
      refine st46 _ ?_
      obtain ⟨b47, rfl, N46q, K46q, y46_0, F46_0, F46_1, F46_2⟩ := hQ46
      have N46 := Fr.app (Fr.nil n0) N46q
      have g46_0 : n0 ≤ b47 := Nat.le_trans (O0.1 ▸ O0.2.1) y46_0
      have u46_0 : h0.size ≤ b47 := Nat.le_trans (Nat.le_refl _) y46_0
      have O46 := O0.keep K46q all0
      have K46 : Keep h0 T46.heap [] := Keep.trans (Keep.refl h0 []) K46q all0
      show own_Wp p e below _ T46 (mkF m 121 #[.val (.int p0), .val (.int p1), .val (.int p2), .val (.int (3 : Int32)), .val (.ref (w5_BACKUP_VAULT Z)), .val (.int (1 : Int32)), .val (.ref (w1_YEAR Z)), .val (.int (9 : Int32)), .val (.int ((1 : Int32) + ((p2 &&& (2147483647 : Int32)) % (9 : Int32)))), .unset] [(.ref b47)])
      refine own_step (fun _ k => XS.astore X46.here hx rfl (hb hby at_121) rfl rfl (l' := #[.val (.int p0), .val (.int p1), .val (.int p2), .val (.int (3 : Int32)), .val (.ref (w5_BACKUP_VAULT Z)), .val (.int (1 : Int32)), .val (.ref (w1_YEAR Z)), .val (.int (9 : Int32)), .val (.int ((1 : Int32) + ((p2 &&& (2147483647 : Int32)) % (9 : Int32)))), .val (.ref b47)]) rfl k) ?_
      show own_Wp p e below _ T46 (mkF m 123 #[.val (.int p0), .val (.int p1), .val (.int p2), .val (.int (3 : Int32)), .val (.ref (w5_BACKUP_VAULT Z)), .val (.int (1 : Int32)), .val (.ref (w1_YEAR Z)), .val (.int (9 : Int32)), .val (.int ((1 : Int32) + ((p2 &&& (2147483647 : Int32)) % (9 : Int32)))), .val (.ref b47)] [])
      refine own_step (fun _ k => XS.aload X46.here hx rfl (hb hby at_123) rfl rfl k) ?_
      show own_Wp p e below _ T46 (mkF m 125 #[.val (.int p0), .val (.int p1), .val (.int p2), .val (.int (3 : Int32)), .val (.ref (w5_BACKUP_VAULT Z)), .val (.int (1 : Int32)), .val (.ref (w1_YEAR Z)), .val (.int (9 : Int32)), .val (.int ((1 : Int32) + ((p2 &&& (2147483647 : Int32)) % (9 : Int32)))), .val (.ref b47)] [(.ref b47)])
      refine own_step (fun _ k => XS.ifnullNo X46.here hx rfl (hb hby at_125) rfl k) ?_
      show own_Wp p e below _ T46 (mkF m 128 #[.val (.int p0), .val (.int p1), .val (.int p2), .val (.int (3 : Int32)), .val (.ref (w5_BACKUP_VAULT Z)), .val (.int (1 : Int32)), .val (.ref (w1_YEAR Z)), .val (.int (9 : Int32)), .val (.int ((1 : Int32) + ((p2 &&& (2147483647 : Int32)) % (9 : Int32)))), .val (.ref b47)] [])
      refine own_step (fun _ k => XS.aload X46.here hx rfl (hb hby at_128) rfl rfl k) ?_
      show own_Wp p e below _ T46 (mkF m 130 #[.val (.int p0), .val (.int p1), .val (.int p2), .val (.int (3 : Int32)), .val (.ref (w5_BACKUP_VAULT Z)), .val (.int (1 : Int32)), .val (.ref (w1_YEAR Z)), .val (.int (9 : Int32)), .val (.int ((1 : Int32) + ((p2 &&& (2147483647 : Int32)) % (9 : Int32)))), .val (.ref b47)] [(.ref b47)])
      obtain ⟨_, T48, L48, X48, hQ48, st48⟩ := own_callV X46 hx hZ46 hown46 (hw _ (List.mem_of_getElem? (i := 56) rfl)) (hw _ (List.mem_of_getElem? (i := 57) rfl)) (notFace_of_selects (args := #[]) (mvT hZ46 (hw _ (List.mem_of_getElem? (i := 59) rfl)))) (hw _ (List.mem_of_getElem? (i := 59) rfl)) (hw _ (List.mem_of_getElem? (i := 58) rfl)) (hw _ (List.mem_of_getElem? (i := 28) rfl)) (hw _ (List.mem_of_getElem? (i := 60) rfl)) (by decide) F46_0 (rm7_9 l Z a0 hw hA hF [] b47 T46.heap n0 O46 F46_1) (W := 0) (by decide) (by decide) [] rfl (lenOf pd10 rfl) (Ls := #[.val (.int p0), .val (.int p1), .val (.int p2), .val (.int (3 : Int32)), .val (.ref (w5_BACKUP_VAULT Z)), .val (.int (1 : Int32)), .val (.ref (w1_YEAR Z)), .val (.int (9 : Int32)), .val (.int ((1 : Int32) + ((p2 &&& (2147483647 : Int32)) % (9 : Int32)))), .val (.ref b47)]) (by rw [hml]; rfl) (rest := []) (Nat.le_of_eq rfl) (hb hby at_130) rfl (by decide) (by decide)
      refine st48 _ ?_
      obtain ⟨rfl, N48q, e48⟩ := hQ48
      have N48 := Fr.app N46 N48q
      show own_Wp p e below _ T48 (mkF m 133 #[.val (.int p0), .val (.int p1), .val (.int p2), .val (.int (3 : Int32)), .val (.ref (w5_BACKUP_VAULT Z)), .val (.int (1 : Int32)), .val (.ref (w1_YEAR Z)), .val (.int (9 : Int32)), .val (.int ((1 : Int32) + ((p2 &&& (2147483647 : Int32)) % (9 : Int32)))), .val (.ref b47)] [(.ref (w1_YEAR Z))])
      refine own_step (fun _ k => XS.aload X48.here hx rfl (hb hby at_133) rfl rfl k) ?_
      show own_Wp p e below _ T48 (mkF m 135 #[.val (.int p0), .val (.int p1), .val (.int p2), .val (.int (3 : Int32)), .val (.ref (w5_BACKUP_VAULT Z)), .val (.int (1 : Int32)), .val (.ref (w1_YEAR Z)), .val (.int (9 : Int32)), .val (.int ((1 : Int32) + ((p2 &&& (2147483647 : Int32)) % (9 : Int32)))), .val (.ref b47)] [(.ref (w1_YEAR Z)), (.ref (w1_YEAR Z))])
      refine own_step (fun _ k => Jvm.RoadKit.acmp (g := (mkF m 135 #[.val (.int p0), .val (.int p1), .val (.int p2), .val (.int (3 : Int32)), .val (.ref (w5_BACKUP_VAULT Z)), .val (.int (1 : Int32)), .val (.ref (w1_YEAR Z)), .val (.int (9 : Int32)), .val (.int ((1 : Int32) + ((p2 &&& (2147483647 : Int32)) % (9 : Int32)))), .val (.ref b47)] [(.ref (w1_YEAR Z)), (.ref (w1_YEAR Z))])) X48 hx rfl rfl rfl (pc0 := 135) (pc' := 138) (same := true) rfl (hb hby at_135) rfl (decide_eq_true rfl) (by decide) (by decide) k) ?_
      show own_Wp p e below _ T48 (mkF m 138 #[.val (.int p0), .val (.int p1), .val (.int p2), .val (.int (3 : Int32)), .val (.ref (w5_BACKUP_VAULT Z)), .val (.int (1 : Int32)), .val (.ref (w1_YEAR Z)), .val (.int (9 : Int32)), .val (.int ((1 : Int32) + ((p2 &&& (2147483647 : Int32)) % (9 : Int32)))), .val (.ref b47)] [])
      refine own_step (fun _ k => XS.aload X48.here hx rfl (hb hby at_138) rfl rfl k) ?_
      show own_Wp p e below _ T48 (mkF m 140 #[.val (.int p0), .val (.int p1), .val (.int p2), .val (.int (3 : Int32)), .val (.ref (w5_BACKUP_VAULT Z)), .val (.int (1 : Int32)), .val (.ref (w1_YEAR Z)), .val (.int (9 : Int32)), .val (.int ((1 : Int32) + ((p2 &&& (2147483647 : Int32)) % (9 : Int32)))), .val (.ref b47)] [(.ref b47)])
      obtain ⟨_, T49, L49, X49, hQ49, st49⟩ := own_callV X48 hx hZ46 hown46 (hw _ (List.mem_of_getElem? (i := 61) rfl)) (hw _ (List.mem_of_getElem? (i := 62) rfl)) (notFace_of_selects (args := #[]) (mvT hZ46 (hw _ (List.mem_of_getElem? (i := 64) rfl)))) (hw _ (List.mem_of_getElem? (i := 64) rfl)) (hw _ (List.mem_of_getElem? (i := 63) rfl)) (hw _ (List.mem_of_getElem? (i := 28) rfl)) (hw _ (List.mem_of_getElem? (i := 65) rfl)) (by decide) F46_0 (rm8_6 l Z a0 hw hA hF [] b47 ((1 : Int32) + ((p2 &&& (2147483647 : Int32)) % (9 : Int32))) T46.heap n0 O46 F46_2) (W := 0) (by decide) (by decide) [] rfl (lenOf pd1 rfl) (Ls := #[.val (.int p0), .val (.int p1), .val (.int p2), .val (.int (3 : Int32)), .val (.ref (w5_BACKUP_VAULT Z)), .val (.int (1 : Int32)), .val (.ref (w1_YEAR Z)), .val (.int (9 : Int32)), .val (.int ((1 : Int32) + ((p2 &&& (2147483647 : Int32)) % (9 : Int32)))), .val (.ref b47)]) (by rw [hml]; rfl) (rest := []) (Nat.le_of_eq rfl) (hb hby at_140) e48 (by decide) (by decide)
      refine st49 _ ?_
      obtain ⟨rfl, N49q, e49⟩ := hQ49
      have N49 := Fr.app N48 N49q
      show own_Wp p e below _ T49 (mkF m 143 #[.val (.int p0), .val (.int p1), .val (.int p2), .val (.int (3 : Int32)), .val (.ref (w5_BACKUP_VAULT Z)), .val (.int (1 : Int32)), .val (.ref (w1_YEAR Z)), .val (.int (9 : Int32)), .val (.int ((1 : Int32) + ((p2 &&& (2147483647 : Int32)) % (9 : Int32)))), .val (.ref b47)] [(.int ((1 : Int32) + ((p2 &&& (2147483647 : Int32)) % (9 : Int32))))])
      refine own_step (fun _ k => XS.iload X49.here hx rfl (hb hby at_143) rfl k) ?_
      show own_Wp p e below _ T49 (mkF m 145 #[.val (.int p0), .val (.int p1), .val (.int p2), .val (.int (3 : Int32)), .val (.ref (w5_BACKUP_VAULT Z)), .val (.int (1 : Int32)), .val (.ref (w1_YEAR Z)), .val (.int (9 : Int32)), .val (.int ((1 : Int32) + ((p2 &&& (2147483647 : Int32)) % (9 : Int32)))), .val (.ref b47)] [(.int ((1 : Int32) + ((p2 &&& (2147483647 : Int32)) % (9 : Int32)))), (.int ((1 : Int32) + ((p2 &&& (2147483647 : Int32)) % (9 : Int32))))])
      refine own_step (fun _ k => XS.icmpNo X49.here hx rfl (hb hby at_145) rfl (teq (rfl : ((1 : Int32) + ((p2 &&& (2147483647 : Int32)) % (9 : Int32))) = ((1 : Int32) + ((p2 &&& (2147483647 : Int32)) % (9 : Int32))))).2 k) ?_
      show own_Wp p e below _ T49 (mkF m 148 #[.val (.int p0), .val (.int p1), .val (.int p2), .val (.int (3 : Int32)), .val (.ref (w5_BACKUP_VAULT Z)), .val (.int (1 : Int32)), .val (.ref (w1_YEAR Z)), .val (.int (9 : Int32)), .val (.int ((1 : Int32) + ((p2 &&& (2147483647 : Int32)) % (9 : Int32)))), .val (.ref b47)] [])
      refine own_step (fun _ k => XS.iconst X49.here hx rfl (hb hby at_148) k) ?_
      show own_Wp p e below _ T49 (mkF m 149 #[.val (.int p0), .val (.int p1), .val (.int p2), .val (.int (3 : Int32)), .val (.ref (w5_BACKUP_VAULT Z)), .val (.int (1 : Int32)), .val (.ref (w1_YEAR Z)), .val (.int (9 : Int32)), .val (.int ((1 : Int32) + ((p2 &&& (2147483647 : Int32)) % (9 : Int32)))), .val (.ref b47)] [(.int (1 : Int32))])
      refine own_step (fun _ k => XS.goto X49.here hx rfl (pc0 := 149) (pc' := 153) rfl (hb hby at_149) (by decide) (by decide) k) ?_
      show own_Wp p e below _ T49 (mkF m 153 #[.val (.int p0), .val (.int p1), .val (.int p2), .val (.int (3 : Int32)), .val (.ref (w5_BACKUP_VAULT Z)), .val (.int (1 : Int32)), .val (.ref (w1_YEAR Z)), .val (.int (9 : Int32)), .val (.int ((1 : Int32) + ((p2 &&& (2147483647 : Int32)) % (9 : Int32)))), .val (.ref b47)] [(.int (1 : Int32))])
      exact own_retNW X49 hS46 (by rw [e49]; exact (Nat.le_refl _)) hx (t := .boolean) hret (by simp) hlk (hb hby at_153) (by decide) (by decide) ⟨rfl, N49⟩
set_option maxRecDepth 65536 in
set_option maxHeartbeats 40000000 in
theorem comes_1 {Post : Tables → Env → Array Value → State → Outcome → State → Prop} (hpost : ∀ tb e args s v u, (limb_1_1.after args s (.returned v) u = true ∧ limb_1_2.after args s (.returned v) u = true ∧ True) → ReturnedEndW s (.returned v) u (Jvm.fieldLocs frame_1_writes args s ++ Jvm.arrayLocs frame_1_arrays args s ++ Jvm.staticLocs frame_1_statics s) 16 1152 → Post tb e args s (.returned v) u) :
    ArmFor flags0 classFile x code maxLocals ret World_1 tables_1 room_1 Calls_1 rest_1 Pre_1 Post := by
  intro l hfl _ _ p e ha hc hk s m args below hf hA hF happ hP
  obtain ⟨hcalls, hrest, hpre⟩ := hP
  obtain ⟨-, -, -, hnamed, -, -, -, hat⟩ := (Spec.applies_iff hf).mp happ
  obtain ⟨hg, hn⟩ := and_e (Cond.before_iff.mp (show (Jvm.Cond.and given_1 narrow_1).before args s = true from hpre))
  obtain ⟨gg1, gg2⟩ := and_e hg
  obtain ⟨gg3, gg4⟩ := and_e gg2
  obtain ⟨gg5, gg6⟩ := and_e gg4
  obtain ⟨w0, w1, w2, rfl⟩ : ∃ w0 w1 w2 : Value, args = #[w0, w1, w2] := by
    have hs : args.size = 3 := by simpa [Cond.value, given_1] using gg1
    obtain ⟨L⟩ := args
    match L, hs with
    | [w0, w1, w2], _ => exact ⟨w0, w1, w2, rfl⟩
  have hw := fun d (hd : d ∈ tables_1) => atoms_spec (ws := Jvm.Cond.code x code maxLocals ret :: tables_1) hat d (List.mem_cons_of_mem _ hd)
  have hfit : Fit s := fun {y c} hc i hi => by
    obtain ⟨ha, rfl⟩ := Array.getElem?_eq_some_iff.mp hc
    have q := List.all_eq_true.mp ((Array.all_eq_true_iff_forall_mem.mp hF) _ (Array.getElem_mem ha)) i (List.mem_range.mpr hi)
    simpa [Array.getElem?_eq_getElem hi] using q
  obtain ⟨i0, ei0⟩ := is_v gg3
  obtain rfl : w0 = (.int i0) := Option.some.inj ei0
  obtain ⟨i1, ei1⟩ := is_v gg5
  obtain rfl : w1 = (.int i1) := Option.some.inj ei1
  obtain ⟨i2, ei2⟩ := is_v gg6
  obtain rfl : w2 = (.int i2) := Option.some.inj ei2
  obtain ⟨n, o, h1, h2, h3, _, L, rfl, ⟨rfl, N⟩, hq⟩ := rm0 l s _ hw (own_mem narrow_1 hn) hfit tables_1 i0 i1 i2 s.heap s.heap.size (Old.start s) p e ha hc hk s m _ below hf ((Spec.applies_iff_loose hf).mp happ).1 ⟨rfl, State.Warmed39.refl s, rfl⟩ trivial
  refine ⟨n, _, h1, h2, h3, hpost _ _ _ _ _ _ ⟨Cond.after_iff.mpr rfl, Cond.after_iff.mpr (eq_i res_at (Term.int_eval (1)) rfl), trivial⟩ ⟨hq.1, hq.2.1, hq.2.2.1, (hq.2.2.2.sift fun y hy => Or.inr (N y hy)).mono (by decide) (by decide)⟩⟩
theorem main_1_1 : Claimed_1_1 := comes_1 fun _ _ _ _ _ _ h hF => ⟨h.1, hF⟩
theorem main_1_2 : Claimed_1_2 := comes_1 fun _ _ _ _ _ _ h hF => ⟨h.2.1, hF⟩

end Jvm.Pilot.@@N@@
namespace Jvm.Pilot.@@N@@
open Jvm Jvm.ClassFile Sem Op Lib Jvm.Free Jvm.Stand Jvm.Pilot.@@N@@.Jvm.D
/-! MADE BY PROGRAM (witnessworld.py) out of the Statement's table words and the real class files: 21 classes; the members and pool entries that the words name. The judged class is class 1, her method 1. -/
namespace start1
open Jvm.ClassFile
def u (s : String) : CpInfo := .utf8 (stringToUtf16 s)
/-- a pool by its gaps: so many unusable entries, then the entry; so many at the end -/
def gap : Nat → List CpInfo → List CpInfo
  | 0, r => r
  | n + 1, r => .unusable :: gap n r
def poolList (es : List (Nat × CpInfo)) (last : Nat) : List CpInfo := es.foldr (fun e r => gap e.1 (e.2 :: r)) (gap last [])
def pool (es : List (Nat × CpInfo)) (last : Nat) : Array CpInfo := ⟨poolList es last⟩
def fileOf (pool : Array CpInfo) (this : Nat) (attrs : Array Attribute := #[]) (ms : Array MethodInfo := #[]) (fl : Nat := 33) (sup : Nat := 0) (ifs : Array Nat := #[]) (fds : Array FieldInfo := #[]) : ClassFile where
  minorVersion := 0
  majorVersion := 65
  constantPool := pool
  accessFlags := fl
  thisClass := this
  superClass := sup
  interfaces := ifs
  fields := fds
  methods := ms
  attributes := attrs
def plain (name : String) (sup : Option ClassId) : Class where
  name := name
  kind := .ordinary
  loader := none
  accessFlags := 33
  super := sup
  interfaces := #[]
  cf := none
  fields := #[]
  methods := #[]
  instanceTypes := #[]
  staticTypes := #[]
  resolved := #[]
  callSites := []
  init := .initialized
  statics := none
  mirror := none

def pool0 : Array CpInfo := pool [(5, u "<init>"), (0, u "()V"), (1, .class_ 10), (1, u "java/lang/Object")] 113

def k0c0 : Code := { maxStack := 0, maxLocals := 1, code := object_method_1_code, exceptionTable := #[], attributes := #[] }
def k0m0 : Method := { name := "<init>", desc := "()V", sig := { parameters := [], returnType := none }, accessFlags := 1, code := some k0c0 }
/-- java/lang/Object -/
def k0 : Class := { plain "java/lang/Object" none with
  accessFlags := 33
  interfaces := #[]
  cf := some (fileOf pool0 8 #[] #[{ accessFlags := 1, nameIndex := 5, descriptorIndex := 6, attributes := #[] }] 33 0 #[] #[])
  fields := #[]
  methods := #[k0m0]
  instanceTypes := #[]
  staticTypes := #[]
  resolved := Array.replicate 124 none
  statics := none }

def pool1 : Array CpInfo := pool [(2, .class_ 4), (1, u "java/lang/Object"), (0, u "<init>"), (0, u "()V"), (0, .fieldref 8 9), (0, .class_ 10), (0, .nameAndType 11 12), (0, u "com/example/meter_to_month/metertomonth/ledger/ResourceKind"), (0, u "SEARCH_CLUSTER"), (0, u "Lcom/example/meter_to_month/metertomonth/ledger/ResourceKind;"), (0, .fieldref 8 14), (0, .nameAndType 15 12), (0, u "DATABASE_INSTANCE"), (0, .fieldref 8 17), (0, .nameAndType 18 12), (0, u "ELASTIC_IP"), (0, .fieldref 8 20), (0, .nameAndType 21 12), (0, u "BACKUP_VAULT"), (0, .fieldref 23 24), (0, .class_ 25), (0, .nameAndType 26 27), (0, u "com/example/meter_to_month/metertomonth/ledger/BillingPeriod$Unit"), (0, u "YEAR"), (0, u "Lcom/example/meter_to_month/metertomonth/ledger/BillingPeriod$Unit;"), (0, .fieldref 23 29), (0, .nameAndType 30 27), (0, u "MONTH"), (0, .integer 2147483647), (0, .methodref 8 33), (0, .nameAndType 34 35), (0, u "period"), (0, u "(Lcom/example/meter_to_month/metertomonth/ledger/BillingPeriod$Unit;I)Lcom/example/meter_to_month/metertomonth/ledger/BillingPeriod;"), (0, .methodref 37 38), (0, .class_ 39), (0, .nameAndType 40 41), (0, u "com/example/meter_to_month/metertomonth/ledger/BillingPeriod"), (0, u "unit"), (0, u "()Lcom/example/meter_to_month/metertomonth/ledger/BillingPeriod$Unit;"), (0, .methodref 37 43), (0, .nameAndType 44 45), (0, u "count"), (0, u "()I"), (0, .class_ 47), (0, u "com/example/meter_to_month/metertomonth/ledger/ResourceKindPeriodPinLaw"), (2, u "law"), (0, u "(III)Z")] 5

def k1m0 : Method := { name := "<init>", desc := "()V", sig := { parameters := [], returnType := none }, accessFlags := 1, code := none }
def k1c1 : Code := { maxStack := 3, maxLocals := 10, code := code, exceptionTable := #[], attributes := #[] }
def k1m1 : Method := { name := "law", desc := "(III)Z", sig := { parameters := [.int, .int, .int], returnType := some .boolean }, accessFlags := 9, code := some k1c1 }
/-- com/example/meter_to_month/metertomonth/ledger/ResourceKindPeriodPinLaw -/
def k1 : Class := { plain "com/example/meter_to_month/metertomonth/ledger/ResourceKindPeriodPinLaw" (some 0) with
  accessFlags := 49
  interfaces := #[]
  cf := some (fileOf pool1 46 #[] #[{ accessFlags := 1, nameIndex := 5, descriptorIndex := 6, attributes := #[] }, { accessFlags := 9, nameIndex := 50, descriptorIndex := 51, attributes := #[] }] 49 2 #[] #[])
  fields := #[]
  methods := #[k1m0, k1m1]
  instanceTypes := #[]
  staticTypes := #[]
  resolved := Array.replicate 57 none
  statics := none }

def pool2 : Array CpInfo := pool [(1, .class_ 2), (0, u "java/lang/constant/Constable"), (0, .class_ 4), (0, u "java/lang/Object")] 6

/-- java/lang/constant/Constable -/
def k2 : Class := { plain "java/lang/constant/Constable" (some 0) with
  accessFlags := 1537
  interfaces := #[]
  cf := some (fileOf pool2 1 #[] #[] 1537 3 #[] #[])
  fields := #[]
  methods := #[]
  instanceTypes := #[]
  staticTypes := #[]
  resolved := Array.replicate 11 none
  statics := none }

def pool3 : Array CpInfo := pool [(1, .class_ 2), (0, u "java/lang/Comparable"), (0, .class_ 4), (0, u "java/lang/Object")] 7

/-- java/lang/Comparable -/
def k3 : Class := { plain "java/lang/Comparable" (some 0) with
  accessFlags := 1537
  interfaces := #[]
  cf := some (fileOf pool3 1 #[] #[] 1537 3 #[] #[])
  fields := #[]
  methods := #[]
  instanceTypes := #[]
  staticTypes := #[]
  resolved := Array.replicate 12 none
  statics := none }

def pool4 : Array CpInfo := pool [(1, .class_ 2), (0, u "java/io/Serializable"), (0, .class_ 4), (0, u "java/lang/Object")] 2

/-- java/io/Serializable -/
def k4 : Class := { plain "java/io/Serializable" (some 0) with
  accessFlags := 1537
  interfaces := #[]
  cf := some (fileOf pool4 1 #[] #[] 1537 3 #[] #[])
  fields := #[]
  methods := #[]
  instanceTypes := #[]
  staticTypes := #[]
  resolved := Array.replicate 7 none
  statics := none }

def pool5 : Array CpInfo := pool [(2, .class_ 4), (1, u "java/lang/Enum"), (0, u "name"), (0, u "Ljava/lang/String;"), (0, .fieldref 2 8), (0, .nameAndType 9 10), (0, u "ordinal"), (0, u "I"), (1, .class_ 14), (1, u "java/lang/Object"), (4, u "hash"), (86, .class_ 108), (1, u "java/lang/Enum$EnumDesc"), (2, .class_ 112), (0, u "java/lang/constant/Constable"), (0, .class_ 114), (0, u "java/lang/Comparable"), (0, .class_ 116), (0, u "java/io/Serializable"), (9, u "()I")] 77

def k5c0 : Code := { maxStack := 1, maxLocals := 1, code := jdk_37_method_2_code, exceptionTable := #[], attributes := #[] }
def k5m0 : Method := { name := "ordinal", desc := "()I", sig := { parameters := [], returnType := some .int }, accessFlags := 17, code := some k5c0 }
/-- java/lang/Enum -/
def k5 : Class := { plain "java/lang/Enum" (some 0) with
  accessFlags := 1057
  interfaces := #[2, 3, 4]
  cf := some (fileOf pool5 2 #[.nestMembers #[106]] #[{ accessFlags := 17, nameIndex := 9, descriptorIndex := 126, attributes := #[] }] 1057 12 #[111, 113, 115] #[{ accessFlags := 18, nameIndex := 5, descriptorIndex := 6, attributes := #[] }, { accessFlags := 18, nameIndex := 9, descriptorIndex := 10, attributes := #[] }, { accessFlags := 2, nameIndex := 19, descriptorIndex := 10, attributes := #[] }])
  fields := #[{ name := "name", type := (.object "java/lang/String"), accessFlags := 18, slot := 0, constantValue := 0 }, { name := "ordinal", type := .int, accessFlags := 18, slot := 1, constantValue := 0 }, { name := "hash", type := .int, accessFlags := 2, slot := 2, constantValue := 0 }]
  methods := #[k5m0]
  instanceTypes := #[(.object "java/lang/String"), .int, .int]
  staticTypes := #[]
  resolved := Array.replicate 204 none
  statics := none }

def pool6 : Array CpInfo := pool [(29, .class_ 30), (0, u "com/example/meter_to_month/metertomonth/ledger/Labelled"), (10, .class_ 42), (0, u "java/lang/Object")] 30

/-- com/example/meter_to_month/metertomonth/ledger/Labelled -/
def k6 : Class := { plain "com/example/meter_to_month/metertomonth/ledger/Labelled" (some 0) with
  accessFlags := 1536
  interfaces := #[]
  cf := some (fileOf pool6 29 #[] #[] 1536 41 #[] #[])
  fields := #[]
  methods := #[]
  instanceTypes := #[]
  staticTypes := #[]
  resolved := Array.replicate 73 none
  statics := none }

def pool7 : Array CpInfo := pool [(1, .class_ 2), (0, u "com/example/meter_to_month/metertomonth/ledger/ResourceKind"), (2, u "SEARCH_CLUSTER"), (0, u "Lcom/example/meter_to_month/metertomonth/ledger/ResourceKind;"), (2, u "DATABASE_INSTANCE"), (2, u "ELASTIC_IP"), (2, u "BACKUP_VAULT"), (2, u "$VALUES"), (0, u "[Lcom/example/meter_to_month/metertomonth/ledger/ResourceKind;"), (6, .class_ 28), (1, u "java/lang/Enum"), (4, u "<init>"), (3, u "label"), (0, u "Ljava/lang/String;"), (0, .fieldref 1 40), (0, .nameAndType 41 42), (0, u "longestMonths"), (0, u "I"), (0, .fieldref 1 44), (0, .nameAndType 45 42), (0, u "longestYears"), (2, u "renewal"), (0, u "Lcom/example/meter_to_month/metertomonth/ledger/BillingPeriod;"), (1, .class_ 53), (1, u "com/example/meter_to_month/metertomonth/ledger/Labelled"), (2, .fieldref 57 58), (0, .class_ 59), (0, .nameAndType 60 61), (0, u "com/example/meter_to_month/metertomonth/ledger/ResourceKind$1"), (0, u "$SwitchMap$com$example$meter_to_month$metertomonth$ledger$BillingPeriod$Unit"), (0, u "[I"), (0, .methodref 63 64), (0, .class_ 65), (0, .nameAndType 66 67), (0, u "com/example/meter_to_month/metertomonth/ledger/BillingPeriod$Unit"), (0, u "ordinal"), (0, u "()I"), (30, .class_ 99), (0, u "com/example/meter_to_month/metertomonth/ledger/BillingPeriod"), (0, .methodref 98 101), (0, .nameAndType 33 102), (0, u "(Lcom/example/meter_to_month/metertomonth/ledger/BillingPeriod$Unit;I)V"), (32, u "period"), (0, u "(Lcom/example/meter_to_month/metertomonth/ledger/BillingPeriod$Unit;I)Lcom/example/meter_to_month/metertomonth/ledger/BillingPeriod;")] 25

def k7c0 : Code := { maxStack := 6, maxLocals := 4, code := prog_15_method_6_code, exceptionTable := #[], attributes := #[] }
def k7m0 : Method := { name := "period", desc := "(Lcom/example/meter_to_month/metertomonth/ledger/BillingPeriod$Unit;I)Lcom/example/meter_to_month/metertomonth/ledger/BillingPeriod;", sig := { parameters := [(.object "com/example/meter_to_month/metertomonth/ledger/BillingPeriod$Unit"), .int], returnType := some (.object "com/example/meter_to_month/metertomonth/ledger/BillingPeriod") }, accessFlags := 1, code := some k7c0 }
/-- com/example/meter_to_month/metertomonth/ledger/ResourceKind -/
def k7 : Class := { plain "com/example/meter_to_month/metertomonth/ledger/ResourceKind" (some 5) with
  accessFlags := 16433
  interfaces := #[6]
  cf := some (fileOf pool7 1 #[.nestMembers #[57]] #[{ accessFlags := 1, nameIndex := 135, descriptorIndex := 136, attributes := #[] }] 16433 26 #[51] #[{ accessFlags := 16409, nameIndex := 5, descriptorIndex := 6, attributes := #[] }, { accessFlags := 16409, nameIndex := 9, descriptorIndex := 6, attributes := #[] }, { accessFlags := 16409, nameIndex := 12, descriptorIndex := 6, attributes := #[] }, { accessFlags := 16409, nameIndex := 15, descriptorIndex := 6, attributes := #[] }, { accessFlags := 18, nameIndex := 37, descriptorIndex := 38, attributes := #[] }, { accessFlags := 18, nameIndex := 41, descriptorIndex := 42, attributes := #[] }, { accessFlags := 18, nameIndex := 45, descriptorIndex := 42, attributes := #[] }, { accessFlags := 18, nameIndex := 48, descriptorIndex := 49, attributes := #[] }, { accessFlags := 4122, nameIndex := 18, descriptorIndex := 19, attributes := #[] }])
  fields := #[{ name := "SEARCH_CLUSTER", type := (.object "com/example/meter_to_month/metertomonth/ledger/ResourceKind"), accessFlags := 16409, slot := 0, constantValue := 0 }, { name := "DATABASE_INSTANCE", type := (.object "com/example/meter_to_month/metertomonth/ledger/ResourceKind"), accessFlags := 16409, slot := 1, constantValue := 0 }, { name := "ELASTIC_IP", type := (.object "com/example/meter_to_month/metertomonth/ledger/ResourceKind"), accessFlags := 16409, slot := 2, constantValue := 0 }, { name := "BACKUP_VAULT", type := (.object "com/example/meter_to_month/metertomonth/ledger/ResourceKind"), accessFlags := 16409, slot := 3, constantValue := 0 }, { name := "label", type := (.object "java/lang/String"), accessFlags := 18, slot := 3, constantValue := 0 }, { name := "longestMonths", type := .int, accessFlags := 18, slot := 4, constantValue := 0 }, { name := "longestYears", type := .int, accessFlags := 18, slot := 5, constantValue := 0 }, { name := "renewal", type := (.object "com/example/meter_to_month/metertomonth/ledger/BillingPeriod"), accessFlags := 18, slot := 6, constantValue := 0 }, { name := "$VALUES", type := (.array (.object "com/example/meter_to_month/metertomonth/ledger/ResourceKind")), accessFlags := 4122, slot := 4, constantValue := 0 }]
  methods := #[k7m0]
  instanceTypes := #[(.object "java/lang/String"), .int, .int, (.object "java/lang/String"), .int, .int, (.object "com/example/meter_to_month/metertomonth/ledger/BillingPeriod")]
  staticTypes := #[(.object "com/example/meter_to_month/metertomonth/ledger/ResourceKind"), (.object "com/example/meter_to_month/metertomonth/ledger/ResourceKind"), (.object "com/example/meter_to_month/metertomonth/ledger/ResourceKind"), (.object "com/example/meter_to_month/metertomonth/ledger/ResourceKind"), (.array (.object "com/example/meter_to_month/metertomonth/ledger/ResourceKind"))]
  resolved := Array.replicate 162 none
  statics := some 0 }

def pool8 : Array CpInfo := pool [(1, .class_ 2), (0, u "com/example/meter_to_month/metertomonth/ledger/BillingPeriod$Unit"), (2, u "MONTH"), (0, u "Lcom/example/meter_to_month/metertomonth/ledger/BillingPeriod$Unit;"), (2, u "YEAR"), (2, u "$VALUES"), (0, u "[Lcom/example/meter_to_month/metertomonth/ledger/BillingPeriod$Unit;"), (6, .class_ 22), (1, u "java/lang/Enum"), (8, u "label"), (0, u "Ljava/lang/String;"), (2, u "calendarUnit"), (0, u "Ljava/time/temporal/ChronoUnit;"), (1, .class_ 40), (1, u "com/example/meter_to_month/metertomonth/ledger/Labelled"), (39, .class_ 81), (0, u "com/example/meter_to_month/metertomonth/ledger/BillingPeriod")] 2

/-- com/example/meter_to_month/metertomonth/ledger/BillingPeriod$Unit -/
def k8 : Class := { plain "com/example/meter_to_month/metertomonth/ledger/BillingPeriod$Unit" (some 5) with
  accessFlags := 16433
  interfaces := #[6]
  cf := some (fileOf pool8 1 #[.nestHost 80] #[] 16433 20 #[38] #[{ accessFlags := 16409, nameIndex := 5, descriptorIndex := 6, attributes := #[] }, { accessFlags := 16409, nameIndex := 9, descriptorIndex := 6, attributes := #[] }, { accessFlags := 18, nameIndex := 31, descriptorIndex := 32, attributes := #[] }, { accessFlags := 18, nameIndex := 35, descriptorIndex := 36, attributes := #[] }, { accessFlags := 4122, nameIndex := 12, descriptorIndex := 13, attributes := #[] }])
  fields := #[{ name := "MONTH", type := (.object "com/example/meter_to_month/metertomonth/ledger/BillingPeriod$Unit"), accessFlags := 16409, slot := 0, constantValue := 0 }, { name := "YEAR", type := (.object "com/example/meter_to_month/metertomonth/ledger/BillingPeriod$Unit"), accessFlags := 16409, slot := 1, constantValue := 0 }, { name := "label", type := (.object "java/lang/String"), accessFlags := 18, slot := 3, constantValue := 0 }, { name := "calendarUnit", type := (.object "java/time/temporal/ChronoUnit"), accessFlags := 18, slot := 4, constantValue := 0 }, { name := "$VALUES", type := (.array (.object "com/example/meter_to_month/metertomonth/ledger/BillingPeriod$Unit")), accessFlags := 4122, slot := 2, constantValue := 0 }]
  methods := #[]
  instanceTypes := #[(.object "java/lang/String"), .int, .int, (.object "java/lang/String"), (.object "java/time/temporal/ChronoUnit")]
  staticTypes := #[(.object "com/example/meter_to_month/metertomonth/ledger/BillingPeriod$Unit"), (.object "com/example/meter_to_month/metertomonth/ledger/BillingPeriod$Unit"), (.array (.object "com/example/meter_to_month/metertomonth/ledger/BillingPeriod$Unit"))]
  resolved := Array.replicate 84 none
  statics := some 1 }

def pool9 : Array CpInfo := pool [(8, .class_ 10), (1, u "com/example/meter_to_month/metertomonth/ledger/ResourceKind$1"), (0, u "$SwitchMap$com$example$meter_to_month$metertomonth$ledger$BillingPeriod$Unit"), (0, u "[I"), (13, .class_ 27), (0, u "java/lang/Object"), (8, .class_ 37), (0, u "com/example/meter_to_month/metertomonth/ledger/ResourceKind")] 5

/-- com/example/meter_to_month/metertomonth/ledger/ResourceKind$1 -/
def k9 : Class := { plain "com/example/meter_to_month/metertomonth/ledger/ResourceKind$1" (some 0) with
  accessFlags := 4128
  interfaces := #[]
  cf := some (fileOf pool9 8 #[.nestHost 36] #[] 4128 26 #[] #[{ accessFlags := 4120, nameIndex := 11, descriptorIndex := 12, attributes := #[] }])
  fields := #[{ name := "$SwitchMap$com$example$meter_to_month$metertomonth$ledger$BillingPeriod$Unit", type := (.array .int), accessFlags := 4120, slot := 0, constantValue := 0 }]
  methods := #[]
  instanceTypes := #[]
  staticTypes := #[(.array .int)]
  resolved := Array.replicate 43 none
  statics := some 2 }

def pool10 : Array CpInfo := pool [(1, .methodref 2 3), (0, .class_ 4), (0, .nameAndType 5 6), (0, u "java/lang/Object"), (0, u "<init>"), (0, u "()V"), (0, .class_ 8), (0, u "java/lang/Record")] 13

def k10c0 : Code := { maxStack := 1, maxLocals := 1, code := jdk_30_method_1_code, exceptionTable := #[], attributes := #[] }
def k10m0 : Method := { name := "<init>", desc := "()V", sig := { parameters := [], returnType := none }, accessFlags := 4, code := some k10c0 }
/-- java/lang/Record -/
def k10 : Class := { plain "java/lang/Record" (some 0) with
  accessFlags := 1057
  interfaces := #[]
  cf := some (fileOf pool10 7 #[] #[{ accessFlags := 4, nameIndex := 5, descriptorIndex := 6, attributes := #[] }] 1057 2 #[] #[])
  fields := #[]
  methods := #[k10m0]
  instanceTypes := #[]
  staticTypes := #[]
  resolved := Array.replicate 22 none
  statics := none }

def pool11 : Array CpInfo := pool [(1, .methodref 2 3), (0, .class_ 4), (0, .nameAndType 5 6), (0, u "java/lang/Record"), (0, u "<init>"), (0, u "()V"), (0, .string 8), (0, u "unit"), (0, .methodref 10 11), (0, .class_ 12), (0, .nameAndType 13 14), (0, u "java/util/Objects"), (0, u "requireNonNull"), (0, u "(Ljava/lang/Object;Ljava/lang/String;)Ljava/lang/Object;"), (15, .fieldref 31 32), (0, .class_ 33), (0, .nameAndType 8 34), (0, u "com/example/meter_to_month/metertomonth/ledger/BillingPeriod"), (0, u "Lcom/example/meter_to_month/metertomonth/ledger/BillingPeriod$Unit;"), (0, .fieldref 31 36), (0, .nameAndType 37 38), (0, u "count"), (0, u "I"), (13, .class_ 54), (1, u "com/example/meter_to_month/metertomonth/ledger/BillingPeriod$Unit"), (24, u "(Lcom/example/meter_to_month/metertomonth/ledger/BillingPeriod$Unit;I)V"), (7, u "()I"), (1, u "()Lcom/example/meter_to_month/metertomonth/ledger/BillingPeriod$Unit;")] 31

def k11c0 : Code := { maxStack := 4, maxLocals := 3, code := prog_4_method_1_code, exceptionTable := #[], attributes := #[] }
def k11m0 : Method := { name := "<init>", desc := "(Lcom/example/meter_to_month/metertomonth/ledger/BillingPeriod$Unit;I)V", sig := { parameters := [(.object "com/example/meter_to_month/metertomonth/ledger/BillingPeriod$Unit"), .int], returnType := none }, accessFlags := 1, code := some k11c0 }
def k11c1 : Code := { maxStack := 1, maxLocals := 1, code := prog_4_method_6_code, exceptionTable := #[], attributes := #[] }
def k11m1 : Method := { name := "unit", desc := "()Lcom/example/meter_to_month/metertomonth/ledger/BillingPeriod$Unit;", sig := { parameters := [], returnType := some (.object "com/example/meter_to_month/metertomonth/ledger/BillingPeriod$Unit") }, accessFlags := 1, code := some k11c1 }
def k11c2 : Code := { maxStack := 1, maxLocals := 1, code := prog_4_method_7_code, exceptionTable := #[], attributes := #[] }
def k11m2 : Method := { name := "count", desc := "()I", sig := { parameters := [], returnType := some .int }, accessFlags := 1, code := some k11c2 }
/-- com/example/meter_to_month/metertomonth/ledger/BillingPeriod -/
def k11 : Class := { plain "com/example/meter_to_month/metertomonth/ledger/BillingPeriod" (some 10) with
  accessFlags := 49
  interfaces := #[]
  cf := some (fileOf pool11 31 #[.nestMembers #[52]] #[{ accessFlags := 1, nameIndex := 5, descriptorIndex := 79, attributes := #[] }, { accessFlags := 1, nameIndex := 8, descriptorIndex := 89, attributes := #[] }, { accessFlags := 1, nameIndex := 37, descriptorIndex := 87, attributes := #[] }] 49 2 #[] #[{ accessFlags := 18, nameIndex := 8, descriptorIndex := 34, attributes := #[] }, { accessFlags := 18, nameIndex := 37, descriptorIndex := 38, attributes := #[] }])
  fields := #[{ name := "unit", type := (.object "com/example/meter_to_month/metertomonth/ledger/BillingPeriod$Unit"), accessFlags := 18, slot := 0, constantValue := 0 }, { name := "count", type := .int, accessFlags := 18, slot := 1, constantValue := 0 }]
  methods := #[k11m0, k11m1, k11m2]
  instanceTypes := #[(.object "com/example/meter_to_month/metertomonth/ledger/BillingPeriod$Unit"), .int]
  staticTypes := #[]
  resolved := Array.replicate 121 none
  statics := none }

def pool12 : Array CpInfo := pool [(2, .class_ 4), (1, u "java/lang/CharSequence"), (42, .class_ 48), (0, u "java/lang/CharSequence$1CodePointIterator"), (10, .class_ 60), (0, u "java/lang/CharSequence$1CharIterator"), (5, .class_ 67), (0, u "java/lang/Object")] 63

/-- java/lang/CharSequence -/
def k12 : Class := { plain "java/lang/CharSequence" (some 0) with
  accessFlags := 1537
  interfaces := #[]
  cf := some (fileOf pool12 2 #[.nestMembers #[47, 59]] #[] 1537 66 #[] #[])
  fields := #[]
  methods := #[]
  instanceTypes := #[]
  staticTypes := #[]
  resolved := Array.replicate 131 none
  statics := none }

def pool13 : Array CpInfo := pool [(1, .class_ 2), (0, u "java/lang/constant/ConstantDesc"), (0, .class_ 4), (0, u "java/lang/Object")] 32

/-- java/lang/constant/ConstantDesc -/
def k13 : Class := { plain "java/lang/constant/ConstantDesc" (some 0) with
  accessFlags := 1537
  interfaces := #[]
  cf := some (fileOf pool13 1 #[] #[] 1537 3 #[] #[])
  fields := #[]
  methods := #[]
  instanceTypes := #[]
  staticTypes := #[]
  resolved := Array.replicate 37 none
  statics := none }

def pool14 : Array CpInfo := pool [(2, .class_ 4), (1, u "java/lang/Object"), (0, u "<init>"), (0, u "()V"), (3, .class_ 12), (1, u "java/lang/String"), (0, u "value"), (0, u "[B"), (2, u "coder"), (0, u "B"), (2, u "hash"), (0, u "I"), (2, u "hashIsZero"), (0, u "Z"), (13, u "COMPACT_STRINGS"), (534, .class_ 576), (0, u "java/lang/CharSequence"), (22, u "CASE_INSENSITIVE_ORDER"), (0, u "Ljava/util/Comparator;"), (500, u "serialPersistentFields"), (0, u "[Ljava/io/ObjectStreamField;"), (0, .class_ 1104), (0, u "java/lang/String$CaseInsensitiveComparator"), (1, .class_ 1107), (0, u "java/io/Serializable"), (0, .class_ 1109), (0, u "java/lang/Comparable"), (0, .class_ 1111), (0, u "java/lang/constant/Constable"), (0, .class_ 1113), (0, u "java/lang/constant/ConstantDesc"), (2, u "serialVersionUID"), (0, u "J"), (3, u "REPL"), (0, u "C"), (2, u "LATIN1"), (1, u "UTF16")] 323

def k14m0 : Method := { name := "<init>", desc := "()V", sig := { parameters := [], returnType := none }, accessFlags := 1, code := none }
/-- java/lang/String -/
def k14 : Class := { plain "java/lang/String" (some 0) with
  accessFlags := 49
  interfaces := #[4, 3, 12, 2, 13]
  cf := some (fileOf pool14 10 #[.nestMembers #[1103]] #[{ accessFlags := 1, nameIndex := 5, descriptorIndex := 6, attributes := #[] }] 49 2 #[1106, 1108, 575, 1110, 1112] #[{ accessFlags := 18, nameIndex := 13, descriptorIndex := 14, attributes := #[] }, { accessFlags := 18, nameIndex := 17, descriptorIndex := 18, attributes := #[] }, { accessFlags := 2, nameIndex := 21, descriptorIndex := 22, attributes := #[] }, { accessFlags := 2, nameIndex := 25, descriptorIndex := 26, attributes := #[] }, { accessFlags := 26, nameIndex := 1116, descriptorIndex := 1117, attributes := #[] }, { accessFlags := 24, nameIndex := 40, descriptorIndex := 26, attributes := #[] }, { accessFlags := 26, nameIndex := 1101, descriptorIndex := 1102, attributes := #[] }, { accessFlags := 26, nameIndex := 1121, descriptorIndex := 1122, attributes := #[] }, { accessFlags := 25, nameIndex := 599, descriptorIndex := 600, attributes := #[] }, { accessFlags := 24, nameIndex := 1125, descriptorIndex := 18, attributes := #[] }, { accessFlags := 24, nameIndex := 1127, descriptorIndex := 18, attributes := #[] }])
  fields := #[{ name := "value", type := (.array .byte), accessFlags := 18, slot := 0, constantValue := 0 }, { name := "coder", type := .byte, accessFlags := 18, slot := 1, constantValue := 0 }, { name := "hash", type := .int, accessFlags := 2, slot := 2, constantValue := 0 }, { name := "hashIsZero", type := .boolean, accessFlags := 2, slot := 3, constantValue := 0 }, { name := "serialVersionUID", type := .long, accessFlags := 26, slot := 0, constantValue := 0 }, { name := "COMPACT_STRINGS", type := .boolean, accessFlags := 24, slot := 1, constantValue := 0 }, { name := "serialPersistentFields", type := (.array (.object "java/io/ObjectStreamField")), accessFlags := 26, slot := 2, constantValue := 0 }, { name := "REPL", type := .char, accessFlags := 26, slot := 3, constantValue := 0 }, { name := "CASE_INSENSITIVE_ORDER", type := (.object "java/util/Comparator"), accessFlags := 25, slot := 4, constantValue := 0 }, { name := "LATIN1", type := .byte, accessFlags := 24, slot := 5, constantValue := 0 }, { name := "UTF16", type := .byte, accessFlags := 24, slot := 6, constantValue := 0 }]
  methods := #[k14m0]
  instanceTypes := #[(.array .byte), .byte, .int, .boolean]
  staticTypes := #[.long, .boolean, (.array (.object "java/io/ObjectStreamField")), .char, (.object "java/util/Comparator"), .byte, .byte]
  resolved := Array.replicate 1451 none
  statics := none }

def pool15 : Array CpInfo := pool [(2, .class_ 4), (1, u "java/lang/Object"), (0, u "<init>"), (0, u "()V"), (35, .class_ 44), (1, u "java/util/Objects"), (0, u "requireNonNull"), (48, u "(Ljava/lang/Object;Ljava/lang/String;)Ljava/lang/Object;")] 89

def k15m0 : Method := { name := "<init>", desc := "()V", sig := { parameters := [], returnType := none }, accessFlags := 2, code := none }
def k15c1 : Code := { maxStack := 3, maxLocals := 2, code := jdk_31_method_11_code, exceptionTable := #[], attributes := #[] }
def k15m1 : Method := { name := "requireNonNull", desc := "(Ljava/lang/Object;Ljava/lang/String;)Ljava/lang/Object;", sig := { parameters := [(.object "java/lang/Object"), (.object "java/lang/String")], returnType := some (.object "java/lang/Object") }, accessFlags := 9, code := some k15c1 }
/-- java/util/Objects -/
def k15 : Class := { plain "java/util/Objects" (some 0) with
  accessFlags := 49
  interfaces := #[]
  cf := some (fileOf pool15 42 #[] #[{ accessFlags := 2, nameIndex := 5, descriptorIndex := 6, attributes := #[] }, { accessFlags := 9, nameIndex := 45, descriptorIndex := 94, attributes := #[] }] 49 2 #[] #[])
  fields := #[]
  methods := #[k15m0, k15m1]
  instanceTypes := #[]
  staticTypes := #[]
  resolved := Array.replicate 184 none
  statics := none }

def pool16 : Array CpInfo := pool [(1, u "java/lang/Cloneable"), (0, .class_ 1), (0, u "java/lang/Object"), (0, .class_ 3)] 3

/-- java/lang/Cloneable -/
def k16 : Class := { plain "java/lang/Cloneable" (some 0) with
  accessFlags := 1537
  interfaces := #[]
  cf := some (fileOf pool16 2 #[] #[] 1537 4 #[] #[])
  fields := #[]
  methods := #[]
  instanceTypes := #[]
  staticTypes := #[]
  resolved := Array.replicate 8 none
  statics := none }

/-- the primitive byte -/
def k17 : Class := { plain "byte" none with kind := .primitive 'B', accessFlags := 0x411 }
/-- [B -/
def k18 : Class := { plain "[B" (some 0) with kind := .array 17 .byte, interfaces := #[16, 4], accessFlags := 1041 }

/-- the primitive int -/
def k19 : Class := { plain "int" none with kind := .primitive 'I', accessFlags := 0x411 }
/-- [I -/
def k20 : Class := { plain "[I" (some 0) with kind := .array 19 .int, interfaces := #[16, 4], accessFlags := 1041 }

def heap : Heap := #[{ cls := 7, slots := #[.ref 3, .ref 6, .ref 9, .ref 8, .null], vm := .statics 7 },
  { cls := 8, slots := #[.ref 7, .ref 4, .null], vm := .statics 8 },
  { cls := 9, slots := #[.ref 5], vm := .statics 9 },
  { cls := 7, slots := #[.null, .int 0, .int 0, .null, .int 9, .int 3, .null], vm := .none },
  { cls := 8, slots := #[.null, .int 1, .int 0, .null, .null], vm := .none },
  { cls := 20, slots := #[.int 1, .int 2], vm := .none },
  { cls := 7, slots := #[.null, .int 0, .int 0, .null, .int 9, .int 3, .null], vm := .none },
  { cls := 8, slots := #[.null, .int 0, .int 0, .null, .null], vm := .none },
  { cls := 7, slots := #[.null, .int 0, .int 0, .null, .int 9, .int 9, .null], vm := .none },
  { cls := 7, slots := #[.null, .int 0, .int 0, .null, .int 9, .int 9, .null], vm := .none }]
def classes : Array Class := #[k0, k1, k2, k3, k4, k5, k6, k7, k8, k9, k10, k11, k12, k13, k14, k15, k16, k17, k18, k19, k20]
def interned : List (Array UInt16 × Addr) := []
def slotsUsed : Nat := 49
def theMethod : MethodId := ⟨1, 1⟩
def args0 : Array Value := #[.int 5, .int 3, .int 4]
def aboutOver (below : List Frame) : State where
  vm := { classes := classes, interned := interned.toArray }
  heap := heap
  slotsUsed := slotsUsed
  threads := #[{ frames := .invoking theMethod args0 :: below }]
def below0 : List Frame := [.native { method := ⟨0, 0⟩, args := #[] }]
def about1 : State := aboutOver below0
def p0 : Program := .bare "" "" ""
def e0 : Env := launch0.env 0 0 0
theorem w_frames : about1.frames = Frame.invoking theMethod args0 :: below0 := rfl
set_option maxRecDepth 65536 in
theorem w_args : argsFit about1.vm theMethod args0 = true := by decide +kernel
set_option maxRecDepth 65536 in
theorem w_heap : heapFits about1 = true := by decide +kernel
set_option maxRecDepth 65536 in
theorem w_runnable : about1.curStatus? = some .runnable := by decide +kernel
set_option maxRecDepth 65536 in
theorem w_alone : about1.alone = true := by decide +kernel
set_option maxRecDepth 65536 in
theorem w_named : about1.methodNamed? x = some theMethod := by decide +kernel
set_option maxRecDepth 65536 in
theorem w_hears : about1.hears theMethod below0 = true := by decide +kernel
set_option maxRecDepth 65536 in
theorem w_ripe : about1.ripe theMethod args0 below0 = true := by decide +kernel
theorem w_running : about1.status = .running := rfl
set_option maxRecDepth 65536 in
theorem w_room : about1.hasRoom e0.platform room_1 = true :=
  launch0.hasRoom_least _ room_1 (by decide +kernel) (by decide +kernel) (by decide +kernel) (by decide +kernel) (by decide +kernel) (by decide +kernel)
theorem allAtoms_all (ts : List Jvm.Cond) (a : Array Jvm.Value) (st : Jvm.State) : (allAtoms ts).before a st = ts.all (fun c => c.before a st) := by
  induction ts with
  | nil => rfl
  | cons c t ih =>
    show (Jvm.Cond.and c (allAtoms t)).before a st = _
    rw [Jvm.Cond.before_and, ih, List.all_cons]
def words1 : List Jvm.Cond := Jvm.Cond.code x code maxLocals ret :: tables_1
/-- a 'code' word, met by the world's own term for the bytes: nothing is compared byte by byte -/
theorem code_word {y : MethodName} {bytes : ByteArray} {mx : Nat} {rt : Option FieldType} {a : Array Value} {s : State} {m : MethodId} {meth : Method} {c : Code} (h1 : s.methodNamed? y = some m) (h2 : s.vm.method? m = some meth) (h3 : meth.code = some c) (h4 : c.code = bytes)
    (h5 : (c.maxLocals == mx && c.exceptionTable.isEmpty && decide (c.maxStack ≤ mostOperands) && decide (meth.sig.returnType = rt) && !meth.locks && decide (parseMethodDescriptor y.desc = some meth.sig)) = true) : (Jvm.Cond.code y bytes mx rt).before a s = true := by
  simp only [Bool.and_eq_true, beq_iff_eq, Bool.not_eq_true', decide_eq_true_eq] at h5
  obtain ⟨⟨⟨⟨⟨g1, g2⟩, g3⟩, g4⟩, g5⟩, g6⟩ := h5
  simp [Cond.before, Cond.holds, Cond.value, h1, h2, h3, h4, g1, g2, g3, g4, g5, g6]
def isCode : Jvm.Cond → Bool
  | .code _ _ _ _ => true
  | _ => false
theorem all_split {L : List Jvm.Cond} {P : Jvm.Cond → Bool} (h1 : L.all (fun c => isCode c || P c) = true) (h2 : ∀ c ∈ L.filter isCode, P c = true) : L.all P = true := by
  refine List.all_eq_true.mpr fun c hc => ?_
  have h := List.all_eq_true.mp h1 c hc
  rcases Bool.eq_false_or_eq_true (isCode c) with hi | hi
  · exact h2 c (List.mem_filter.mpr ⟨hc, hi⟩)
  · simpa [hi] using h
set_option maxRecDepth 65536 in
theorem w_c0 : (Jvm.Cond.code x code maxLocals ret).before args0 about1 = true := code_word (m := ⟨1, 1⟩) (meth := k1m1) (c := k1c1) (by decide +kernel) rfl rfl rfl (by decide +kernel)
set_option maxRecDepth 65536 in
theorem w_c1 : (Jvm.Cond.code ({ cls := "com/example/meter_to_month/metertomonth/ledger/ResourceKind", name := "period", desc := "(Lcom/example/meter_to_month/metertomonth/ledger/BillingPeriod$Unit;I)Lcom/example/meter_to_month/metertomonth/ledger/BillingPeriod;" } : Jvm.MethodName) prog_15_method_6_code (4 : Nat) (Option.some (Jvm.ClassFile.FieldType.object "com/example/meter_to_month/metertomonth/ledger/BillingPeriod"))).before args0 about1 = true := code_word (m := ⟨7, 0⟩) (meth := k7m0) (c := k7c0) (by decide +kernel) rfl rfl rfl (by decide +kernel)
set_option maxRecDepth 65536 in
theorem w_c2 : (Jvm.Cond.code ({ cls := "java/lang/Enum", name := "ordinal", desc := "()I" } : Jvm.MethodName) jdk_37_method_2_code (1 : Nat) (Option.some Jvm.ClassFile.FieldType.int)).before args0 about1 = true := code_word (m := ⟨5, 0⟩) (meth := k5m0) (c := k5c0) (by decide +kernel) rfl rfl rfl (by decide +kernel)
set_option maxRecDepth 65536 in
theorem w_c3 : (Jvm.Cond.code ({ cls := "com/example/meter_to_month/metertomonth/ledger/BillingPeriod", name := "<init>", desc := "(Lcom/example/meter_to_month/metertomonth/ledger/BillingPeriod$Unit;I)V" } : Jvm.MethodName) prog_4_method_1_code (3 : Nat) (Option.none : Option Jvm.ClassFile.FieldType)).before args0 about1 = true := code_word (m := ⟨11, 0⟩) (meth := k11m0) (c := k11c0) (by decide +kernel) rfl rfl rfl (by decide +kernel)
set_option maxRecDepth 65536 in
theorem w_c4 : (Jvm.Cond.code ({ cls := "java/lang/Record", name := "<init>", desc := "()V" } : Jvm.MethodName) jdk_30_method_1_code (1 : Nat) (Option.none : Option Jvm.ClassFile.FieldType)).before args0 about1 = true := code_word (m := ⟨10, 0⟩) (meth := k10m0) (c := k10c0) (by decide +kernel) rfl rfl rfl (by decide +kernel)
set_option maxRecDepth 65536 in
theorem w_c5 : (Jvm.Cond.code ({ cls := "java/lang/Object", name := "<init>", desc := "()V" } : Jvm.MethodName) object_method_1_code (1 : Nat) (Option.none : Option Jvm.ClassFile.FieldType)).before args0 about1 = true := code_word (m := ⟨0, 0⟩) (meth := k0m0) (c := k0c0) (by decide +kernel) rfl rfl rfl (by decide +kernel)
set_option maxRecDepth 65536 in
theorem w_c6 : (Jvm.Cond.code ({ cls := "java/util/Objects", name := "requireNonNull", desc := "(Ljava/lang/Object;Ljava/lang/String;)Ljava/lang/Object;" } : Jvm.MethodName) jdk_31_method_11_code (2 : Nat) (Option.some (Jvm.ClassFile.FieldType.object "java/lang/Object"))).before args0 about1 = true := code_word (m := ⟨15, 1⟩) (meth := k15m1) (c := k15c1) (by decide +kernel) rfl rfl rfl (by decide +kernel)
set_option maxRecDepth 65536 in
theorem w_c7 : (Jvm.Cond.code ({ cls := "com/example/meter_to_month/metertomonth/ledger/BillingPeriod", name := "unit", desc := "()Lcom/example/meter_to_month/metertomonth/ledger/BillingPeriod$Unit;" } : Jvm.MethodName) prog_4_method_6_code (1 : Nat) (Option.some (Jvm.ClassFile.FieldType.object "com/example/meter_to_month/metertomonth/ledger/BillingPeriod$Unit"))).before args0 about1 = true := code_word (m := ⟨11, 1⟩) (meth := k11m1) (c := k11c1) (by decide +kernel) rfl rfl rfl (by decide +kernel)
set_option maxRecDepth 65536 in
theorem w_c8 : (Jvm.Cond.code ({ cls := "com/example/meter_to_month/metertomonth/ledger/BillingPeriod", name := "count", desc := "()I" } : Jvm.MethodName) prog_4_method_7_code (1 : Nat) (Option.some Jvm.ClassFile.FieldType.int)).before args0 about1 = true := code_word (m := ⟨11, 2⟩) (meth := k11m2) (c := k11c2) (by decide +kernel) rfl rfl rfl (by decide +kernel)
def codes1 : List Jvm.Cond := [Jvm.Cond.code x code maxLocals ret, Jvm.Cond.code ({ cls := "com/example/meter_to_month/metertomonth/ledger/ResourceKind", name := "period", desc := "(Lcom/example/meter_to_month/metertomonth/ledger/BillingPeriod$Unit;I)Lcom/example/meter_to_month/metertomonth/ledger/BillingPeriod;" } : Jvm.MethodName) prog_15_method_6_code (4 : Nat) (Option.some (Jvm.ClassFile.FieldType.object "com/example/meter_to_month/metertomonth/ledger/BillingPeriod")), Jvm.Cond.code ({ cls := "java/lang/Enum", name := "ordinal", desc := "()I" } : Jvm.MethodName) jdk_37_method_2_code (1 : Nat) (Option.some Jvm.ClassFile.FieldType.int), Jvm.Cond.code ({ cls := "com/example/meter_to_month/metertomonth/ledger/BillingPeriod", name := "<init>", desc := "(Lcom/example/meter_to_month/metertomonth/ledger/BillingPeriod$Unit;I)V" } : Jvm.MethodName) prog_4_method_1_code (3 : Nat) (Option.none : Option Jvm.ClassFile.FieldType), Jvm.Cond.code ({ cls := "java/lang/Record", name := "<init>", desc := "()V" } : Jvm.MethodName) jdk_30_method_1_code (1 : Nat) (Option.none : Option Jvm.ClassFile.FieldType), Jvm.Cond.code ({ cls := "java/lang/Object", name := "<init>", desc := "()V" } : Jvm.MethodName) object_method_1_code (1 : Nat) (Option.none : Option Jvm.ClassFile.FieldType), Jvm.Cond.code ({ cls := "java/util/Objects", name := "requireNonNull", desc := "(Ljava/lang/Object;Ljava/lang/String;)Ljava/lang/Object;" } : Jvm.MethodName) jdk_31_method_11_code (2 : Nat) (Option.some (Jvm.ClassFile.FieldType.object "java/lang/Object")), Jvm.Cond.code ({ cls := "com/example/meter_to_month/metertomonth/ledger/BillingPeriod", name := "unit", desc := "()Lcom/example/meter_to_month/metertomonth/ledger/BillingPeriod$Unit;" } : Jvm.MethodName) prog_4_method_6_code (1 : Nat) (Option.some (Jvm.ClassFile.FieldType.object "com/example/meter_to_month/metertomonth/ledger/BillingPeriod$Unit")), Jvm.Cond.code ({ cls := "com/example/meter_to_month/metertomonth/ledger/BillingPeriod", name := "count", desc := "()I" } : Jvm.MethodName) prog_4_method_7_code (1 : Nat) (Option.some Jvm.ClassFile.FieldType.int)]
set_option maxRecDepth 65536 in
theorem codes_eq : words1.filter isCode = codes1 := rfl
theorem w_codes : ∀ c ∈ words1.filter isCode, c.before args0 about1 = true := by
  rw [codes_eq]
  intro c hc
  simp only [codes1, List.mem_cons, List.not_mem_nil, or_false] at hc
  rcases hc with rfl | rfl | rfl | rfl | rfl | rfl | rfl | rfl | rfl
  · exact w_c0
  · exact w_c1
  · exact w_c2
  · exact w_c3
  · exact w_c4
  · exact w_c5
  · exact w_c6
  · exact w_c7
  · exact w_c8
set_option maxRecDepth 65536 in
theorem w_t1 : (words1.take 24).all (fun c => isCode c || c.before args0 about1) = true := by decide +kernel
set_option maxRecDepth 65536 in
theorem w_t2 : ((words1.drop 24).take 24).all (fun c => isCode c || c.before args0 about1) = true := by decide +kernel
set_option maxRecDepth 65536 in
theorem w_t3 : (((words1.drop 24).drop 24).take 24).all (fun c => isCode c || c.before args0 about1) = true := by decide +kernel
set_option maxRecDepth 65536 in
theorem w_t4 : (((words1.drop 24).drop 24).drop 24).all (fun c => isCode c || c.before args0 about1) = true := by decide +kernel
theorem w_tables : (allAtoms (Jvm.Cond.code x code maxLocals ret :: tables_1)).before args0 about1 = true := by
  rw [allAtoms_all]
  show words1.all (fun c => c.before args0 about1) = true
  refine all_split ?_ w_codes
  rw [← List.take_append_drop 24 words1, List.all_append, w_t1, ← List.take_append_drop 24 (words1.drop 24), List.all_append, w_t2, ← List.take_append_drop 24 ((words1.drop 24).drop 24), List.all_append, w_t3, w_t4]
  rfl
set_option maxRecDepth 65536 in
theorem w_case : (Jvm.Cond.and given_1 narrow_1).before args0 about1 = true := by decide +kernel
theorem w_applies : (headSpec (Jvm.Cond.code x code maxLocals ret :: tables_1) room_1).applies x e0.platform about1 = true :=
  (Spec.applies_iff w_frames).mpr ⟨w_running, w_runnable, w_alone, w_named, w_hears, w_ripe, w_room, w_tables⟩
theorem atStart : AtStart classFile x code maxLocals ret World_1 tables_1 room_1 Calls_1 rest_1 Pre_1 launch0 p0 e0 about1 theMethod args0 below0 :=
  ⟨lists_1, trivial, launch0.admits_env _ _ _, launch0.least_env, fairChoices_fair.cas, fairChoices_fair.clock, w_frames, w_args, w_heap, w_applies, trivial, trivial, w_case⟩
end start1
theorem witness_1 : WitnessClaimed_1 := ⟨start1.p0, start1.e0, start1.about1, start1.theMethod, start1.args0, start1.below0, start1.atStart⟩
end Jvm.Pilot.@@N@@
