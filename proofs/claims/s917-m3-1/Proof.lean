import JvmDerived
import JvmDerived.Pilot.@@N@@Statement
import JvmDerived.Pilot.@@N@@Code
set_option linter.unusedVariables false
set_option linter.unusedSimpArgs false
@@BLOCK:Masks.lean.txt@@
@@BLOCK:NumsL.lean.txt@@
namespace Jvm.Pilot.@@N@@
open Jvm Jvm.ClassFile Sem Op Lib Jvm.Free Jvm.Stand Jvm.LawKit Jvm.RoadKit Bundle Jvm.Pilot.@@N@@.Jvm.D
/-! own layer: a walk as "from here the body comes to a good end" (own_Wp), so that a walk may fork in its middle -/
section OwnLayer
variable {p : Program} {l : Launch} {e : Env} {R : Room} {s : State} {m : MethodId} {args : Array Value} {below : List Frame} {meth : Method} {c : Code} {T T' : State} {locs : List Loc} {cells slots cs sl pc : Nat} {g g' : JFrame} {F : State → Outcome → Prop} {Q : Option Value → Heap → List Loc → Prop} {Ls : Array Slot} {rest : List Value} {Z : State} {a0 : Array Value} {h : Heap}
def own_Wp (p : Program) (e : Env) (below : List Frame) (F : State → Outcome → Prop) (T : State) (g : JFrame) : Prop := ∃ s₂ o, Steps p.tables e below (T.setTop g) s₂ ∧ F s₂ o
def own_Fin (below : List Frame) (s : State) (Q : Option Value → Heap → List Loc → Prop) (cs sl : Nat) (s₂ : State) (o : Outcome) : Prop := s₂.status = .running ∧ Ended s₂ below o ∧ ∃ v L, o = .returned v ∧ Q v s₂.heap L ∧ FrameEnd s o s₂ L cs sl
theorem own_step (st : ∀ target, Steps p.tables e below (T'.setTop g') target → Steps p.tables e below (T.setTop g) target) (k : own_Wp p e below F T' g') : own_Wp p e below F T g := by
  obtain ⟨a, b, h1, h2⟩ := k
  exact ⟨a, b, st _ h1, h2⟩
theorem own_cast (q : g = g') (k : own_Wp p e below F T g') : own_Wp p e below F T g := q ▸ k
theorem own_leave {v : Option Value} {fs : List Frame} (st : Steps p.tables e below (T.setTop g) (T.setFrames fs)) (hrun : (T.setFrames fs).status = .running) (hended : Ended (T.setFrames fs) below (.returned v)) (hW : s.WarmedH (T.setFrames fs).vm) (hsame : s.sameButNew ({ T.setFrames fs with vm := s.vm } : State) locs cells slots) (hc : cells ≤ cs) (hs : slots ≤ sl) (hQ : Q v T.heap locs) : own_Wp p e below (own_Fin below s Q cs sl) T g :=
  ⟨_, _, st, hrun, hended, v, locs, rfl, hQ, ⟨_, rfl⟩, hW, hsame.mono hc hs⟩
theorem own_retN (X : Stand p l e R s m args below meth c T locs cells slots) (hx : p.tables.exec = Jvm.exec) {t : FieldType} {z : Int32} (hret : meth.sig.returnType = some t) (ht : t = .boolean ∨ t = .byte ∨ t = .char ∨ t = .short) (hlocks : meth.locks = false) (hd : decode c.code pc = .ok (.ireturn, 1)) (hc : cells ≤ cs) (hs : slots ≤ sl) (hQ : Q (some (.int (nar t z))) T.heap locs) : own_Wp p e below (own_Fin below s Q cs sl) T (mkF m pc Ls (.int z :: rest)) := by
  obtain ⟨fs, hr, hrun, hended, hW, hsame⟩ := X.leave (v := some (.int (nar t z))) (fun h => by rw [hret] at h; cases h) hlocks
  exact own_leave (retN X hx hret ht hd hr) hrun hended hW hsame hc hs hQ
theorem own_retI (X : Stand p l e R s m args below meth c T locs cells slots) (hx : p.tables.exec = Jvm.exec) {z : Int32} (hret : meth.sig.returnType = some .int) (hlocks : meth.locks = false) (hd : decode c.code pc = .ok (.ireturn, 1)) (hc : cells ≤ cs) (hs : slots ≤ sl) (hQ : Q (some (.int z)) T.heap locs) : own_Wp p e below (own_Fin below s Q cs sl) T (mkF m pc Ls (.int z :: rest)) := by
  obtain ⟨fs, hr, hrun, hended, hW, hsame⟩ := X.leave (v := some (.int z)) (fun h => by rw [hret] at h; cases h) hlocks
  refine own_leave ?_ hrun hended hW hsame hc hs hQ
  have hm' : T.vm.method? m = some meth := X.method'
  have hn : narrow .int (.int z) = .int z := rfl
  show Steps p.tables e below (T.setTop { method := m, pc := pc, locals := Ls, stack := _ :: rest, locked := none }) _
  jvm_step X.here [X.here.top, hx, hd, hm', hret, hn]
  first | (intro acts; rw [hr _ acts rfl rfl rfl]) | rw [hr _ _ rfl rfl rfl]
  exact Steps.refl _
theorem own_retJ (X : Stand p l e R s m args below meth c T locs cells slots) (hx : p.tables.exec = Jvm.exec) {z : Int64} (hret : meth.sig.returnType = some .long) (hlocks : meth.locks = false) (hd : decode c.code pc = .ok (.lreturn, 1)) (hc : cells ≤ cs) (hs : slots ≤ sl) (hQ : Q (some (.long z)) T.heap locs) : own_Wp p e below (own_Fin below s Q cs sl) T (mkF m pc Ls (.long z :: rest)) := by
  obtain ⟨fs, hr, hrun, hended, hW, hsame⟩ := X.leave (v := some (.long z)) (fun h => by rw [hret] at h; cases h) hlocks
  refine own_leave ?_ hrun hended hW hsame hc hs hQ
  have hm' : T.vm.method? m = some meth := X.method'
  have hn : narrow .long (.long z) = .long z := rfl
  show Steps p.tables e below (T.setTop { method := m, pc := pc, locals := Ls, stack := _ :: rest, locked := none }) _
  jvm_step X.here [X.here.top, hx, hd, hm', hret, hn]
  first | (intro acts; rw [hr _ acts rfl rfl rfl]) | rw [hr _ _ rfl rfl rfl]
  exact Steps.refl _
theorem own_retA (X : Stand p l e R s m args below meth c T locs cells slots) (hx : p.tables.exec = Jvm.exec) {t : FieldType} {v : Value} (hret : meth.sig.returnType = some t) (ht : t.isReference = true) (hv : v.isRef = true) (hlocks : meth.locks = false) (hd : decode c.code pc = .ok (.areturn, 1)) (hc : cells ≤ cs) (hs : slots ≤ sl) (hQ : Q (some v) T.heap locs) : own_Wp p e below (own_Fin below s Q cs sl) T (mkF m pc Ls (v :: rest)) := by
  obtain ⟨fs, hr, hrun, hended, hW, hsame⟩ := X.leave (v := some v) (fun h => by rw [hret] at h; cases h) hlocks
  refine own_leave ?_ hrun hended hW hsame hc hs hQ
  have hm' : T.vm.method? m = some meth := X.method'
  rcases ref_cases hv with rfl | ⟨a, rfl⟩
  · show Steps p.tables e below (T.setTop { method := m, pc := pc, locals := Ls, stack := _ :: rest, locked := none }) _
    jvm_step X.here [X.here.top, hx, hd, hm', hret, Value.isRef, ht]
    first | (intro acts; rw [hr _ acts rfl rfl rfl]) | rw [hr _ _ rfl rfl rfl]
    exact Steps.refl _
  · show Steps p.tables e below (T.setTop { method := m, pc := pc, locals := Ls, stack := _ :: rest, locked := none }) _
    jvm_step X.here [X.here.top, hx, hd, hm', hret, Value.isRef, ht]
    first | (intro acts; rw [hr _ acts rfl rfl rfl]) | rw [hr _ _ rfl rfl rfl]
    exact Steps.refl _
theorem own_retV (X : Stand p l e R s m args below meth c T locs cells slots) (hx : p.tables.exec = Jvm.exec) (hret : meth.sig.returnType = none) (hlocks : meth.locks = false) (hd : decode c.code pc = .ok (.return_, 1)) (hc : cells ≤ cs) (hs : slots ≤ sl) (hQ : Q none T.heap locs) : own_Wp p e below (own_Fin below s Q cs sl) T (mkF m pc Ls []) := by
  obtain ⟨fs, hr, hrun, hended, hW, hsame⟩ := X.leave (v := none) (fun _ => rfl) hlocks
  exact own_leave (X.returnOut hx hret hd hr) hrun hended hW hsame hc hs hQ
/-- a contract, as every body of this text has one -/
def own_Met (l : Launch) (Z : State) (y : MethodName) (cd : Cond) (ws : List Cond) (rm : Room) (as' : Array Value) (h : Heap) (Q : Option Value → Heap → List Loc → Prop) : Prop :=
  MetFree l y (head1 (cd :: ws) rm) (fun a U => a = as' ∧ Z.Warmed39 U.vm ∧ U.heap = h) (fun _ _ _ _ _ => True) (fun _ U o U' => ∃ v L, o = .returned v ∧ Q v U'.heap L ∧ FrameEnd U o U' L rm.cells rm.slots)
theorem own_met {y : MethodName} {bytes : ByteArray} {maxL : Nat} {ret : Option FieldType} {ws : List Cond} {rm : Room} {as' : Array Value} {own : String} (hpl : plainFor y = true) (ho : y.cls = own)
    (body : ∀ p e s m below meth c s₁, p.tables.exec = Jvm.exec → c.code = bytes → c.maxLocals = maxL → s.vm.findClass own = some m.cls → meth.name = y.name → meth.sig.returnType = ret → meth.locks = false → Z.Warmed39 s.vm → s₁.heap = h →
      Stand p l e rm s m as' below meth c s₁ [] 0 0 → own_Wp p e below (own_Fin below s Q rm.cells rm.slots) s₁ (entryFrame m as' maxL)) : own_Met l Z y (Cond.code y bytes maxL ret) ws rm as' h Q := by
  refine MetFree.of_bodySF hpl hisR ?_
  intro p e s m args below meth c s₁ Bd hml0 hP hK
  obtain ⟨rfl, hZ, hh⟩ := hP
  exact body p e s m below meth c s₁ Bd.exec Bd.bytes hml0 (ho ▸ findClass_of_methodNamed Bd.named) (name_of_methodNamed Bd.named Bd.method).1 Bd.returns Bd.notSynchronized hZ (by rw [← hh, Bd.state]; rfl) (Stand.of_body Bd)
theorem own_callS (X : Stand p l e R s m args below meth c T locs cells slots) (hx : p.tables.exec = Jvm.exec) (hZ : Z.Warmed39 s.vm) {own : String} {index : Nat} {y : MethodName} {bytes : ByteArray} {maxL W : Nat} {ret : Option FieldType} {rm : Room} {as' : Array Value}
    (hown : s.vm.findClass own = some m.cls) (w1 : (Cond.methodLink own index y).before a0 Z = true) (w2 : (Cond.static y).before a0 Z = true) (w3 : (Cond.initialized y.cls).before a0 Z = true) (w4 : (Cond.code y bytes maxL ret).before a0 Z = true) (hy : y.cls ≠ "java/lang/invoke/MethodHandle" ∧ y.cls ≠ "java/lang/invoke/VarHandle")
    (hM : own_Met l Z y (Cond.code y bytes maxL ret) [] rm as' h Q) (hf : rm.frames + 1 ≤ R.frames) (hl : W + (maxL + 11) + rm.locals ≤ R.locals) (argsL : List Value) (ha : argsL.toArray = as') (hlen : ∀ sig, parseMethodDescriptor y.desc = some sig → argsL.length = sig.parameters.length)
    (hsz : Ls.size = c.maxLocals) (hW : (rest.map fun v => v.category).sum ≤ W) (hd : decode c.code pc = .ok (.invokestatic index, 3)) (eT : T.heap = h) (hc : cells + rm.cells ≤ R.cells) (hs : slots + rm.slots ≤ R.slots) :
    ∃ (v : Option Value) (T' : State) (L : List Loc), Stand p l e R s m args below meth c T' (locs ++ L) (cells + rm.cells) (slots + rm.slots) ∧ Q v T'.heap L ∧ ∀ F, own_Wp p e below F T' (mkF m (pc + 3) Ls (v.toList ++ rest)) → own_Wp p e below F T (mkF m pc Ls (argsL.reverse ++ rest)) := by
  obtain ⟨v, _, ⟨T1, L1, k1, n1⟩, -, X1, ⟨Lc, hQ, l1, y1, z1⟩, st⟩ := Jvm.LawKit.callS X hx (y := y) hown (mvT hZ w1) (mvT hZ w2) (mvT hZ w3) (mvT hZ w4) hy (backOf (W := W) hM hZ w4 w3 hf hl) (g := mkF m pc Ls (argsL.reverse ++ rest)) rfl hsz (argsL := argsL) (rest := rest) hlen rfl (by show 2 * 0 + _ ≤ _; omega) hd (fun _ _ => ⟨ha, eT, hc, hs⟩)
  dsimp only [Pt.U, Pt.locs, Pt.cells, Pt.slots] at X1 l1 y1 z1 st hQ
  subst l1 y1 z1
  exact ⟨v, T1, Lc, X1, hQ, fun F k => own_step st k⟩
theorem own_callV (X : Stand p l e R s m args below meth c T locs cells slots) (hx : p.tables.exec = Jvm.exec) (hZ : Z.Warmed39 s.vm) {own C : String} {index : Nat} {y z : MethodName} {bytes : ByteArray} {maxL W : Nat} {ret : Option FieldType} {rm : Room} {as' : Array Value} {b : Addr}
    (hown : s.vm.findClass own = some m.cls) (w1 : (Cond.methodLink own index y).before a0 Z = true) (w2 : (Cond.declares y).before a0 Z = true) (hnf : NotFace s y) (w3 : (Cond.selects C y z).before a0 Z = true) (w5 : (Cond.instanceMethod z).before a0 Z = true) (w6 : (Cond.initialized z.cls).before a0 Z = true) (w4 : (Cond.code z bytes maxL ret).before a0 Z = true) (hy : y.cls ≠ "java/lang/invoke/MethodHandle" ∧ y.cls ≠ "java/lang/invoke/VarHandle") (E : Exa Z h b C)
    (hM : own_Met l Z z (Cond.code z bytes maxL ret) [] rm as' h Q) (hf : rm.frames + 1 ≤ R.frames) (hl : W + (maxL + 11) + rm.locals ≤ R.locals) (argsL : List Value) (ha : (.ref b :: argsL).toArray = as') (hlen : ∀ sig, parseMethodDescriptor y.desc = some sig → argsL.length = sig.parameters.length)
    (hsz : Ls.size = c.maxLocals) (hW : (rest.map fun v => v.category).sum ≤ W) (hd : decode c.code pc = .ok (.invokevirtual index, 3)) (eT : T.heap = h) (hc : cells + rm.cells ≤ R.cells) (hs : slots + rm.slots ≤ R.slots) :
    ∃ (v : Option Value) (T' : State) (L : List Loc), Stand p l e R s m args below meth c T' (locs ++ L) (cells + rm.cells) (slots + rm.slots) ∧ Q v T'.heap L ∧ ∀ F, own_Wp p e below F T' (mkF m (pc + 3) Ls (v.toList ++ rest)) → own_Wp p e below F T (mkF m pc Ls (argsL.reverse ++ .ref b :: rest)) := by
  obtain ⟨cq, kq, qa, qb, qc⟩ := isOf hZ eT E
  obtain ⟨v, _, ⟨T1, L1, k1, n1⟩, -, X1, ⟨Lc, hQ, l1, y1, z1⟩, st⟩ := X.virtualBack hx (y := y) (z := z) hown (mvT hZ w1) (mvT hZ w2) hnf (mvT hZ w3) (mvT hZ w5) hy (backOf (W := W) hM hZ w4 w6 hf hl) qa qc (g := mkF m pc Ls (argsL.reverse ++ .ref b :: rest)) rfl hsz (Steps.refl _) (argsL := argsL) (rest := rest) hlen rfl (by show 2 * 0 + _ ≤ _; omega) hd (fun _ _ => ⟨ha, eT, hc, hs⟩)
  dsimp only [Pt.U, Pt.locs, Pt.cells, Pt.slots] at X1 l1 y1 z1 st hQ
  subst l1 y1 z1
  exact ⟨v, T1, Lc, X1, hQ, fun F k => own_step (fun _ q => st.trans q) k⟩
theorem own_callN (X : Stand p l e R s m args below meth c T locs cells slots) (hx : p.tables.exec = Jvm.exec) (hZ : Z.Warmed39 s.vm) {own : String} {index : Nat} {y : MethodName} {bytes : ByteArray} {maxL W : Nat} {rm : Room} {as' : Array Value} {b : Addr}
    (hn : y.name = "<init>") (hown : s.vm.findClass own = some m.cls) (w1 : (Cond.methodLink own index y).before a0 Z = true) (w5 : (Cond.instanceMethod y).before a0 Z = true) (w6 : (Cond.initialized y.cls).before a0 Z = true) (w4 : (Cond.code y bytes maxL none).before a0 Z = true) (hy : y.cls ≠ "java/lang/invoke/MethodHandle" ∧ y.cls ≠ "java/lang/invoke/VarHandle")
    (hM : own_Met l Z y (Cond.code y bytes maxL none) [] rm as' h Q) (hf : rm.frames + 1 ≤ R.frames) (hl : W + (maxL + 11) + rm.locals ≤ R.locals) (argsL : List Value) (ha : (.ref b :: argsL).toArray = as') (hlen : ∀ sig, parseMethodDescriptor y.desc = some sig → argsL.length = sig.parameters.length)
    (hsz : Ls.size = c.maxLocals) (hW : (rest.map fun v => v.category).sum ≤ W) (hd : decode c.code pc = .ok (.invokespecial index, 3)) (eT : T.heap = h) (hc : cells + rm.cells ≤ R.cells) (hs : slots + rm.slots ≤ R.slots) :
    ∃ (v : Option Value) (T' : State) (L : List Loc), Stand p l e R s m args below meth c T' (locs ++ L) (cells + rm.cells) (slots + rm.slots) ∧ Q v T'.heap L ∧ ∀ F, own_Wp p e below F T' (mkF m (pc + 3) Ls (v.toList ++ rest)) → own_Wp p e below F T (mkF m pc Ls (argsL.reverse ++ .ref b :: rest)) := by
  obtain ⟨v, _, ⟨T1, L1, k1, n1⟩, -, X1, ⟨Lc, hQ, l1, y1, z1⟩, st⟩ := X.specialBack hx (y := y) hn hown (mvT hZ w1) (mvT hZ w5) (mvT hZ w4) hy (backOf (W := W) hM hZ w4 w6 hf hl) (g := mkF m pc Ls (argsL.reverse ++ .ref b :: rest)) rfl hsz (Steps.refl _) (a := b) (argsL := argsL) (rest := rest) hlen rfl (by show 2 * 0 + _ ≤ _; omega) hd (fun _ _ => ⟨ha, eT, hc, hs⟩)
  dsimp only [Pt.U, Pt.locs, Pt.cells, Pt.slots] at X1 l1 y1 z1 st hQ
  subst l1 y1 z1
  exact ⟨v, T1, Lc, X1, hQ, fun F k => own_step (fun _ q => st.trans q) k⟩
theorem own_callU (X : Stand p l e R s m args below meth c T locs cells slots) (hx : p.tables.exec = Jvm.exec) (hZ : Z.Warmed39 s.vm) {own C owner : String} {index : Nat} {y z : MethodName} {bytes : ByteArray} {maxL W : Nat} {ret : Option FieldType} {rm : Room} {as' : Array Value} {b : Addr}
    (hown : s.vm.findClass own = some m.cls) (w1 : (Cond.methodLink own index y).before a0 Z = true) (w2 : (Cond.sameMethod y.cls owner y.name y.desc).before a0 Z = true) (w7 : (Cond.declares ⟨owner, y.name, y.desc⟩).before a0 Z = true) (w3 : (Cond.selects C y z).before a0 Z = true) (w5 : (Cond.instanceMethod z).before a0 Z = true) (w6 : (Cond.initialized z.cls).before a0 Z = true) (w4 : (Cond.code z bytes maxL ret).before a0 Z = true) (hy : owner ≠ "java/lang/invoke/MethodHandle" ∧ owner ≠ "java/lang/invoke/VarHandle") (E : Exa Z h b C)
    (hM : own_Met l Z z (Cond.code z bytes maxL ret) [] rm as' h Q) (hf : rm.frames + 1 ≤ R.frames) (hl : W + (maxL + 11) + rm.locals ≤ R.locals) (argsL : List Value) (ha : (.ref b :: argsL).toArray = as') (hlen : ∀ sig, parseMethodDescriptor y.desc = some sig → argsL.length = sig.parameters.length)
    (hsz : Ls.size = c.maxLocals) (hW : (rest.map fun v => v.category).sum ≤ W) (hd : decode c.code pc = .ok (.invokevirtual index, 3)) (eT : T.heap = h) (hc : cells + rm.cells ≤ R.cells) (hs : slots + rm.slots ≤ R.slots) :
    ∃ (v : Option Value) (T' : State) (L : List Loc), Stand p l e R s m args below meth c T' (locs ++ L) (cells + rm.cells) (slots + rm.slots) ∧ Q v T'.heap L ∧ ∀ F, own_Wp p e below F T' (mkF m (pc + 3) Ls (v.toList ++ rest)) → own_Wp p e below F T (mkF m pc Ls (argsL.reverse ++ .ref b :: rest)) := by
  obtain ⟨cq, kq, qa, qb, qc⟩ := isOf hZ eT E
  obtain ⟨v, _, ⟨T1, L1, k1, n1⟩, -, X1, ⟨Lc, hQ, l1, y1, z1⟩, st⟩ := X.virtualBackUp hx (x := y) (y := z) hown (mvT hZ w1) (mvT hZ w2) (mvT hZ w7) hy (mvT hZ w3) (mvT hZ w5) (backOf (W := W) hM hZ w4 w6 hf hl) qa qc (g := mkF m pc Ls (argsL.reverse ++ .ref b :: rest)) rfl hsz (Steps.refl _) (argsL := argsL) (rest := rest) hlen rfl (by show 2 * 0 + _ ≤ _; omega) hd (fun _ _ => ⟨ha, eT, hc, hs⟩)
  dsimp only [Pt.U, Pt.locs, Pt.cells, Pt.slots] at X1 l1 y1 z1 st hQ
  subst l1 y1 z1
  exact ⟨v, T1, Lc, X1, hQ, fun F k => own_step (fun _ q => st.trans q) k⟩
theorem own_callF (X : Stand p l e R s m args below meth c T locs cells slots) (hx : p.tables.exec = Jvm.exec) (hZ : Z.Warmed39 s.vm) {own C : String} {index count : Nat} {y z : MethodName} {bytes : ByteArray} {maxL W : Nat} {ret : Option FieldType} {rm : Room} {as' : Array Value} {b : Addr}
    (hown : s.vm.findClass own = some m.cls) (w1 : (Cond.methodLink own index y).before a0 Z = true) (w2 : (Cond.declares y).before a0 Z = true) (w7 : (Cond.interfaceMethod y.cls y.cls y.name y.desc).before a0 Z = true) (hfa : ((Cond.interfaceMethod y.cls y.cls y.name y.desc).onTables && (Cond.interfaceMethod y.cls y.cls y.name y.desc).keepsFace) = true) (w3 : (Cond.selects C y z).before a0 Z = true) (w5 : (Cond.instanceMethod z).before a0 Z = true) (w8 : (Cond.publicMethod z).before a0 Z = true) (w9 : (Cond.unhidden C y.name y.desc).before a0 Z = true) (w10 : (Cond.castable C y.cls).before a0 Z = true) (w6 : (Cond.initialized z.cls).before a0 Z = true) (w4 : (Cond.code z bytes maxL ret).before a0 Z = true) (hy : y.cls ≠ "java/lang/invoke/MethodHandle" ∧ y.cls ≠ "java/lang/invoke/VarHandle") (E : Exa Z h b C)
    (hM : own_Met l Z z (Cond.code z bytes maxL ret) [] rm as' h Q) (hf : rm.frames + 1 ≤ R.frames) (hl : W + (maxL + 11) + rm.locals ≤ R.locals) (argsL : List Value) (ha : (.ref b :: argsL).toArray = as') (hlen : ∀ sig, parseMethodDescriptor y.desc = some sig → argsL.length = sig.parameters.length)
    (hsz : Ls.size = c.maxLocals) (hW : (rest.map fun v => v.category).sum ≤ W) (hd : decode c.code pc = .ok (.invokeinterface index count, 5)) (eT : T.heap = h) (hc : cells + rm.cells ≤ R.cells) (hs : slots + rm.slots ≤ R.slots) :
    ∃ (v : Option Value) (T' : State) (L : List Loc), Stand p l e R s m args below meth c T' (locs ++ L) (cells + rm.cells) (slots + rm.slots) ∧ Q v T'.heap L ∧ ∀ F, own_Wp p e below F T' (mkF m (pc + 5) Ls (v.toList ++ rest)) → own_Wp p e below F T (mkF m pc Ls (argsL.reverse ++ .ref b :: rest)) := by
  obtain ⟨cq, kq, qa, qb, qc⟩ := isOf hZ eT E
  obtain ⟨v, _, ⟨T1, L1, k1, n1⟩, -, X1, ⟨Lc, hQ, l1, y1, z1⟩, st⟩ := X.interfaceBack hx (xi := y) (y := z) hown (mvT hZ w1) (mvT hZ w2) (mvT hZ w7 hfa) (mvT hZ w3) (mvT hZ w5) (mvT hZ w8) (mvT hZ w9) (mvT hZ w10) hy (backOf (W := W) hM hZ w4 w6 hf hl) qa qb qc (g := mkF m pc Ls (argsL.reverse ++ .ref b :: rest)) rfl hsz (Steps.refl _) (argsL := argsL) (rest := rest) hlen rfl (by show 2 * 0 + _ ≤ _; omega) hd (fun _ _ => ⟨ha, eT, hc, hs⟩)
  dsimp only [Pt.U, Pt.locs, Pt.cells, Pt.slots] at X1 l1 y1 z1 st hQ
  subst l1 y1 z1
  exact ⟨v, T1, Lc, X1, hQ, fun F k => own_step (fun _ q => st.trans q) k⟩
theorem own_callP (X : Stand p l e R s m args below meth c T locs cells slots) (hx : p.tables.exec = Jvm.exec) (hZ : Z.Warmed39 s.vm) {own : String} {index : Nat} {y : MethodName} {bytes : ByteArray} {maxL W : Nat} {ret : Option FieldType} {rm : Room} {as' : Array Value} {b : Addr}
    (hown : s.vm.findClass own = some m.cls) (w1 : (Cond.methodLink own index y).before a0 Z = true) (w5 : (Cond.instanceMethod y).before a0 Z = true) (w7 : (Cond.selects y.cls y y).before a0 Z = true) (w8 : (Cond.privateMethod y).before a0 Z = true) (w6 : (Cond.initialized y.cls).before a0 Z = true) (w4 : (Cond.code y bytes maxL ret).before a0 Z = true) (hy : y.cls ≠ "java/lang/invoke/MethodHandle" ∧ y.cls ≠ "java/lang/invoke/VarHandle") {C : String} (E : Exa Z h b C)
    (hM : own_Met l Z y (Cond.code y bytes maxL ret) [] rm as' h Q) (hf : rm.frames + 1 ≤ R.frames) (hl : W + (maxL + 11) + rm.locals ≤ R.locals) (argsL : List Value) (ha : (.ref b :: argsL).toArray = as') (hlen : ∀ sig, parseMethodDescriptor y.desc = some sig → argsL.length = sig.parameters.length)
    (hsz : Ls.size = c.maxLocals) (hW : (rest.map fun v => v.category).sum ≤ W) (hd : decode c.code pc = .ok (.invokevirtual index, 3)) (eT : T.heap = h) (hc : cells + rm.cells ≤ R.cells) (hs : slots + rm.slots ≤ R.slots) :
    ∃ (v : Option Value) (T' : State) (L : List Loc), Stand p l e R s m args below meth c T' (locs ++ L) (cells + rm.cells) (slots + rm.slots) ∧ Q v T'.heap L ∧ ∀ F, own_Wp p e below F T' (mkF m (pc + 3) Ls (v.toList ++ rest)) → own_Wp p e below F T (mkF m pc Ls (argsL.reverse ++ .ref b :: rest)) := by
  obtain ⟨cq, q1, q2⟩ := E.cell
  obtain ⟨v, _, ⟨T1, L1, k1, n1⟩, -, X1, ⟨Lc, hQ, l1, y1, z1⟩, st⟩ := X.privateBack hx (y := y) hown (mvT hZ w1) (mvT hZ w5) (mvT hZ w7) (Cond.privateMethod_at (mvP hZ w8 (args := #[]))) (mvT hZ w4) hy (backOf (W := W) hM hZ w4 w6 hf hl) (g := mkF m pc Ls (argsL.reverse ++ .ref b :: rest)) rfl hsz (Steps.refl _) (a := b) (by rw [eT]; exact q1) q2 (argsL := argsL) (rest := rest) hlen rfl (by show 2 * 0 + _ ≤ _; omega) hd (fun _ _ => ⟨ha, eT, hc, hs⟩)
  dsimp only [Pt.U, Pt.locs, Pt.cells, Pt.slots] at X1 l1 y1 z1 st hQ
  subst l1 y1 z1
  exact ⟨v, T1, Lc, X1, hQ, fun F k => own_step (fun _ q => st.trans q) k⟩
/-- the words of a long conjunction, as a list -/
def own_flat : Cond → List Cond
  | .and a b => a :: own_flat b
  | c => [c]
theorem own_mem {args : Array Value} {Z : State} : ∀ c : Cond, c.value args Z none Z [] = some true → ∀ d ∈ own_flat c, d.value args Z none Z [] = some true
  | .and a b, h, d, hd => by
    obtain ⟨h1, h2⟩ := and_e h
    rcases List.mem_cons.mp hd with rfl | q
    · exact h1
    · exact own_mem b h2 d q
  | .tt, h, d, hd => by cases List.mem_singleton.mp hd; exact h
  | c, h, d, hd => by
    unfold own_flat at hd
    split at hd
    · rename_i a b
      obtain ⟨h1, h2⟩ := and_e h
      rcases List.mem_cons.mp hd with rfl | q
      · exact h1
      · exact own_mem b h2 d q
    · cases List.mem_singleton.mp hd; exact h
/-- the object that a term of the start names -/
def own_t (Z : State) (t : Term) : Addr := match t.eval #[] Z none [] Z with
  | some (.ref a) => a
  | _ => 0
theorem own_t_eq {t : Term} {a : Addr} (h : t.eval a0 Z none [] Z = some (.ref a)) (hr : t.eval a0 Z none [] Z = t.eval #[] Z none [] Z) : own_t Z t = a := by
  rw [hr] at h
  simp only [own_t, h]
theorem own_ev {t : Term} {K : String} (h : (Cond.exactly t K).value a0 Z none Z [] = some true) (hr : t.eval a0 Z none [] Z = t.eval #[] Z none [] Z) : t.eval a0 Z none [] Z = some (.ref (own_t Z t)) := by
  obtain ⟨a, ev⟩ := exa_v h
  rw [own_t_eq ev hr]
  exact ev
theorem own_evA {t : Term} {ty : FieldType} (h : (Cond.arrayOf t ty).value a0 Z none Z [] = some true) (hr : t.eval a0 Z none [] Z = t.eval #[] Z none [] Z) : t.eval a0 Z none [] Z = some (.ref (own_t Z t)) := by
  obtain ⟨a, ev⟩ := arr_v h
  rw [own_t_eq ev hr]
  exact ev
theorem own_eqI {t : Term} {z : Int32} (q : (Cond.eq t (.int z)).value a0 Z none Z [] = some true) : t.eval a0 Z none [] Z = some (.int z) := by
  cases hf : t.eval a0 Z none [] Z with
  | none => simp [Cond.value, hf] at q
  | some v => cases v <;> simp [Cond.value, Term.eval, hf] at q <;> first | (rw [q]; done) | exact congrArg (fun z => some (Value.int z)) q | skip
theorem own_eqR {t u : Term} {b : Addr} (q : (Cond.eq t u).value a0 Z none Z [] = some true) (ev : u.eval a0 Z none [] Z = some (.ref b)) : t.eval a0 Z none [] Z = some (.ref b) := by
  cases hf : t.eval a0 Z none [] Z with
  | none => simp [Cond.value, hf] at q
  | some v => cases v <;> simp [Cond.value, hf, ev] at q <;> first | (rw [q]; done) | exact congrArg (fun z => some (Value.ref z)) q | skip
theorem own_fld {t : Term} {O f d : String} {a : Addr} {v : Value} (ev : t.eval a0 Z none [] Z = some (.ref a)) (q : (Term.field t O f d).eval a0 Z none [] Z = some v) : Fld Z Z.heap a O f d v := by
  refine Fld.start ?_
  simp only [Term.eval, ev, Option.bind_eq_bind, Option.bind_some] at q
  exact q
theorem own_len {t : Term} {ty : FieldType} {a : Addr} {cl : Cell} {z : Int32} (A : Arr Z Z.heap a cl ty) (ev : t.eval a0 Z none [] Z = some (.ref a)) (q : (Cond.eq (.length t) (.int z)).value a0 Z none Z [] = some true) : cl.slots.size < 2 ^ 31 ∧ cl.slots.size.toInt32 = z := by
  have e0 : Z.arrayAt? a = some cl := Arr.fin (Vm.Alike.refl _) A
  have q2 := own_eqI q
  simp only [Term.eval, ev, e0, Option.bind_eq_bind, Option.bind_some] at q2
  split at q2
  · rename_i g
    exact ⟨g, by simpa using q2⟩
  · cases q2
theorem own_el {t : Term} {ty : FieldType} {a : Addr} {cl : Cell} {i : Int32} {v : Value} (A : Arr Z Z.heap a cl ty) (ev : t.eval a0 Z none [] Z = some (.ref a)) (q : (Term.elem t (.int i)).eval a0 Z none [] Z = some v) : cl.slots[i.toNatClampNeg]? = some v := by
  have e0 : Z.arrayAt? a = some cl := Arr.fin (Vm.Alike.refl _) A
  simp only [Term.eval, ev, e0, Option.bind_eq_bind, Option.bind_some] at q
  split at q
  · cases q
  · exact q
def own_i (Z : State) (t : Term) : Int32 := match t.eval #[] Z none [] Z with
  | some (.int a) => a
  | _ => 0
theorem own_evI {t : Term} (h : (Cond.isInt t).value a0 Z none Z [] = some true) (hr : t.eval a0 Z none [] Z = t.eval #[] Z none [] Z) : t.eval a0 Z none [] Z = some (.int (own_i Z t)) := by
  obtain ⟨a, ev⟩ := is_v h
  have q := ev
  rw [hr] at q
  have e : own_i Z t = a := by simp only [own_i, q]
  rw [e]
  exact ev
theorem own_neI {t : Term} {z a : Int32} (h : (Cond.not (.eq t (.int z))).value a0 Z none Z [] = some true) (ev : t.eval a0 Z none [] Z = some (.int a)) : ¬ (a = z) := by
  have q := not_v h
  simp only [Cond.value, ev, Term.eval] at q
  intro e
  subst e
  simp at q
theorem own_fitc {c : Int32} (h : nar .char c = c) : fits .char (.int c) = true := by
  have q := fits_nar_char c
  rw [h] at q
  exact q
theorem own_narb {c : Int32} (h : c = (0 : Int32) ∨ c = (1 : Int32)) : nar .boolean c = c := by rcases h with rfl | rfl <;> rfl
theorem own_nb {c : Int32} (h : c = (0 : Int32) ∨ c = (1 : Int32)) : narrow .boolean (.int c) = .int c := by rcases h with rfl | rfl <;> rfl
theorem own_fb {c : Int32} (h : c = (0 : Int32) ∨ c = (1 : Int32)) : fits .boolean (.int c) = true := by rcases h with rfl | rfl <;> rfl
theorem own_lc3 (a b : Int64) : (a < b ∧ lcmpW a b = -1) ∨ (a = b ∧ lcmpW a b = 0) ∨ (b < a ∧ lcmpW a b = 1) := by
  by_cases h : b < a
  · exact Or.inr (Or.inr ⟨h, if_pos h⟩)
  · by_cases h2 : a = b
    · exact Or.inr (Or.inl ⟨h2, (if_neg h).trans (if_pos h2)⟩)
    · refine Or.inl ⟨?_, (if_neg h).trans (if_neg h2)⟩
      simp only [Int64.lt_iff_toInt_lt, ← Int64.toInt_inj] at h h2 ⊢
      omega
theorem own_lcltY {a b : Int64} (h : a < b) : ifCond.holds .lt (lcmpW a b) = true := by
  rcases own_lc3 a b with ⟨h1, e⟩ | ⟨h1, e⟩ | ⟨h1, e⟩ <;> first | (rw [e]; decide) | (exfalso; simp only [Int64.lt_iff_toInt_lt, ← Int64.toInt_inj] at h h1; omega)
theorem own_lcltN {a b : Int64} (h : ¬ (a < b)) : ifCond.holds .lt (lcmpW a b) = false := by
  rcases own_lc3 a b with ⟨h1, e⟩ | ⟨h1, e⟩ | ⟨h1, e⟩ <;> first | (rw [e]; decide) | (exfalso; simp only [Int64.lt_iff_toInt_lt, ← Int64.toInt_inj] at h h1; omega)
theorem own_lcgeY {a b : Int64} (h : ¬ (a < b)) : ifCond.holds .ge (lcmpW a b) = true := by
  rcases own_lc3 a b with ⟨h1, e⟩ | ⟨h1, e⟩ | ⟨h1, e⟩ <;> first | (rw [e]; decide) | (exfalso; simp only [Int64.lt_iff_toInt_lt, ← Int64.toInt_inj] at h h1; omega)
theorem own_lcgeN {a b : Int64} (h : a < b) : ifCond.holds .ge (lcmpW a b) = false := by
  rcases own_lc3 a b with ⟨h1, e⟩ | ⟨h1, e⟩ | ⟨h1, e⟩ <;> first | (rw [e]; decide) | (exfalso; simp only [Int64.lt_iff_toInt_lt, ← Int64.toInt_inj] at h h1; omega)
theorem own_lcgtY {a b : Int64} (h : b < a) : ifCond.holds .gt (lcmpW a b) = true := by
  rcases own_lc3 a b with ⟨h1, e⟩ | ⟨h1, e⟩ | ⟨h1, e⟩ <;> first | (rw [e]; decide) | (exfalso; simp only [Int64.lt_iff_toInt_lt, ← Int64.toInt_inj] at h h1; omega)
theorem own_lcgtN {a b : Int64} (h : ¬ (b < a)) : ifCond.holds .gt (lcmpW a b) = false := by
  rcases own_lc3 a b with ⟨h1, e⟩ | ⟨h1, e⟩ | ⟨h1, e⟩ <;> first | (rw [e]; decide) | (exfalso; simp only [Int64.lt_iff_toInt_lt, ← Int64.toInt_inj] at h h1; omega)
theorem own_lcleY {a b : Int64} (h : ¬ (b < a)) : ifCond.holds .le (lcmpW a b) = true := by
  rcases own_lc3 a b with ⟨h1, e⟩ | ⟨h1, e⟩ | ⟨h1, e⟩ <;> first | (rw [e]; decide) | (exfalso; simp only [Int64.lt_iff_toInt_lt, ← Int64.toInt_inj] at h h1; omega)
theorem own_lcleN {a b : Int64} (h : b < a) : ifCond.holds .le (lcmpW a b) = false := by
  rcases own_lc3 a b with ⟨h1, e⟩ | ⟨h1, e⟩ | ⟨h1, e⟩ <;> first | (rw [e]; decide) | (exfalso; simp only [Int64.lt_iff_toInt_lt, ← Int64.toInt_inj] at h h1; omega)
theorem own_lceqY {a b : Int64} (h : a = b) : ifCond.holds .eq (lcmpW a b) = true := by
  rcases own_lc3 a b with ⟨h1, e⟩ | ⟨h1, e⟩ | ⟨h1, e⟩ <;> first | (rw [e]; decide) | (exfalso; simp only [Int64.lt_iff_toInt_lt, ← Int64.toInt_inj] at h h1; omega)
theorem own_lceqN {a b : Int64} (h : ¬ (a = b)) : ifCond.holds .eq (lcmpW a b) = false := by
  rcases own_lc3 a b with ⟨h1, e⟩ | ⟨h1, e⟩ | ⟨h1, e⟩ <;> first | (rw [e]; decide) | (exfalso; simp only [Int64.lt_iff_toInt_lt, ← Int64.toInt_inj] at h h1; omega)
theorem own_lcneY {a b : Int64} (h : ¬ (a = b)) : ifCond.holds .ne (lcmpW a b) = true := by
  rcases own_lc3 a b with ⟨h1, e⟩ | ⟨h1, e⟩ | ⟨h1, e⟩ <;> first | (rw [e]; decide) | (exfalso; simp only [Int64.lt_iff_toInt_lt, ← Int64.toInt_inj] at h h1; omega)
theorem own_lcneN {a b : Int64} (h : a = b) : ifCond.holds .ne (lcmpW a b) = false := by
  rcases own_lc3 a b with ⟨h1, e⟩ | ⟨h1, e⟩ | ⟨h1, e⟩ <;> first | (rw [e]; decide) | (exfalso; simp only [Int64.lt_iff_toInt_lt, ← Int64.toInt_inj] at h h1; omega)
end OwnLayer
theorem own_get {c : Cell} {vs : List Value} {d : Value} {z j : Int32} (S : c.slots.size = z.toNatClampNeg) (H : Has c vs d) (q : ¬ (j < 0 ∨ c.slots.size ≤ j.toNatClampNeg)) (i : Nat) (hj : j.toNatClampNeg = i) : c.slots[j.toNatClampNeg]? = some (vs.getD i d) := by
  subst hj
  exact H _ (Nat.lt_of_not_le fun r => q (Or.inr r))
theorem own_mod (x : Int32) {n : Int32} (hn : 0 < n.toInt) : 0 ≤ ((x &&& (2147483647 : Int32)) % n).toInt ∧ ((x &&& (2147483647 : Int32)) % n).toInt < n.toInt := by
  have h := (Jvm.Kit.i32_and_bounds x (m := (2147483647 : Int32)) (by decide)).1
  have h0 : 0 ≤ (x &&& (2147483647 : Int32)).toInt := Jvm.Kit.i32_nonneg.mp h
  rw [Int32.toInt_mod]
  exact ⟨Int.tmod_nonneg _ h0, Int.tmod_lt_of_pos _ hn⟩
theorem own_mod19 (x : Int32) : (x &&& (2147483647 : Int32)) % (19 : Int32) = (0 : Int32) ∨ (x &&& (2147483647 : Int32)) % (19 : Int32) = (1 : Int32) ∨ (x &&& (2147483647 : Int32)) % (19 : Int32) = (2 : Int32) ∨ (x &&& (2147483647 : Int32)) % (19 : Int32) = (3 : Int32) ∨ (x &&& (2147483647 : Int32)) % (19 : Int32) = (4 : Int32) ∨ (x &&& (2147483647 : Int32)) % (19 : Int32) = (5 : Int32) ∨ (x &&& (2147483647 : Int32)) % (19 : Int32) = (6 : Int32) ∨ (x &&& (2147483647 : Int32)) % (19 : Int32) = (7 : Int32) ∨ (x &&& (2147483647 : Int32)) % (19 : Int32) = (8 : Int32) ∨ (x &&& (2147483647 : Int32)) % (19 : Int32) = (9 : Int32) ∨ (x &&& (2147483647 : Int32)) % (19 : Int32) = (10 : Int32) ∨ (x &&& (2147483647 : Int32)) % (19 : Int32) = (11 : Int32) ∨ (x &&& (2147483647 : Int32)) % (19 : Int32) = (12 : Int32) ∨ (x &&& (2147483647 : Int32)) % (19 : Int32) = (13 : Int32) ∨ (x &&& (2147483647 : Int32)) % (19 : Int32) = (14 : Int32) ∨ (x &&& (2147483647 : Int32)) % (19 : Int32) = (15 : Int32) ∨ (x &&& (2147483647 : Int32)) % (19 : Int32) = (16 : Int32) ∨ (x &&& (2147483647 : Int32)) % (19 : Int32) = (17 : Int32) ∨ (x &&& (2147483647 : Int32)) % (19 : Int32) = (18 : Int32) := by
  have h := own_mod x (n := (19 : Int32)) (by decide)
  generalize (x &&& (2147483647 : Int32)) % (19 : Int32) = y at h ⊢
  have e : (19 : Int32).toInt = 19 := rfl
  rw [e] at h
  simp only [← Int32.toInt_inj]
  show y.toInt = 0 ∨ y.toInt = 1 ∨ y.toInt = 2 ∨ y.toInt = 3 ∨ y.toInt = 4 ∨ y.toInt = 5 ∨ y.toInt = 6 ∨ y.toInt = 7 ∨ y.toInt = 8 ∨ y.toInt = 9 ∨ y.toInt = 10 ∨ y.toInt = 11 ∨ y.toInt = 12 ∨ y.toInt = 13 ∨ y.toInt = 14 ∨ y.toInt = 15 ∨ y.toInt = 16 ∨ y.toInt = 17 ∨ y.toInt = 18
  omega
def w0_NAME (Z : State) : Addr := own_t Z (Jvm.Term.static "com/example/proviso/proviso/expression/Lexer$Kind" "NAME" "Lcom/example/proviso/proviso/expression/Lexer$Kind;")
theorem ev_w0_NAME {Z : State} {a0 : Array Value} (hw : ∀ d ∈ tables_1, d.before a0 Z = true) (hA : ∀ d ∈ own_flat narrow_1, d.value a0 Z none Z [] = some true) (hS : ∀ d ∈ jdkStatics_1, d.before a0 Z = true) (hF : Fit Z) : (Jvm.Term.static "com/example/proviso/proviso/expression/Lexer$Kind" "NAME" "Lcom/example/proviso/proviso/expression/Lexer$Kind;").eval a0 Z none [] Z = some (.ref (w0_NAME Z)) := own_ev (hA _ (List.mem_of_getElem? (i := 0) rfl)) rfl
def w1_STRING (Z : State) : Addr := own_t Z (Jvm.Term.static "com/example/proviso/proviso/expression/Lexer$Kind" "STRING" "Lcom/example/proviso/proviso/expression/Lexer$Kind;")
theorem ev_w1_STRING {Z : State} {a0 : Array Value} (hw : ∀ d ∈ tables_1, d.before a0 Z = true) (hA : ∀ d ∈ own_flat narrow_1, d.value a0 Z none Z [] = some true) (hS : ∀ d ∈ jdkStatics_1, d.before a0 Z = true) (hF : Fit Z) : (Jvm.Term.static "com/example/proviso/proviso/expression/Lexer$Kind" "STRING" "Lcom/example/proviso/proviso/expression/Lexer$Kind;").eval a0 Z none [] Z = some (.ref (w1_STRING Z)) := own_ev (hA _ (List.mem_of_getElem? (i := 1) rfl)) rfl
def w2_INTEGER (Z : State) : Addr := own_t Z (Jvm.Term.static "com/example/proviso/proviso/expression/Lexer$Kind" "INTEGER" "Lcom/example/proviso/proviso/expression/Lexer$Kind;")
theorem ev_w2_INTEGER {Z : State} {a0 : Array Value} (hw : ∀ d ∈ tables_1, d.before a0 Z = true) (hA : ∀ d ∈ own_flat narrow_1, d.value a0 Z none Z [] = some true) (hS : ∀ d ∈ jdkStatics_1, d.before a0 Z = true) (hF : Fit Z) : (Jvm.Term.static "com/example/proviso/proviso/expression/Lexer$Kind" "INTEGER" "Lcom/example/proviso/proviso/expression/Lexer$Kind;").eval a0 Z none [] Z = some (.ref (w2_INTEGER Z)) := own_ev (hA _ (List.mem_of_getElem? (i := 2) rfl)) rfl
def w3_END (Z : State) : Addr := own_t Z (Jvm.Term.static "com/example/proviso/proviso/expression/Lexer$Kind" "END" "Lcom/example/proviso/proviso/expression/Lexer$Kind;")
theorem ev_w3_END {Z : State} {a0 : Array Value} (hw : ∀ d ∈ tables_1, d.before a0 Z = true) (hA : ∀ d ∈ own_flat narrow_1, d.value a0 Z none Z [] = some true) (hS : ∀ d ∈ jdkStatics_1, d.before a0 Z = true) (hF : Fit Z) : (Jvm.Term.static "com/example/proviso/proviso/expression/Lexer$Kind" "END" "Lcom/example/proviso/proviso/expression/Lexer$Kind;").eval a0 Z none [] Z = some (.ref (w3_END Z)) := own_ev (hA _ (List.mem_of_getElem? (i := 3) rfl)) rfl
def w4_NOT (Z : State) : Addr := own_t Z (Jvm.Term.static "com/example/proviso/proviso/expression/Lexer$Kind" "NOT" "Lcom/example/proviso/proviso/expression/Lexer$Kind;")
theorem ev_w4_NOT {Z : State} {a0 : Array Value} (hw : ∀ d ∈ tables_1, d.before a0 Z = true) (hA : ∀ d ∈ own_flat narrow_1, d.value a0 Z none Z [] = some true) (hS : ∀ d ∈ jdkStatics_1, d.before a0 Z = true) (hF : Fit Z) : (Jvm.Term.static "com/example/proviso/proviso/expression/Lexer$Kind" "NOT" "Lcom/example/proviso/proviso/expression/Lexer$Kind;").eval a0 Z none [] Z = some (.ref (w4_NOT Z)) := own_ev (hA _ (List.mem_of_getElem? (i := 4) rfl)) rfl
def w5_AND (Z : State) : Addr := own_t Z (Jvm.Term.static "com/example/proviso/proviso/expression/Lexer$Kind" "AND" "Lcom/example/proviso/proviso/expression/Lexer$Kind;")
theorem ev_w5_AND {Z : State} {a0 : Array Value} (hw : ∀ d ∈ tables_1, d.before a0 Z = true) (hA : ∀ d ∈ own_flat narrow_1, d.value a0 Z none Z [] = some true) (hS : ∀ d ∈ jdkStatics_1, d.before a0 Z = true) (hF : Fit Z) : (Jvm.Term.static "com/example/proviso/proviso/expression/Lexer$Kind" "AND" "Lcom/example/proviso/proviso/expression/Lexer$Kind;").eval a0 Z none [] Z = some (.ref (w5_AND Z)) := own_ev (hA _ (List.mem_of_getElem? (i := 5) rfl)) rfl
def w6_OR (Z : State) : Addr := own_t Z (Jvm.Term.static "com/example/proviso/proviso/expression/Lexer$Kind" "OR" "Lcom/example/proviso/proviso/expression/Lexer$Kind;")
theorem ev_w6_OR {Z : State} {a0 : Array Value} (hw : ∀ d ∈ tables_1, d.before a0 Z = true) (hA : ∀ d ∈ own_flat narrow_1, d.value a0 Z none Z [] = some true) (hS : ∀ d ∈ jdkStatics_1, d.before a0 Z = true) (hF : Fit Z) : (Jvm.Term.static "com/example/proviso/proviso/expression/Lexer$Kind" "OR" "Lcom/example/proviso/proviso/expression/Lexer$Kind;").eval a0 Z none [] Z = some (.ref (w6_OR Z)) := own_ev (hA _ (List.mem_of_getElem? (i := 6) rfl)) rfl
def w7_TRUE (Z : State) : Addr := own_t Z (Jvm.Term.static "com/example/proviso/proviso/expression/Lexer$Kind" "TRUE" "Lcom/example/proviso/proviso/expression/Lexer$Kind;")
theorem ev_w7_TRUE {Z : State} {a0 : Array Value} (hw : ∀ d ∈ tables_1, d.before a0 Z = true) (hA : ∀ d ∈ own_flat narrow_1, d.value a0 Z none Z [] = some true) (hS : ∀ d ∈ jdkStatics_1, d.before a0 Z = true) (hF : Fit Z) : (Jvm.Term.static "com/example/proviso/proviso/expression/Lexer$Kind" "TRUE" "Lcom/example/proviso/proviso/expression/Lexer$Kind;").eval a0 Z none [] Z = some (.ref (w7_TRUE Z)) := own_ev (hA _ (List.mem_of_getElem? (i := 7) rfl)) rfl
def w8_FALSE (Z : State) : Addr := own_t Z (Jvm.Term.static "com/example/proviso/proviso/expression/Lexer$Kind" "FALSE" "Lcom/example/proviso/proviso/expression/Lexer$Kind;")
theorem ev_w8_FALSE {Z : State} {a0 : Array Value} (hw : ∀ d ∈ tables_1, d.before a0 Z = true) (hA : ∀ d ∈ own_flat narrow_1, d.value a0 Z none Z [] = some true) (hS : ∀ d ∈ jdkStatics_1, d.before a0 Z = true) (hF : Fit Z) : (Jvm.Term.static "com/example/proviso/proviso/expression/Lexer$Kind" "FALSE" "Lcom/example/proviso/proviso/expression/Lexer$Kind;").eval a0 Z none [] Z = some (.ref (w8_FALSE Z)) := own_ev (hA _ (List.mem_of_getElem? (i := 8) rfl)) rfl
def w9_EQUAL (Z : State) : Addr := own_t Z (Jvm.Term.static "com/example/proviso/proviso/expression/Lexer$Kind" "EQUAL" "Lcom/example/proviso/proviso/expression/Lexer$Kind;")
theorem ev_w9_EQUAL {Z : State} {a0 : Array Value} (hw : ∀ d ∈ tables_1, d.before a0 Z = true) (hA : ∀ d ∈ own_flat narrow_1, d.value a0 Z none Z [] = some true) (hS : ∀ d ∈ jdkStatics_1, d.before a0 Z = true) (hF : Fit Z) : (Jvm.Term.static "com/example/proviso/proviso/expression/Lexer$Kind" "EQUAL" "Lcom/example/proviso/proviso/expression/Lexer$Kind;").eval a0 Z none [] Z = some (.ref (w9_EQUAL Z)) := own_ev (hA _ (List.mem_of_getElem? (i := 9) rfl)) rfl
def w10_NOT_EQUAL (Z : State) : Addr := own_t Z (Jvm.Term.static "com/example/proviso/proviso/expression/Lexer$Kind" "NOT_EQUAL" "Lcom/example/proviso/proviso/expression/Lexer$Kind;")
theorem ev_w10_NOT_EQUAL {Z : State} {a0 : Array Value} (hw : ∀ d ∈ tables_1, d.before a0 Z = true) (hA : ∀ d ∈ own_flat narrow_1, d.value a0 Z none Z [] = some true) (hS : ∀ d ∈ jdkStatics_1, d.before a0 Z = true) (hF : Fit Z) : (Jvm.Term.static "com/example/proviso/proviso/expression/Lexer$Kind" "NOT_EQUAL" "Lcom/example/proviso/proviso/expression/Lexer$Kind;").eval a0 Z none [] Z = some (.ref (w10_NOT_EQUAL Z)) := own_ev (hA _ (List.mem_of_getElem? (i := 10) rfl)) rfl
def w11_MATCH (Z : State) : Addr := own_t Z (Jvm.Term.static "com/example/proviso/proviso/expression/Lexer$Kind" "MATCH" "Lcom/example/proviso/proviso/expression/Lexer$Kind;")
theorem ev_w11_MATCH {Z : State} {a0 : Array Value} (hw : ∀ d ∈ tables_1, d.before a0 Z = true) (hA : ∀ d ∈ own_flat narrow_1, d.value a0 Z none Z [] = some true) (hS : ∀ d ∈ jdkStatics_1, d.before a0 Z = true) (hF : Fit Z) : (Jvm.Term.static "com/example/proviso/proviso/expression/Lexer$Kind" "MATCH" "Lcom/example/proviso/proviso/expression/Lexer$Kind;").eval a0 Z none [] Z = some (.ref (w11_MATCH Z)) := own_ev (hA _ (List.mem_of_getElem? (i := 11) rfl)) rfl
def w12_LESS_EQUAL (Z : State) : Addr := own_t Z (Jvm.Term.static "com/example/proviso/proviso/expression/Lexer$Kind" "LESS_EQUAL" "Lcom/example/proviso/proviso/expression/Lexer$Kind;")
theorem ev_w12_LESS_EQUAL {Z : State} {a0 : Array Value} (hw : ∀ d ∈ tables_1, d.before a0 Z = true) (hA : ∀ d ∈ own_flat narrow_1, d.value a0 Z none Z [] = some true) (hS : ∀ d ∈ jdkStatics_1, d.before a0 Z = true) (hF : Fit Z) : (Jvm.Term.static "com/example/proviso/proviso/expression/Lexer$Kind" "LESS_EQUAL" "Lcom/example/proviso/proviso/expression/Lexer$Kind;").eval a0 Z none [] Z = some (.ref (w12_LESS_EQUAL Z)) := own_ev (hA _ (List.mem_of_getElem? (i := 12) rfl)) rfl
def w13_LESS (Z : State) : Addr := own_t Z (Jvm.Term.static "com/example/proviso/proviso/expression/Lexer$Kind" "LESS" "Lcom/example/proviso/proviso/expression/Lexer$Kind;")
theorem ev_w13_LESS {Z : State} {a0 : Array Value} (hw : ∀ d ∈ tables_1, d.before a0 Z = true) (hA : ∀ d ∈ own_flat narrow_1, d.value a0 Z none Z [] = some true) (hS : ∀ d ∈ jdkStatics_1, d.before a0 Z = true) (hF : Fit Z) : (Jvm.Term.static "com/example/proviso/proviso/expression/Lexer$Kind" "LESS" "Lcom/example/proviso/proviso/expression/Lexer$Kind;").eval a0 Z none [] Z = some (.ref (w13_LESS Z)) := own_ev (hA _ (List.mem_of_getElem? (i := 13) rfl)) rfl
def w14_GREATER_EQUAL (Z : State) : Addr := own_t Z (Jvm.Term.static "com/example/proviso/proviso/expression/Lexer$Kind" "GREATER_EQUAL" "Lcom/example/proviso/proviso/expression/Lexer$Kind;")
theorem ev_w14_GREATER_EQUAL {Z : State} {a0 : Array Value} (hw : ∀ d ∈ tables_1, d.before a0 Z = true) (hA : ∀ d ∈ own_flat narrow_1, d.value a0 Z none Z [] = some true) (hS : ∀ d ∈ jdkStatics_1, d.before a0 Z = true) (hF : Fit Z) : (Jvm.Term.static "com/example/proviso/proviso/expression/Lexer$Kind" "GREATER_EQUAL" "Lcom/example/proviso/proviso/expression/Lexer$Kind;").eval a0 Z none [] Z = some (.ref (w14_GREATER_EQUAL Z)) := own_ev (hA _ (List.mem_of_getElem? (i := 14) rfl)) rfl
def w15_GREATER (Z : State) : Addr := own_t Z (Jvm.Term.static "com/example/proviso/proviso/expression/Lexer$Kind" "GREATER" "Lcom/example/proviso/proviso/expression/Lexer$Kind;")
theorem ev_w15_GREATER {Z : State} {a0 : Array Value} (hw : ∀ d ∈ tables_1, d.before a0 Z = true) (hA : ∀ d ∈ own_flat narrow_1, d.value a0 Z none Z [] = some true) (hS : ∀ d ∈ jdkStatics_1, d.before a0 Z = true) (hF : Fit Z) : (Jvm.Term.static "com/example/proviso/proviso/expression/Lexer$Kind" "GREATER" "Lcom/example/proviso/proviso/expression/Lexer$Kind;").eval a0 Z none [] Z = some (.ref (w15_GREATER Z)) := own_ev (hA _ (List.mem_of_getElem? (i := 15) rfl)) rfl
def w16_LEFT_PAREN (Z : State) : Addr := own_t Z (Jvm.Term.static "com/example/proviso/proviso/expression/Lexer$Kind" "LEFT_PAREN" "Lcom/example/proviso/proviso/expression/Lexer$Kind;")
theorem ev_w16_LEFT_PAREN {Z : State} {a0 : Array Value} (hw : ∀ d ∈ tables_1, d.before a0 Z = true) (hA : ∀ d ∈ own_flat narrow_1, d.value a0 Z none Z [] = some true) (hS : ∀ d ∈ jdkStatics_1, d.before a0 Z = true) (hF : Fit Z) : (Jvm.Term.static "com/example/proviso/proviso/expression/Lexer$Kind" "LEFT_PAREN" "Lcom/example/proviso/proviso/expression/Lexer$Kind;").eval a0 Z none [] Z = some (.ref (w16_LEFT_PAREN Z)) := own_ev (hA _ (List.mem_of_getElem? (i := 16) rfl)) rfl
def w17_RIGHT_PAREN (Z : State) : Addr := own_t Z (Jvm.Term.static "com/example/proviso/proviso/expression/Lexer$Kind" "RIGHT_PAREN" "Lcom/example/proviso/proviso/expression/Lexer$Kind;")
theorem ev_w17_RIGHT_PAREN {Z : State} {a0 : Array Value} (hw : ∀ d ∈ tables_1, d.before a0 Z = true) (hA : ∀ d ∈ own_flat narrow_1, d.value a0 Z none Z [] = some true) (hS : ∀ d ∈ jdkStatics_1, d.before a0 Z = true) (hF : Fit Z) : (Jvm.Term.static "com/example/proviso/proviso/expression/Lexer$Kind" "RIGHT_PAREN" "Lcom/example/proviso/proviso/expression/Lexer$Kind;").eval a0 Z none [] Z = some (.ref (w17_RIGHT_PAREN Z)) := own_ev (hA _ (List.mem_of_getElem? (i := 17) rfl)) rfl
def w18_COMMA (Z : State) : Addr := own_t Z (Jvm.Term.static "com/example/proviso/proviso/expression/Lexer$Kind" "COMMA" "Lcom/example/proviso/proviso/expression/Lexer$Kind;")
theorem ev_w18_COMMA {Z : State} {a0 : Array Value} (hw : ∀ d ∈ tables_1, d.before a0 Z = true) (hA : ∀ d ∈ own_flat narrow_1, d.value a0 Z none Z [] = some true) (hS : ∀ d ∈ jdkStatics_1, d.before a0 Z = true) (hF : Fit Z) : (Jvm.Term.static "com/example/proviso/proviso/expression/Lexer$Kind" "COMMA" "Lcom/example/proviso/proviso/expression/Lexer$Kind;").eval a0 Z none [] Z = some (.ref (w18_COMMA Z)) := own_ev (hA _ (List.mem_of_getElem? (i := 18) rfl)) rfl
def w19__VALUES (Z : State) : Addr := own_t Z (Jvm.Term.static "com/example/proviso/proviso/expression/ComparisonOperator" "$VALUES" "[Lcom/example/proviso/proviso/expression/ComparisonOperator;")
theorem ev_w19__VALUES {Z : State} {a0 : Array Value} (hw : ∀ d ∈ tables_1, d.before a0 Z = true) (hA : ∀ d ∈ own_flat narrow_1, d.value a0 Z none Z [] = some true) (hS : ∀ d ∈ jdkStatics_1, d.before a0 Z = true) (hF : Fit Z) : (Jvm.Term.static "com/example/proviso/proviso/expression/ComparisonOperator" "$VALUES" "[Lcom/example/proviso/proviso/expression/ComparisonOperator;").eval a0 Z none [] Z = some (.ref (w19__VALUES Z)) := own_evA (hA _ (List.mem_of_getElem? (i := 19) rfl)) rfl
def w20_EQUAL (Z : State) : Addr := own_t Z (Jvm.Term.static "com/example/proviso/proviso/expression/ComparisonOperator" "EQUAL" "Lcom/example/proviso/proviso/expression/ComparisonOperator;")
theorem ev_w20_EQUAL {Z : State} {a0 : Array Value} (hw : ∀ d ∈ tables_1, d.before a0 Z = true) (hA : ∀ d ∈ own_flat narrow_1, d.value a0 Z none Z [] = some true) (hS : ∀ d ∈ jdkStatics_1, d.before a0 Z = true) (hF : Fit Z) : (Jvm.Term.static "com/example/proviso/proviso/expression/ComparisonOperator" "EQUAL" "Lcom/example/proviso/proviso/expression/ComparisonOperator;").eval a0 Z none [] Z = some (.ref (w20_EQUAL Z)) := own_ev (hA _ (List.mem_of_getElem? (i := 22) rfl)) rfl
def w21_NOT_EQUAL (Z : State) : Addr := own_t Z (Jvm.Term.static "com/example/proviso/proviso/expression/ComparisonOperator" "NOT_EQUAL" "Lcom/example/proviso/proviso/expression/ComparisonOperator;")
theorem ev_w21_NOT_EQUAL {Z : State} {a0 : Array Value} (hw : ∀ d ∈ tables_1, d.before a0 Z = true) (hA : ∀ d ∈ own_flat narrow_1, d.value a0 Z none Z [] = some true) (hS : ∀ d ∈ jdkStatics_1, d.before a0 Z = true) (hF : Fit Z) : (Jvm.Term.static "com/example/proviso/proviso/expression/ComparisonOperator" "NOT_EQUAL" "Lcom/example/proviso/proviso/expression/ComparisonOperator;").eval a0 Z none [] Z = some (.ref (w21_NOT_EQUAL Z)) := own_ev (hA _ (List.mem_of_getElem? (i := 24) rfl)) rfl
def w22_MATCH (Z : State) : Addr := own_t Z (Jvm.Term.static "com/example/proviso/proviso/expression/ComparisonOperator" "MATCH" "Lcom/example/proviso/proviso/expression/ComparisonOperator;")
theorem ev_w22_MATCH {Z : State} {a0 : Array Value} (hw : ∀ d ∈ tables_1, d.before a0 Z = true) (hA : ∀ d ∈ own_flat narrow_1, d.value a0 Z none Z [] = some true) (hS : ∀ d ∈ jdkStatics_1, d.before a0 Z = true) (hF : Fit Z) : (Jvm.Term.static "com/example/proviso/proviso/expression/ComparisonOperator" "MATCH" "Lcom/example/proviso/proviso/expression/ComparisonOperator;").eval a0 Z none [] Z = some (.ref (w22_MATCH Z)) := own_ev (hA _ (List.mem_of_getElem? (i := 26) rfl)) rfl
def w23_LESS (Z : State) : Addr := own_t Z (Jvm.Term.static "com/example/proviso/proviso/expression/ComparisonOperator" "LESS" "Lcom/example/proviso/proviso/expression/ComparisonOperator;")
theorem ev_w23_LESS {Z : State} {a0 : Array Value} (hw : ∀ d ∈ tables_1, d.before a0 Z = true) (hA : ∀ d ∈ own_flat narrow_1, d.value a0 Z none Z [] = some true) (hS : ∀ d ∈ jdkStatics_1, d.before a0 Z = true) (hF : Fit Z) : (Jvm.Term.static "com/example/proviso/proviso/expression/ComparisonOperator" "LESS" "Lcom/example/proviso/proviso/expression/ComparisonOperator;").eval a0 Z none [] Z = some (.ref (w23_LESS Z)) := own_ev (hA _ (List.mem_of_getElem? (i := 28) rfl)) rfl
def w24_LESS_EQUAL (Z : State) : Addr := own_t Z (Jvm.Term.static "com/example/proviso/proviso/expression/ComparisonOperator" "LESS_EQUAL" "Lcom/example/proviso/proviso/expression/ComparisonOperator;")
theorem ev_w24_LESS_EQUAL {Z : State} {a0 : Array Value} (hw : ∀ d ∈ tables_1, d.before a0 Z = true) (hA : ∀ d ∈ own_flat narrow_1, d.value a0 Z none Z [] = some true) (hS : ∀ d ∈ jdkStatics_1, d.before a0 Z = true) (hF : Fit Z) : (Jvm.Term.static "com/example/proviso/proviso/expression/ComparisonOperator" "LESS_EQUAL" "Lcom/example/proviso/proviso/expression/ComparisonOperator;").eval a0 Z none [] Z = some (.ref (w24_LESS_EQUAL Z)) := own_ev (hA _ (List.mem_of_getElem? (i := 30) rfl)) rfl
def w25_GREATER (Z : State) : Addr := own_t Z (Jvm.Term.static "com/example/proviso/proviso/expression/ComparisonOperator" "GREATER" "Lcom/example/proviso/proviso/expression/ComparisonOperator;")
theorem ev_w25_GREATER {Z : State} {a0 : Array Value} (hw : ∀ d ∈ tables_1, d.before a0 Z = true) (hA : ∀ d ∈ own_flat narrow_1, d.value a0 Z none Z [] = some true) (hS : ∀ d ∈ jdkStatics_1, d.before a0 Z = true) (hF : Fit Z) : (Jvm.Term.static "com/example/proviso/proviso/expression/ComparisonOperator" "GREATER" "Lcom/example/proviso/proviso/expression/ComparisonOperator;").eval a0 Z none [] Z = some (.ref (w25_GREATER Z)) := own_ev (hA _ (List.mem_of_getElem? (i := 32) rfl)) rfl
def w26_GREATER_EQUAL (Z : State) : Addr := own_t Z (Jvm.Term.static "com/example/proviso/proviso/expression/ComparisonOperator" "GREATER_EQUAL" "Lcom/example/proviso/proviso/expression/ComparisonOperator;")
theorem ev_w26_GREATER_EQUAL {Z : State} {a0 : Array Value} (hw : ∀ d ∈ tables_1, d.before a0 Z = true) (hA : ∀ d ∈ own_flat narrow_1, d.value a0 Z none Z [] = some true) (hS : ∀ d ∈ jdkStatics_1, d.before a0 Z = true) (hF : Fit Z) : (Jvm.Term.static "com/example/proviso/proviso/expression/ComparisonOperator" "GREATER_EQUAL" "Lcom/example/proviso/proviso/expression/ComparisonOperator;").eval a0 Z none [] Z = some (.ref (w26_GREATER_EQUAL Z)) := own_ev (hA _ (List.mem_of_getElem? (i := 34) rfl)) rfl
def w27_EMPTY (Z : State) : Addr := own_t Z (Jvm.Term.static "java/util/Optional" "EMPTY" "Ljava/util/Optional;")
theorem ev_w27_EMPTY {Z : State} {a0 : Array Value} (hw : ∀ d ∈ tables_1, d.before a0 Z = true) (hA : ∀ d ∈ own_flat narrow_1, d.value a0 Z none Z [] = some true) (hS : ∀ d ∈ jdkStatics_1, d.before a0 Z = true) (hF : Fit Z) : (Jvm.Term.static "java/util/Optional" "EMPTY" "Ljava/util/Optional;").eval a0 Z none [] Z = some (.ref (w27_EMPTY Z)) := own_ev (Cond.before_iff.mp (hS _ (List.mem_of_getElem? (i := 2) rfl))) rfl
theorem ex_w0_NAME {Z : State} {a0 : Array Value} (hw : ∀ d ∈ tables_1, d.before a0 Z = true) (hA : ∀ d ∈ own_flat narrow_1, d.value a0 Z none Z [] = some true) (hS : ∀ d ∈ jdkStatics_1, d.before a0 Z = true) (hF : Fit Z) : Exa Z Z.heap (w0_NAME Z) "com/example/proviso/proviso/expression/Lexer$Kind" := Exa.start (ev_w0_NAME hw hA hS hF) (hA _ (List.mem_of_getElem? (i := 0) rfl))
theorem ex_w1_STRING {Z : State} {a0 : Array Value} (hw : ∀ d ∈ tables_1, d.before a0 Z = true) (hA : ∀ d ∈ own_flat narrow_1, d.value a0 Z none Z [] = some true) (hS : ∀ d ∈ jdkStatics_1, d.before a0 Z = true) (hF : Fit Z) : Exa Z Z.heap (w1_STRING Z) "com/example/proviso/proviso/expression/Lexer$Kind" := Exa.start (ev_w1_STRING hw hA hS hF) (hA _ (List.mem_of_getElem? (i := 1) rfl))
theorem ex_w2_INTEGER {Z : State} {a0 : Array Value} (hw : ∀ d ∈ tables_1, d.before a0 Z = true) (hA : ∀ d ∈ own_flat narrow_1, d.value a0 Z none Z [] = some true) (hS : ∀ d ∈ jdkStatics_1, d.before a0 Z = true) (hF : Fit Z) : Exa Z Z.heap (w2_INTEGER Z) "com/example/proviso/proviso/expression/Lexer$Kind" := Exa.start (ev_w2_INTEGER hw hA hS hF) (hA _ (List.mem_of_getElem? (i := 2) rfl))
theorem ex_w3_END {Z : State} {a0 : Array Value} (hw : ∀ d ∈ tables_1, d.before a0 Z = true) (hA : ∀ d ∈ own_flat narrow_1, d.value a0 Z none Z [] = some true) (hS : ∀ d ∈ jdkStatics_1, d.before a0 Z = true) (hF : Fit Z) : Exa Z Z.heap (w3_END Z) "com/example/proviso/proviso/expression/Lexer$Kind" := Exa.start (ev_w3_END hw hA hS hF) (hA _ (List.mem_of_getElem? (i := 3) rfl))
theorem ex_w4_NOT {Z : State} {a0 : Array Value} (hw : ∀ d ∈ tables_1, d.before a0 Z = true) (hA : ∀ d ∈ own_flat narrow_1, d.value a0 Z none Z [] = some true) (hS : ∀ d ∈ jdkStatics_1, d.before a0 Z = true) (hF : Fit Z) : Exa Z Z.heap (w4_NOT Z) "com/example/proviso/proviso/expression/Lexer$Kind" := Exa.start (ev_w4_NOT hw hA hS hF) (hA _ (List.mem_of_getElem? (i := 4) rfl))
theorem ex_w5_AND {Z : State} {a0 : Array Value} (hw : ∀ d ∈ tables_1, d.before a0 Z = true) (hA : ∀ d ∈ own_flat narrow_1, d.value a0 Z none Z [] = some true) (hS : ∀ d ∈ jdkStatics_1, d.before a0 Z = true) (hF : Fit Z) : Exa Z Z.heap (w5_AND Z) "com/example/proviso/proviso/expression/Lexer$Kind" := Exa.start (ev_w5_AND hw hA hS hF) (hA _ (List.mem_of_getElem? (i := 5) rfl))
theorem ex_w6_OR {Z : State} {a0 : Array Value} (hw : ∀ d ∈ tables_1, d.before a0 Z = true) (hA : ∀ d ∈ own_flat narrow_1, d.value a0 Z none Z [] = some true) (hS : ∀ d ∈ jdkStatics_1, d.before a0 Z = true) (hF : Fit Z) : Exa Z Z.heap (w6_OR Z) "com/example/proviso/proviso/expression/Lexer$Kind" := Exa.start (ev_w6_OR hw hA hS hF) (hA _ (List.mem_of_getElem? (i := 6) rfl))
theorem ex_w7_TRUE {Z : State} {a0 : Array Value} (hw : ∀ d ∈ tables_1, d.before a0 Z = true) (hA : ∀ d ∈ own_flat narrow_1, d.value a0 Z none Z [] = some true) (hS : ∀ d ∈ jdkStatics_1, d.before a0 Z = true) (hF : Fit Z) : Exa Z Z.heap (w7_TRUE Z) "com/example/proviso/proviso/expression/Lexer$Kind" := Exa.start (ev_w7_TRUE hw hA hS hF) (hA _ (List.mem_of_getElem? (i := 7) rfl))
theorem ex_w8_FALSE {Z : State} {a0 : Array Value} (hw : ∀ d ∈ tables_1, d.before a0 Z = true) (hA : ∀ d ∈ own_flat narrow_1, d.value a0 Z none Z [] = some true) (hS : ∀ d ∈ jdkStatics_1, d.before a0 Z = true) (hF : Fit Z) : Exa Z Z.heap (w8_FALSE Z) "com/example/proviso/proviso/expression/Lexer$Kind" := Exa.start (ev_w8_FALSE hw hA hS hF) (hA _ (List.mem_of_getElem? (i := 8) rfl))
theorem ex_w9_EQUAL {Z : State} {a0 : Array Value} (hw : ∀ d ∈ tables_1, d.before a0 Z = true) (hA : ∀ d ∈ own_flat narrow_1, d.value a0 Z none Z [] = some true) (hS : ∀ d ∈ jdkStatics_1, d.before a0 Z = true) (hF : Fit Z) : Exa Z Z.heap (w9_EQUAL Z) "com/example/proviso/proviso/expression/Lexer$Kind" := Exa.start (ev_w9_EQUAL hw hA hS hF) (hA _ (List.mem_of_getElem? (i := 9) rfl))
theorem ex_w10_NOT_EQUAL {Z : State} {a0 : Array Value} (hw : ∀ d ∈ tables_1, d.before a0 Z = true) (hA : ∀ d ∈ own_flat narrow_1, d.value a0 Z none Z [] = some true) (hS : ∀ d ∈ jdkStatics_1, d.before a0 Z = true) (hF : Fit Z) : Exa Z Z.heap (w10_NOT_EQUAL Z) "com/example/proviso/proviso/expression/Lexer$Kind" := Exa.start (ev_w10_NOT_EQUAL hw hA hS hF) (hA _ (List.mem_of_getElem? (i := 10) rfl))
theorem ex_w11_MATCH {Z : State} {a0 : Array Value} (hw : ∀ d ∈ tables_1, d.before a0 Z = true) (hA : ∀ d ∈ own_flat narrow_1, d.value a0 Z none Z [] = some true) (hS : ∀ d ∈ jdkStatics_1, d.before a0 Z = true) (hF : Fit Z) : Exa Z Z.heap (w11_MATCH Z) "com/example/proviso/proviso/expression/Lexer$Kind" := Exa.start (ev_w11_MATCH hw hA hS hF) (hA _ (List.mem_of_getElem? (i := 11) rfl))
theorem ex_w12_LESS_EQUAL {Z : State} {a0 : Array Value} (hw : ∀ d ∈ tables_1, d.before a0 Z = true) (hA : ∀ d ∈ own_flat narrow_1, d.value a0 Z none Z [] = some true) (hS : ∀ d ∈ jdkStatics_1, d.before a0 Z = true) (hF : Fit Z) : Exa Z Z.heap (w12_LESS_EQUAL Z) "com/example/proviso/proviso/expression/Lexer$Kind" := Exa.start (ev_w12_LESS_EQUAL hw hA hS hF) (hA _ (List.mem_of_getElem? (i := 12) rfl))
theorem ex_w13_LESS {Z : State} {a0 : Array Value} (hw : ∀ d ∈ tables_1, d.before a0 Z = true) (hA : ∀ d ∈ own_flat narrow_1, d.value a0 Z none Z [] = some true) (hS : ∀ d ∈ jdkStatics_1, d.before a0 Z = true) (hF : Fit Z) : Exa Z Z.heap (w13_LESS Z) "com/example/proviso/proviso/expression/Lexer$Kind" := Exa.start (ev_w13_LESS hw hA hS hF) (hA _ (List.mem_of_getElem? (i := 13) rfl))
theorem ex_w14_GREATER_EQUAL {Z : State} {a0 : Array Value} (hw : ∀ d ∈ tables_1, d.before a0 Z = true) (hA : ∀ d ∈ own_flat narrow_1, d.value a0 Z none Z [] = some true) (hS : ∀ d ∈ jdkStatics_1, d.before a0 Z = true) (hF : Fit Z) : Exa Z Z.heap (w14_GREATER_EQUAL Z) "com/example/proviso/proviso/expression/Lexer$Kind" := Exa.start (ev_w14_GREATER_EQUAL hw hA hS hF) (hA _ (List.mem_of_getElem? (i := 14) rfl))
theorem ex_w15_GREATER {Z : State} {a0 : Array Value} (hw : ∀ d ∈ tables_1, d.before a0 Z = true) (hA : ∀ d ∈ own_flat narrow_1, d.value a0 Z none Z [] = some true) (hS : ∀ d ∈ jdkStatics_1, d.before a0 Z = true) (hF : Fit Z) : Exa Z Z.heap (w15_GREATER Z) "com/example/proviso/proviso/expression/Lexer$Kind" := Exa.start (ev_w15_GREATER hw hA hS hF) (hA _ (List.mem_of_getElem? (i := 15) rfl))
theorem ex_w16_LEFT_PAREN {Z : State} {a0 : Array Value} (hw : ∀ d ∈ tables_1, d.before a0 Z = true) (hA : ∀ d ∈ own_flat narrow_1, d.value a0 Z none Z [] = some true) (hS : ∀ d ∈ jdkStatics_1, d.before a0 Z = true) (hF : Fit Z) : Exa Z Z.heap (w16_LEFT_PAREN Z) "com/example/proviso/proviso/expression/Lexer$Kind" := Exa.start (ev_w16_LEFT_PAREN hw hA hS hF) (hA _ (List.mem_of_getElem? (i := 16) rfl))
theorem ex_w17_RIGHT_PAREN {Z : State} {a0 : Array Value} (hw : ∀ d ∈ tables_1, d.before a0 Z = true) (hA : ∀ d ∈ own_flat narrow_1, d.value a0 Z none Z [] = some true) (hS : ∀ d ∈ jdkStatics_1, d.before a0 Z = true) (hF : Fit Z) : Exa Z Z.heap (w17_RIGHT_PAREN Z) "com/example/proviso/proviso/expression/Lexer$Kind" := Exa.start (ev_w17_RIGHT_PAREN hw hA hS hF) (hA _ (List.mem_of_getElem? (i := 17) rfl))
theorem ex_w18_COMMA {Z : State} {a0 : Array Value} (hw : ∀ d ∈ tables_1, d.before a0 Z = true) (hA : ∀ d ∈ own_flat narrow_1, d.value a0 Z none Z [] = some true) (hS : ∀ d ∈ jdkStatics_1, d.before a0 Z = true) (hF : Fit Z) : Exa Z Z.heap (w18_COMMA Z) "com/example/proviso/proviso/expression/Lexer$Kind" := Exa.start (ev_w18_COMMA hw hA hS hF) (hA _ (List.mem_of_getElem? (i := 18) rfl))
theorem ex_w19__VALUES {Z : State} {a0 : Array Value} (hw : ∀ d ∈ tables_1, d.before a0 Z = true) (hA : ∀ d ∈ own_flat narrow_1, d.value a0 Z none Z [] = some true) (hS : ∀ d ∈ jdkStatics_1, d.before a0 Z = true) (hF : Fit Z) : Exa Z Z.heap (w19__VALUES Z) "[Lcom/example/proviso/proviso/expression/ComparisonOperator;" := Exa.start (ev_w19__VALUES hw hA hS hF) (hA _ (List.mem_of_getElem? (i := 20) rfl))
theorem ex_w20_EQUAL {Z : State} {a0 : Array Value} (hw : ∀ d ∈ tables_1, d.before a0 Z = true) (hA : ∀ d ∈ own_flat narrow_1, d.value a0 Z none Z [] = some true) (hS : ∀ d ∈ jdkStatics_1, d.before a0 Z = true) (hF : Fit Z) : Exa Z Z.heap (w20_EQUAL Z) "com/example/proviso/proviso/expression/ComparisonOperator" := Exa.start (ev_w20_EQUAL hw hA hS hF) (hA _ (List.mem_of_getElem? (i := 22) rfl))
theorem ex_w21_NOT_EQUAL {Z : State} {a0 : Array Value} (hw : ∀ d ∈ tables_1, d.before a0 Z = true) (hA : ∀ d ∈ own_flat narrow_1, d.value a0 Z none Z [] = some true) (hS : ∀ d ∈ jdkStatics_1, d.before a0 Z = true) (hF : Fit Z) : Exa Z Z.heap (w21_NOT_EQUAL Z) "com/example/proviso/proviso/expression/ComparisonOperator" := Exa.start (ev_w21_NOT_EQUAL hw hA hS hF) (hA _ (List.mem_of_getElem? (i := 24) rfl))
theorem ex_w22_MATCH {Z : State} {a0 : Array Value} (hw : ∀ d ∈ tables_1, d.before a0 Z = true) (hA : ∀ d ∈ own_flat narrow_1, d.value a0 Z none Z [] = some true) (hS : ∀ d ∈ jdkStatics_1, d.before a0 Z = true) (hF : Fit Z) : Exa Z Z.heap (w22_MATCH Z) "com/example/proviso/proviso/expression/ComparisonOperator" := Exa.start (ev_w22_MATCH hw hA hS hF) (hA _ (List.mem_of_getElem? (i := 26) rfl))
theorem ex_w23_LESS {Z : State} {a0 : Array Value} (hw : ∀ d ∈ tables_1, d.before a0 Z = true) (hA : ∀ d ∈ own_flat narrow_1, d.value a0 Z none Z [] = some true) (hS : ∀ d ∈ jdkStatics_1, d.before a0 Z = true) (hF : Fit Z) : Exa Z Z.heap (w23_LESS Z) "com/example/proviso/proviso/expression/ComparisonOperator" := Exa.start (ev_w23_LESS hw hA hS hF) (hA _ (List.mem_of_getElem? (i := 28) rfl))
theorem ex_w24_LESS_EQUAL {Z : State} {a0 : Array Value} (hw : ∀ d ∈ tables_1, d.before a0 Z = true) (hA : ∀ d ∈ own_flat narrow_1, d.value a0 Z none Z [] = some true) (hS : ∀ d ∈ jdkStatics_1, d.before a0 Z = true) (hF : Fit Z) : Exa Z Z.heap (w24_LESS_EQUAL Z) "com/example/proviso/proviso/expression/ComparisonOperator" := Exa.start (ev_w24_LESS_EQUAL hw hA hS hF) (hA _ (List.mem_of_getElem? (i := 30) rfl))
theorem ex_w25_GREATER {Z : State} {a0 : Array Value} (hw : ∀ d ∈ tables_1, d.before a0 Z = true) (hA : ∀ d ∈ own_flat narrow_1, d.value a0 Z none Z [] = some true) (hS : ∀ d ∈ jdkStatics_1, d.before a0 Z = true) (hF : Fit Z) : Exa Z Z.heap (w25_GREATER Z) "com/example/proviso/proviso/expression/ComparisonOperator" := Exa.start (ev_w25_GREATER hw hA hS hF) (hA _ (List.mem_of_getElem? (i := 32) rfl))
theorem ex_w26_GREATER_EQUAL {Z : State} {a0 : Array Value} (hw : ∀ d ∈ tables_1, d.before a0 Z = true) (hA : ∀ d ∈ own_flat narrow_1, d.value a0 Z none Z [] = some true) (hS : ∀ d ∈ jdkStatics_1, d.before a0 Z = true) (hF : Fit Z) : Exa Z Z.heap (w26_GREATER_EQUAL Z) "com/example/proviso/proviso/expression/ComparisonOperator" := Exa.start (ev_w26_GREATER_EQUAL hw hA hS hF) (hA _ (List.mem_of_getElem? (i := 34) rfl))
theorem ex_w27_EMPTY {Z : State} {a0 : Array Value} (hw : ∀ d ∈ tables_1, d.before a0 Z = true) (hA : ∀ d ∈ own_flat narrow_1, d.value a0 Z none Z [] = some true) (hS : ∀ d ∈ jdkStatics_1, d.before a0 Z = true) (hF : Fit Z) : Exa Z Z.heap (w27_EMPTY Z) "java/util/Optional" := Exa.start (ev_w27_EMPTY hw hA hS hF) (Cond.before_iff.mp (hS _ (List.mem_of_getElem? (i := 2) rfl)))
theorem st_w0_NAME {Z : State} {a0 : Array Value} (hw : ∀ d ∈ tables_1, d.before a0 Z = true) (hA : ∀ d ∈ own_flat narrow_1, d.value a0 Z none Z [] = some true) (hS : ∀ d ∈ jdkStatics_1, d.before a0 Z = true) (hF : Fit Z) : Sta Z Z.heap "com/example/proviso/proviso/expression/Lexer$Kind" "NAME" "Lcom/example/proviso/proviso/expression/Lexer$Kind;" (.ref (w0_NAME Z)) := Sta.start (ev_w0_NAME hw hA hS hF) (Or.inr ⟨(hw _ (List.mem_of_getElem? (i := 3) rfl)), (hw _ (List.mem_of_getElem? (i := 4) rfl))⟩)
theorem st_w1_STRING {Z : State} {a0 : Array Value} (hw : ∀ d ∈ tables_1, d.before a0 Z = true) (hA : ∀ d ∈ own_flat narrow_1, d.value a0 Z none Z [] = some true) (hS : ∀ d ∈ jdkStatics_1, d.before a0 Z = true) (hF : Fit Z) : Sta Z Z.heap "com/example/proviso/proviso/expression/Lexer$Kind" "STRING" "Lcom/example/proviso/proviso/expression/Lexer$Kind;" (.ref (w1_STRING Z)) := Sta.start (ev_w1_STRING hw hA hS hF) (Or.inr ⟨(hw _ (List.mem_of_getElem? (i := 3) rfl)), (hw _ (List.mem_of_getElem? (i := 7) rfl))⟩)
theorem st_w2_INTEGER {Z : State} {a0 : Array Value} (hw : ∀ d ∈ tables_1, d.before a0 Z = true) (hA : ∀ d ∈ own_flat narrow_1, d.value a0 Z none Z [] = some true) (hS : ∀ d ∈ jdkStatics_1, d.before a0 Z = true) (hF : Fit Z) : Sta Z Z.heap "com/example/proviso/proviso/expression/Lexer$Kind" "INTEGER" "Lcom/example/proviso/proviso/expression/Lexer$Kind;" (.ref (w2_INTEGER Z)) := Sta.start (ev_w2_INTEGER hw hA hS hF) (Or.inr ⟨(hw _ (List.mem_of_getElem? (i := 3) rfl)), (hw _ (List.mem_of_getElem? (i := 9) rfl))⟩)
theorem st_w3_END {Z : State} {a0 : Array Value} (hw : ∀ d ∈ tables_1, d.before a0 Z = true) (hA : ∀ d ∈ own_flat narrow_1, d.value a0 Z none Z [] = some true) (hS : ∀ d ∈ jdkStatics_1, d.before a0 Z = true) (hF : Fit Z) : Sta Z Z.heap "com/example/proviso/proviso/expression/Lexer$Kind" "END" "Lcom/example/proviso/proviso/expression/Lexer$Kind;" (.ref (w3_END Z)) := Sta.start (ev_w3_END hw hA hS hF) (Or.inr ⟨(hw _ (List.mem_of_getElem? (i := 3) rfl)), (hw _ (List.mem_of_getElem? (i := 11) rfl))⟩)
theorem st_w4_NOT {Z : State} {a0 : Array Value} (hw : ∀ d ∈ tables_1, d.before a0 Z = true) (hA : ∀ d ∈ own_flat narrow_1, d.value a0 Z none Z [] = some true) (hS : ∀ d ∈ jdkStatics_1, d.before a0 Z = true) (hF : Fit Z) : Sta Z Z.heap "com/example/proviso/proviso/expression/Lexer$Kind" "NOT" "Lcom/example/proviso/proviso/expression/Lexer$Kind;" (.ref (w4_NOT Z)) := Sta.start (ev_w4_NOT hw hA hS hF) (Or.inr ⟨(hw _ (List.mem_of_getElem? (i := 3) rfl)), (hw _ (List.mem_of_getElem? (i := 13) rfl))⟩)
theorem st_w5_AND {Z : State} {a0 : Array Value} (hw : ∀ d ∈ tables_1, d.before a0 Z = true) (hA : ∀ d ∈ own_flat narrow_1, d.value a0 Z none Z [] = some true) (hS : ∀ d ∈ jdkStatics_1, d.before a0 Z = true) (hF : Fit Z) : Sta Z Z.heap "com/example/proviso/proviso/expression/Lexer$Kind" "AND" "Lcom/example/proviso/proviso/expression/Lexer$Kind;" (.ref (w5_AND Z)) := Sta.start (ev_w5_AND hw hA hS hF) (Or.inr ⟨(hw _ (List.mem_of_getElem? (i := 3) rfl)), (hw _ (List.mem_of_getElem? (i := 15) rfl))⟩)
theorem st_w6_OR {Z : State} {a0 : Array Value} (hw : ∀ d ∈ tables_1, d.before a0 Z = true) (hA : ∀ d ∈ own_flat narrow_1, d.value a0 Z none Z [] = some true) (hS : ∀ d ∈ jdkStatics_1, d.before a0 Z = true) (hF : Fit Z) : Sta Z Z.heap "com/example/proviso/proviso/expression/Lexer$Kind" "OR" "Lcom/example/proviso/proviso/expression/Lexer$Kind;" (.ref (w6_OR Z)) := Sta.start (ev_w6_OR hw hA hS hF) (Or.inr ⟨(hw _ (List.mem_of_getElem? (i := 3) rfl)), (hw _ (List.mem_of_getElem? (i := 17) rfl))⟩)
theorem st_w7_TRUE {Z : State} {a0 : Array Value} (hw : ∀ d ∈ tables_1, d.before a0 Z = true) (hA : ∀ d ∈ own_flat narrow_1, d.value a0 Z none Z [] = some true) (hS : ∀ d ∈ jdkStatics_1, d.before a0 Z = true) (hF : Fit Z) : Sta Z Z.heap "com/example/proviso/proviso/expression/Lexer$Kind" "TRUE" "Lcom/example/proviso/proviso/expression/Lexer$Kind;" (.ref (w7_TRUE Z)) := Sta.start (ev_w7_TRUE hw hA hS hF) (Or.inr ⟨(hw _ (List.mem_of_getElem? (i := 3) rfl)), (hw _ (List.mem_of_getElem? (i := 19) rfl))⟩)
theorem st_w8_FALSE {Z : State} {a0 : Array Value} (hw : ∀ d ∈ tables_1, d.before a0 Z = true) (hA : ∀ d ∈ own_flat narrow_1, d.value a0 Z none Z [] = some true) (hS : ∀ d ∈ jdkStatics_1, d.before a0 Z = true) (hF : Fit Z) : Sta Z Z.heap "com/example/proviso/proviso/expression/Lexer$Kind" "FALSE" "Lcom/example/proviso/proviso/expression/Lexer$Kind;" (.ref (w8_FALSE Z)) := Sta.start (ev_w8_FALSE hw hA hS hF) (Or.inr ⟨(hw _ (List.mem_of_getElem? (i := 3) rfl)), (hw _ (List.mem_of_getElem? (i := 21) rfl))⟩)
theorem st_w9_EQUAL {Z : State} {a0 : Array Value} (hw : ∀ d ∈ tables_1, d.before a0 Z = true) (hA : ∀ d ∈ own_flat narrow_1, d.value a0 Z none Z [] = some true) (hS : ∀ d ∈ jdkStatics_1, d.before a0 Z = true) (hF : Fit Z) : Sta Z Z.heap "com/example/proviso/proviso/expression/Lexer$Kind" "EQUAL" "Lcom/example/proviso/proviso/expression/Lexer$Kind;" (.ref (w9_EQUAL Z)) := Sta.start (ev_w9_EQUAL hw hA hS hF) (Or.inr ⟨(hw _ (List.mem_of_getElem? (i := 3) rfl)), (hw _ (List.mem_of_getElem? (i := 23) rfl))⟩)
theorem st_w10_NOT_EQUAL {Z : State} {a0 : Array Value} (hw : ∀ d ∈ tables_1, d.before a0 Z = true) (hA : ∀ d ∈ own_flat narrow_1, d.value a0 Z none Z [] = some true) (hS : ∀ d ∈ jdkStatics_1, d.before a0 Z = true) (hF : Fit Z) : Sta Z Z.heap "com/example/proviso/proviso/expression/Lexer$Kind" "NOT_EQUAL" "Lcom/example/proviso/proviso/expression/Lexer$Kind;" (.ref (w10_NOT_EQUAL Z)) := Sta.start (ev_w10_NOT_EQUAL hw hA hS hF) (Or.inr ⟨(hw _ (List.mem_of_getElem? (i := 3) rfl)), (hw _ (List.mem_of_getElem? (i := 25) rfl))⟩)
theorem st_w11_MATCH {Z : State} {a0 : Array Value} (hw : ∀ d ∈ tables_1, d.before a0 Z = true) (hA : ∀ d ∈ own_flat narrow_1, d.value a0 Z none Z [] = some true) (hS : ∀ d ∈ jdkStatics_1, d.before a0 Z = true) (hF : Fit Z) : Sta Z Z.heap "com/example/proviso/proviso/expression/Lexer$Kind" "MATCH" "Lcom/example/proviso/proviso/expression/Lexer$Kind;" (.ref (w11_MATCH Z)) := Sta.start (ev_w11_MATCH hw hA hS hF) (Or.inr ⟨(hw _ (List.mem_of_getElem? (i := 3) rfl)), (hw _ (List.mem_of_getElem? (i := 27) rfl))⟩)
theorem st_w12_LESS_EQUAL {Z : State} {a0 : Array Value} (hw : ∀ d ∈ tables_1, d.before a0 Z = true) (hA : ∀ d ∈ own_flat narrow_1, d.value a0 Z none Z [] = some true) (hS : ∀ d ∈ jdkStatics_1, d.before a0 Z = true) (hF : Fit Z) : Sta Z Z.heap "com/example/proviso/proviso/expression/Lexer$Kind" "LESS_EQUAL" "Lcom/example/proviso/proviso/expression/Lexer$Kind;" (.ref (w12_LESS_EQUAL Z)) := Sta.start (ev_w12_LESS_EQUAL hw hA hS hF) (Or.inr ⟨(hw _ (List.mem_of_getElem? (i := 3) rfl)), (hw _ (List.mem_of_getElem? (i := 29) rfl))⟩)
theorem st_w13_LESS {Z : State} {a0 : Array Value} (hw : ∀ d ∈ tables_1, d.before a0 Z = true) (hA : ∀ d ∈ own_flat narrow_1, d.value a0 Z none Z [] = some true) (hS : ∀ d ∈ jdkStatics_1, d.before a0 Z = true) (hF : Fit Z) : Sta Z Z.heap "com/example/proviso/proviso/expression/Lexer$Kind" "LESS" "Lcom/example/proviso/proviso/expression/Lexer$Kind;" (.ref (w13_LESS Z)) := Sta.start (ev_w13_LESS hw hA hS hF) (Or.inr ⟨(hw _ (List.mem_of_getElem? (i := 3) rfl)), (hw _ (List.mem_of_getElem? (i := 31) rfl))⟩)
theorem st_w14_GREATER_EQUAL {Z : State} {a0 : Array Value} (hw : ∀ d ∈ tables_1, d.before a0 Z = true) (hA : ∀ d ∈ own_flat narrow_1, d.value a0 Z none Z [] = some true) (hS : ∀ d ∈ jdkStatics_1, d.before a0 Z = true) (hF : Fit Z) : Sta Z Z.heap "com/example/proviso/proviso/expression/Lexer$Kind" "GREATER_EQUAL" "Lcom/example/proviso/proviso/expression/Lexer$Kind;" (.ref (w14_GREATER_EQUAL Z)) := Sta.start (ev_w14_GREATER_EQUAL hw hA hS hF) (Or.inr ⟨(hw _ (List.mem_of_getElem? (i := 3) rfl)), (hw _ (List.mem_of_getElem? (i := 33) rfl))⟩)
theorem st_w15_GREATER {Z : State} {a0 : Array Value} (hw : ∀ d ∈ tables_1, d.before a0 Z = true) (hA : ∀ d ∈ own_flat narrow_1, d.value a0 Z none Z [] = some true) (hS : ∀ d ∈ jdkStatics_1, d.before a0 Z = true) (hF : Fit Z) : Sta Z Z.heap "com/example/proviso/proviso/expression/Lexer$Kind" "GREATER" "Lcom/example/proviso/proviso/expression/Lexer$Kind;" (.ref (w15_GREATER Z)) := Sta.start (ev_w15_GREATER hw hA hS hF) (Or.inr ⟨(hw _ (List.mem_of_getElem? (i := 3) rfl)), (hw _ (List.mem_of_getElem? (i := 35) rfl))⟩)
theorem st_w16_LEFT_PAREN {Z : State} {a0 : Array Value} (hw : ∀ d ∈ tables_1, d.before a0 Z = true) (hA : ∀ d ∈ own_flat narrow_1, d.value a0 Z none Z [] = some true) (hS : ∀ d ∈ jdkStatics_1, d.before a0 Z = true) (hF : Fit Z) : Sta Z Z.heap "com/example/proviso/proviso/expression/Lexer$Kind" "LEFT_PAREN" "Lcom/example/proviso/proviso/expression/Lexer$Kind;" (.ref (w16_LEFT_PAREN Z)) := Sta.start (ev_w16_LEFT_PAREN hw hA hS hF) (Or.inr ⟨(hw _ (List.mem_of_getElem? (i := 3) rfl)), (hw _ (List.mem_of_getElem? (i := 37) rfl))⟩)
theorem st_w17_RIGHT_PAREN {Z : State} {a0 : Array Value} (hw : ∀ d ∈ tables_1, d.before a0 Z = true) (hA : ∀ d ∈ own_flat narrow_1, d.value a0 Z none Z [] = some true) (hS : ∀ d ∈ jdkStatics_1, d.before a0 Z = true) (hF : Fit Z) : Sta Z Z.heap "com/example/proviso/proviso/expression/Lexer$Kind" "RIGHT_PAREN" "Lcom/example/proviso/proviso/expression/Lexer$Kind;" (.ref (w17_RIGHT_PAREN Z)) := Sta.start (ev_w17_RIGHT_PAREN hw hA hS hF) (Or.inr ⟨(hw _ (List.mem_of_getElem? (i := 3) rfl)), (hw _ (List.mem_of_getElem? (i := 39) rfl))⟩)
theorem st_w18_COMMA {Z : State} {a0 : Array Value} (hw : ∀ d ∈ tables_1, d.before a0 Z = true) (hA : ∀ d ∈ own_flat narrow_1, d.value a0 Z none Z [] = some true) (hS : ∀ d ∈ jdkStatics_1, d.before a0 Z = true) (hF : Fit Z) : Sta Z Z.heap "com/example/proviso/proviso/expression/Lexer$Kind" "COMMA" "Lcom/example/proviso/proviso/expression/Lexer$Kind;" (.ref (w18_COMMA Z)) := Sta.start (ev_w18_COMMA hw hA hS hF) (Or.inr ⟨(hw _ (List.mem_of_getElem? (i := 3) rfl)), (hw _ (List.mem_of_getElem? (i := 41) rfl))⟩)
theorem st_w19__VALUES {Z : State} {a0 : Array Value} (hw : ∀ d ∈ tables_1, d.before a0 Z = true) (hA : ∀ d ∈ own_flat narrow_1, d.value a0 Z none Z [] = some true) (hS : ∀ d ∈ jdkStatics_1, d.before a0 Z = true) (hF : Fit Z) : Sta Z Z.heap "com/example/proviso/proviso/expression/ComparisonOperator" "$VALUES" "[Lcom/example/proviso/proviso/expression/ComparisonOperator;" (.ref (w19__VALUES Z)) := Sta.start (ev_w19__VALUES hw hA hS hF) (Or.inl (hw _ (List.mem_of_getElem? (i := 66) rfl)))
theorem st_w20_EQUAL {Z : State} {a0 : Array Value} (hw : ∀ d ∈ tables_1, d.before a0 Z = true) (hA : ∀ d ∈ own_flat narrow_1, d.value a0 Z none Z [] = some true) (hS : ∀ d ∈ jdkStatics_1, d.before a0 Z = true) (hF : Fit Z) : Sta Z Z.heap "com/example/proviso/proviso/expression/ComparisonOperator" "EQUAL" "Lcom/example/proviso/proviso/expression/ComparisonOperator;" (.ref (w20_EQUAL Z)) := Sta.start (ev_w20_EQUAL hw hA hS hF) (Or.inr ⟨(hw _ (List.mem_of_getElem? (i := 45) rfl)), (hw _ (List.mem_of_getElem? (i := 59) rfl))⟩)
theorem st_w21_NOT_EQUAL {Z : State} {a0 : Array Value} (hw : ∀ d ∈ tables_1, d.before a0 Z = true) (hA : ∀ d ∈ own_flat narrow_1, d.value a0 Z none Z [] = some true) (hS : ∀ d ∈ jdkStatics_1, d.before a0 Z = true) (hF : Fit Z) : Sta Z Z.heap "com/example/proviso/proviso/expression/ComparisonOperator" "NOT_EQUAL" "Lcom/example/proviso/proviso/expression/ComparisonOperator;" (.ref (w21_NOT_EQUAL Z)) := Sta.start (ev_w21_NOT_EQUAL hw hA hS hF) (Or.inr ⟨(hw _ (List.mem_of_getElem? (i := 45) rfl)), (hw _ (List.mem_of_getElem? (i := 60) rfl))⟩)
theorem st_w22_MATCH {Z : State} {a0 : Array Value} (hw : ∀ d ∈ tables_1, d.before a0 Z = true) (hA : ∀ d ∈ own_flat narrow_1, d.value a0 Z none Z [] = some true) (hS : ∀ d ∈ jdkStatics_1, d.before a0 Z = true) (hF : Fit Z) : Sta Z Z.heap "com/example/proviso/proviso/expression/ComparisonOperator" "MATCH" "Lcom/example/proviso/proviso/expression/ComparisonOperator;" (.ref (w22_MATCH Z)) := Sta.start (ev_w22_MATCH hw hA hS hF) (Or.inr ⟨(hw _ (List.mem_of_getElem? (i := 45) rfl)), (hw _ (List.mem_of_getElem? (i := 61) rfl))⟩)
theorem st_w23_LESS {Z : State} {a0 : Array Value} (hw : ∀ d ∈ tables_1, d.before a0 Z = true) (hA : ∀ d ∈ own_flat narrow_1, d.value a0 Z none Z [] = some true) (hS : ∀ d ∈ jdkStatics_1, d.before a0 Z = true) (hF : Fit Z) : Sta Z Z.heap "com/example/proviso/proviso/expression/ComparisonOperator" "LESS" "Lcom/example/proviso/proviso/expression/ComparisonOperator;" (.ref (w23_LESS Z)) := Sta.start (ev_w23_LESS hw hA hS hF) (Or.inr ⟨(hw _ (List.mem_of_getElem? (i := 45) rfl)), (hw _ (List.mem_of_getElem? (i := 62) rfl))⟩)
theorem st_w24_LESS_EQUAL {Z : State} {a0 : Array Value} (hw : ∀ d ∈ tables_1, d.before a0 Z = true) (hA : ∀ d ∈ own_flat narrow_1, d.value a0 Z none Z [] = some true) (hS : ∀ d ∈ jdkStatics_1, d.before a0 Z = true) (hF : Fit Z) : Sta Z Z.heap "com/example/proviso/proviso/expression/ComparisonOperator" "LESS_EQUAL" "Lcom/example/proviso/proviso/expression/ComparisonOperator;" (.ref (w24_LESS_EQUAL Z)) := Sta.start (ev_w24_LESS_EQUAL hw hA hS hF) (Or.inr ⟨(hw _ (List.mem_of_getElem? (i := 45) rfl)), (hw _ (List.mem_of_getElem? (i := 63) rfl))⟩)
theorem st_w25_GREATER {Z : State} {a0 : Array Value} (hw : ∀ d ∈ tables_1, d.before a0 Z = true) (hA : ∀ d ∈ own_flat narrow_1, d.value a0 Z none Z [] = some true) (hS : ∀ d ∈ jdkStatics_1, d.before a0 Z = true) (hF : Fit Z) : Sta Z Z.heap "com/example/proviso/proviso/expression/ComparisonOperator" "GREATER" "Lcom/example/proviso/proviso/expression/ComparisonOperator;" (.ref (w25_GREATER Z)) := Sta.start (ev_w25_GREATER hw hA hS hF) (Or.inr ⟨(hw _ (List.mem_of_getElem? (i := 45) rfl)), (hw _ (List.mem_of_getElem? (i := 64) rfl))⟩)
theorem st_w26_GREATER_EQUAL {Z : State} {a0 : Array Value} (hw : ∀ d ∈ tables_1, d.before a0 Z = true) (hA : ∀ d ∈ own_flat narrow_1, d.value a0 Z none Z [] = some true) (hS : ∀ d ∈ jdkStatics_1, d.before a0 Z = true) (hF : Fit Z) : Sta Z Z.heap "com/example/proviso/proviso/expression/ComparisonOperator" "GREATER_EQUAL" "Lcom/example/proviso/proviso/expression/ComparisonOperator;" (.ref (w26_GREATER_EQUAL Z)) := Sta.start (ev_w26_GREATER_EQUAL hw hA hS hF) (Or.inr ⟨(hw _ (List.mem_of_getElem? (i := 45) rfl)), (hw _ (List.mem_of_getElem? (i := 65) rfl))⟩)
theorem st_w27_EMPTY {Z : State} {a0 : Array Value} (hw : ∀ d ∈ tables_1, d.before a0 Z = true) (hA : ∀ d ∈ own_flat narrow_1, d.value a0 Z none Z [] = some true) (hS : ∀ d ∈ jdkStatics_1, d.before a0 Z = true) (hF : Fit Z) : Sta Z Z.heap "java/util/Optional" "EMPTY" "Ljava/util/Optional;" (.ref (w27_EMPTY Z)) := Sta.start (ev_w27_EMPTY hw hA hS hF) (Or.inl (hS _ (List.mem_of_getElem? (i := 1) rfl)))
theorem fl0 {Z : State} {a0 : Array Value} (hw : ∀ d ∈ tables_1, d.before a0 Z = true) (hA : ∀ d ∈ own_flat narrow_1, d.value a0 Z none Z [] = some true) (hS : ∀ d ∈ jdkStatics_1, d.before a0 Z = true) (hF : Fit Z) : Fld Z Z.heap (w20_EQUAL Z) "com/example/proviso/proviso/expression/ComparisonOperator" "token" "Lcom/example/proviso/proviso/expression/Lexer$Kind;" (.ref (w9_EQUAL Z)) := own_fld (ev_w20_EQUAL hw hA hS hF) (own_eqR (hA _ (List.mem_of_getElem? (i := 36) rfl)) (ev_w9_EQUAL hw hA hS hF))
theorem fl1 {Z : State} {a0 : Array Value} (hw : ∀ d ∈ tables_1, d.before a0 Z = true) (hA : ∀ d ∈ own_flat narrow_1, d.value a0 Z none Z [] = some true) (hS : ∀ d ∈ jdkStatics_1, d.before a0 Z = true) (hF : Fit Z) : Fld Z Z.heap (w9_EQUAL Z) "java/lang/Enum" "ordinal" "I" (.int (9 : Int32)) := own_fld (ev_w9_EQUAL hw hA hS hF) (own_eqI (hA _ (List.mem_of_getElem? (i := 37) rfl)))
theorem fl2 {Z : State} {a0 : Array Value} (hw : ∀ d ∈ tables_1, d.before a0 Z = true) (hA : ∀ d ∈ own_flat narrow_1, d.value a0 Z none Z [] = some true) (hS : ∀ d ∈ jdkStatics_1, d.before a0 Z = true) (hF : Fit Z) : Fld Z Z.heap (w0_NAME Z) "java/lang/Enum" "ordinal" "I" (.int (0 : Int32)) := own_fld (ev_w0_NAME hw hA hS hF) (own_eqI (hA _ (List.mem_of_getElem? (i := 38) rfl)))
theorem fl3 {Z : State} {a0 : Array Value} (hw : ∀ d ∈ tables_1, d.before a0 Z = true) (hA : ∀ d ∈ own_flat narrow_1, d.value a0 Z none Z [] = some true) (hS : ∀ d ∈ jdkStatics_1, d.before a0 Z = true) (hF : Fit Z) : Fld Z Z.heap (w21_NOT_EQUAL Z) "com/example/proviso/proviso/expression/ComparisonOperator" "token" "Lcom/example/proviso/proviso/expression/Lexer$Kind;" (.ref (w10_NOT_EQUAL Z)) := own_fld (ev_w21_NOT_EQUAL hw hA hS hF) (own_eqR (hA _ (List.mem_of_getElem? (i := 39) rfl)) (ev_w10_NOT_EQUAL hw hA hS hF))
theorem fl4 {Z : State} {a0 : Array Value} (hw : ∀ d ∈ tables_1, d.before a0 Z = true) (hA : ∀ d ∈ own_flat narrow_1, d.value a0 Z none Z [] = some true) (hS : ∀ d ∈ jdkStatics_1, d.before a0 Z = true) (hF : Fit Z) : Fld Z Z.heap (w10_NOT_EQUAL Z) "java/lang/Enum" "ordinal" "I" (.int (10 : Int32)) := own_fld (ev_w10_NOT_EQUAL hw hA hS hF) (own_eqI (hA _ (List.mem_of_getElem? (i := 40) rfl)))
theorem fl5 {Z : State} {a0 : Array Value} (hw : ∀ d ∈ tables_1, d.before a0 Z = true) (hA : ∀ d ∈ own_flat narrow_1, d.value a0 Z none Z [] = some true) (hS : ∀ d ∈ jdkStatics_1, d.before a0 Z = true) (hF : Fit Z) : Fld Z Z.heap (w22_MATCH Z) "com/example/proviso/proviso/expression/ComparisonOperator" "token" "Lcom/example/proviso/proviso/expression/Lexer$Kind;" (.ref (w11_MATCH Z)) := own_fld (ev_w22_MATCH hw hA hS hF) (own_eqR (hA _ (List.mem_of_getElem? (i := 41) rfl)) (ev_w11_MATCH hw hA hS hF))
theorem fl6 {Z : State} {a0 : Array Value} (hw : ∀ d ∈ tables_1, d.before a0 Z = true) (hA : ∀ d ∈ own_flat narrow_1, d.value a0 Z none Z [] = some true) (hS : ∀ d ∈ jdkStatics_1, d.before a0 Z = true) (hF : Fit Z) : Fld Z Z.heap (w11_MATCH Z) "java/lang/Enum" "ordinal" "I" (.int (11 : Int32)) := own_fld (ev_w11_MATCH hw hA hS hF) (own_eqI (hA _ (List.mem_of_getElem? (i := 42) rfl)))
theorem fl7 {Z : State} {a0 : Array Value} (hw : ∀ d ∈ tables_1, d.before a0 Z = true) (hA : ∀ d ∈ own_flat narrow_1, d.value a0 Z none Z [] = some true) (hS : ∀ d ∈ jdkStatics_1, d.before a0 Z = true) (hF : Fit Z) : Fld Z Z.heap (w23_LESS Z) "com/example/proviso/proviso/expression/ComparisonOperator" "token" "Lcom/example/proviso/proviso/expression/Lexer$Kind;" (.ref (w13_LESS Z)) := own_fld (ev_w23_LESS hw hA hS hF) (own_eqR (hA _ (List.mem_of_getElem? (i := 43) rfl)) (ev_w13_LESS hw hA hS hF))
theorem fl8 {Z : State} {a0 : Array Value} (hw : ∀ d ∈ tables_1, d.before a0 Z = true) (hA : ∀ d ∈ own_flat narrow_1, d.value a0 Z none Z [] = some true) (hS : ∀ d ∈ jdkStatics_1, d.before a0 Z = true) (hF : Fit Z) : Fld Z Z.heap (w13_LESS Z) "java/lang/Enum" "ordinal" "I" (.int (13 : Int32)) := own_fld (ev_w13_LESS hw hA hS hF) (own_eqI (hA _ (List.mem_of_getElem? (i := 44) rfl)))
theorem fl9 {Z : State} {a0 : Array Value} (hw : ∀ d ∈ tables_1, d.before a0 Z = true) (hA : ∀ d ∈ own_flat narrow_1, d.value a0 Z none Z [] = some true) (hS : ∀ d ∈ jdkStatics_1, d.before a0 Z = true) (hF : Fit Z) : Fld Z Z.heap (w24_LESS_EQUAL Z) "com/example/proviso/proviso/expression/ComparisonOperator" "token" "Lcom/example/proviso/proviso/expression/Lexer$Kind;" (.ref (w12_LESS_EQUAL Z)) := own_fld (ev_w24_LESS_EQUAL hw hA hS hF) (own_eqR (hA _ (List.mem_of_getElem? (i := 45) rfl)) (ev_w12_LESS_EQUAL hw hA hS hF))
theorem fl10 {Z : State} {a0 : Array Value} (hw : ∀ d ∈ tables_1, d.before a0 Z = true) (hA : ∀ d ∈ own_flat narrow_1, d.value a0 Z none Z [] = some true) (hS : ∀ d ∈ jdkStatics_1, d.before a0 Z = true) (hF : Fit Z) : Fld Z Z.heap (w12_LESS_EQUAL Z) "java/lang/Enum" "ordinal" "I" (.int (12 : Int32)) := own_fld (ev_w12_LESS_EQUAL hw hA hS hF) (own_eqI (hA _ (List.mem_of_getElem? (i := 46) rfl)))
theorem fl11 {Z : State} {a0 : Array Value} (hw : ∀ d ∈ tables_1, d.before a0 Z = true) (hA : ∀ d ∈ own_flat narrow_1, d.value a0 Z none Z [] = some true) (hS : ∀ d ∈ jdkStatics_1, d.before a0 Z = true) (hF : Fit Z) : Fld Z Z.heap (w25_GREATER Z) "com/example/proviso/proviso/expression/ComparisonOperator" "token" "Lcom/example/proviso/proviso/expression/Lexer$Kind;" (.ref (w15_GREATER Z)) := own_fld (ev_w25_GREATER hw hA hS hF) (own_eqR (hA _ (List.mem_of_getElem? (i := 47) rfl)) (ev_w15_GREATER hw hA hS hF))
theorem fl12 {Z : State} {a0 : Array Value} (hw : ∀ d ∈ tables_1, d.before a0 Z = true) (hA : ∀ d ∈ own_flat narrow_1, d.value a0 Z none Z [] = some true) (hS : ∀ d ∈ jdkStatics_1, d.before a0 Z = true) (hF : Fit Z) : Fld Z Z.heap (w15_GREATER Z) "java/lang/Enum" "ordinal" "I" (.int (15 : Int32)) := own_fld (ev_w15_GREATER hw hA hS hF) (own_eqI (hA _ (List.mem_of_getElem? (i := 48) rfl)))
theorem fl13 {Z : State} {a0 : Array Value} (hw : ∀ d ∈ tables_1, d.before a0 Z = true) (hA : ∀ d ∈ own_flat narrow_1, d.value a0 Z none Z [] = some true) (hS : ∀ d ∈ jdkStatics_1, d.before a0 Z = true) (hF : Fit Z) : Fld Z Z.heap (w26_GREATER_EQUAL Z) "com/example/proviso/proviso/expression/ComparisonOperator" "token" "Lcom/example/proviso/proviso/expression/Lexer$Kind;" (.ref (w14_GREATER_EQUAL Z)) := own_fld (ev_w26_GREATER_EQUAL hw hA hS hF) (own_eqR (hA _ (List.mem_of_getElem? (i := 49) rfl)) (ev_w14_GREATER_EQUAL hw hA hS hF))
theorem fl14 {Z : State} {a0 : Array Value} (hw : ∀ d ∈ tables_1, d.before a0 Z = true) (hA : ∀ d ∈ own_flat narrow_1, d.value a0 Z none Z [] = some true) (hS : ∀ d ∈ jdkStatics_1, d.before a0 Z = true) (hF : Fit Z) : Fld Z Z.heap (w14_GREATER_EQUAL Z) "java/lang/Enum" "ordinal" "I" (.int (14 : Int32)) := own_fld (ev_w14_GREATER_EQUAL hw hA hS hF) (own_eqI (hA _ (List.mem_of_getElem? (i := 50) rfl)))
theorem fl15 {Z : State} {a0 : Array Value} (hw : ∀ d ∈ tables_1, d.before a0 Z = true) (hA : ∀ d ∈ own_flat narrow_1, d.value a0 Z none Z [] = some true) (hS : ∀ d ∈ jdkStatics_1, d.before a0 Z = true) (hF : Fit Z) : Fld Z Z.heap (w3_END Z) "java/lang/Enum" "ordinal" "I" (.int (3 : Int32)) := own_fld (ev_w3_END hw hA hS hF) (own_eqI (hA _ (List.mem_of_getElem? (i := 51) rfl)))
theorem fl16 {Z : State} {a0 : Array Value} (hw : ∀ d ∈ tables_1, d.before a0 Z = true) (hA : ∀ d ∈ own_flat narrow_1, d.value a0 Z none Z [] = some true) (hS : ∀ d ∈ jdkStatics_1, d.before a0 Z = true) (hF : Fit Z) : Fld Z Z.heap (w5_AND Z) "java/lang/Enum" "ordinal" "I" (.int (5 : Int32)) := own_fld (ev_w5_AND hw hA hS hF) (own_eqI (hA _ (List.mem_of_getElem? (i := 52) rfl)))
theorem fl17 {Z : State} {a0 : Array Value} (hw : ∀ d ∈ tables_1, d.before a0 Z = true) (hA : ∀ d ∈ own_flat narrow_1, d.value a0 Z none Z [] = some true) (hS : ∀ d ∈ jdkStatics_1, d.before a0 Z = true) (hF : Fit Z) : Fld Z Z.heap (w17_RIGHT_PAREN Z) "java/lang/Enum" "ordinal" "I" (.int (17 : Int32)) := own_fld (ev_w17_RIGHT_PAREN hw hA hS hF) (own_eqI (hA _ (List.mem_of_getElem? (i := 53) rfl)))
theorem fl18 {Z : State} {a0 : Array Value} (hw : ∀ d ∈ tables_1, d.before a0 Z = true) (hA : ∀ d ∈ own_flat narrow_1, d.value a0 Z none Z [] = some true) (hS : ∀ d ∈ jdkStatics_1, d.before a0 Z = true) (hF : Fit Z) : Fld Z Z.heap (w7_TRUE Z) "java/lang/Enum" "ordinal" "I" (.int (7 : Int32)) := own_fld (ev_w7_TRUE hw hA hS hF) (own_eqI (hA _ (List.mem_of_getElem? (i := 54) rfl)))
theorem fl19 {Z : State} {a0 : Array Value} (hw : ∀ d ∈ tables_1, d.before a0 Z = true) (hA : ∀ d ∈ own_flat narrow_1, d.value a0 Z none Z [] = some true) (hS : ∀ d ∈ jdkStatics_1, d.before a0 Z = true) (hF : Fit Z) : Fld Z Z.heap (w2_INTEGER Z) "java/lang/Enum" "ordinal" "I" (.int (2 : Int32)) := own_fld (ev_w2_INTEGER hw hA hS hF) (own_eqI (hA _ (List.mem_of_getElem? (i := 55) rfl)))
theorem fl20 {Z : State} {a0 : Array Value} (hw : ∀ d ∈ tables_1, d.before a0 Z = true) (hA : ∀ d ∈ own_flat narrow_1, d.value a0 Z none Z [] = some true) (hS : ∀ d ∈ jdkStatics_1, d.before a0 Z = true) (hF : Fit Z) : Fld Z Z.heap (w8_FALSE Z) "java/lang/Enum" "ordinal" "I" (.int (8 : Int32)) := own_fld (ev_w8_FALSE hw hA hS hF) (own_eqI (hA _ (List.mem_of_getElem? (i := 56) rfl)))
theorem fl21 {Z : State} {a0 : Array Value} (hw : ∀ d ∈ tables_1, d.before a0 Z = true) (hA : ∀ d ∈ own_flat narrow_1, d.value a0 Z none Z [] = some true) (hS : ∀ d ∈ jdkStatics_1, d.before a0 Z = true) (hF : Fit Z) : Fld Z Z.heap (w1_STRING Z) "java/lang/Enum" "ordinal" "I" (.int (1 : Int32)) := own_fld (ev_w1_STRING hw hA hS hF) (own_eqI (hA _ (List.mem_of_getElem? (i := 57) rfl)))
theorem fl22 {Z : State} {a0 : Array Value} (hw : ∀ d ∈ tables_1, d.before a0 Z = true) (hA : ∀ d ∈ own_flat narrow_1, d.value a0 Z none Z [] = some true) (hS : ∀ d ∈ jdkStatics_1, d.before a0 Z = true) (hF : Fit Z) : Fld Z Z.heap (w18_COMMA Z) "java/lang/Enum" "ordinal" "I" (.int (18 : Int32)) := own_fld (ev_w18_COMMA hw hA hS hF) (own_eqI (hA _ (List.mem_of_getElem? (i := 58) rfl)))
theorem fl23 {Z : State} {a0 : Array Value} (hw : ∀ d ∈ tables_1, d.before a0 Z = true) (hA : ∀ d ∈ own_flat narrow_1, d.value a0 Z none Z [] = some true) (hS : ∀ d ∈ jdkStatics_1, d.before a0 Z = true) (hF : Fit Z) : Fld Z Z.heap (w6_OR Z) "java/lang/Enum" "ordinal" "I" (.int (6 : Int32)) := own_fld (ev_w6_OR hw hA hS hF) (own_eqI (hA _ (List.mem_of_getElem? (i := 59) rfl)))
theorem fl24 {Z : State} {a0 : Array Value} (hw : ∀ d ∈ tables_1, d.before a0 Z = true) (hA : ∀ d ∈ own_flat narrow_1, d.value a0 Z none Z [] = some true) (hS : ∀ d ∈ jdkStatics_1, d.before a0 Z = true) (hF : Fit Z) : Fld Z Z.heap (w16_LEFT_PAREN Z) "java/lang/Enum" "ordinal" "I" (.int (16 : Int32)) := own_fld (ev_w16_LEFT_PAREN hw hA hS hF) (own_eqI (hA _ (List.mem_of_getElem? (i := 60) rfl)))
theorem fl25 {Z : State} {a0 : Array Value} (hw : ∀ d ∈ tables_1, d.before a0 Z = true) (hA : ∀ d ∈ own_flat narrow_1, d.value a0 Z none Z [] = some true) (hS : ∀ d ∈ jdkStatics_1, d.before a0 Z = true) (hF : Fit Z) : Fld Z Z.heap (w4_NOT Z) "java/lang/Enum" "ordinal" "I" (.int (4 : Int32)) := own_fld (ev_w4_NOT hw hA hS hF) (own_eqI (hA _ (List.mem_of_getElem? (i := 61) rfl)))
theorem fl26 {Z : State} {a0 : Array Value} (hw : ∀ d ∈ tables_1, d.before a0 Z = true) (hA : ∀ d ∈ own_flat narrow_1, d.value a0 Z none Z [] = some true) (hS : ∀ d ∈ jdkStatics_1, d.before a0 Z = true) (hF : Fit Z) : Fld Z Z.heap (w27_EMPTY Z) "java/util/Optional" "value" "Ljava/lang/Object;" .null := own_fld (ev_w27_EMPTY hw hA hS hF) (null_v (Cond.before_iff.mp (hS _ (List.mem_of_getElem? (i := 3) rfl))))
theorem ar_w19__VALUES {Z : State} {a0 : Array Value} (hw : ∀ d ∈ tables_1, d.before a0 Z = true) (hA : ∀ d ∈ own_flat narrow_1, d.value a0 Z none Z [] = some true) (hS : ∀ d ∈ jdkStatics_1, d.before a0 Z = true) (hF : Fit Z) : ∃ k, Arv Z Z.heap (w19__VALUES Z) k (.object "com/example/proviso/proviso/expression/ComparisonOperator") (7 : Int32) [(.ref (w20_EQUAL Z)), (.ref (w21_NOT_EQUAL Z)), (.ref (w22_MATCH Z)), (.ref (w23_LESS Z)), (.ref (w24_LESS_EQUAL Z)), (.ref (w25_GREATER Z)), (.ref (w26_GREATER_EQUAL Z))] .null := by
  obtain ⟨cl, A⟩ := Arr.start (ev_w19__VALUES hw hA hS hF) (hA _ (List.mem_of_getElem? (i := 19) rfl))
  obtain ⟨q, e⟩ := own_len A (ev_w19__VALUES hw hA hS hF) (hA _ (List.mem_of_getElem? (i := 21) rfl))
  exact ⟨cl.cls, Arv.start hF A q e (by decide) rfl (And.intro (own_el A (ev_w19__VALUES hw hA hS hF) (own_eqR (hA _ (List.mem_of_getElem? (i := 23) rfl)) (ev_w20_EQUAL hw hA hS hF))) (And.intro (own_el A (ev_w19__VALUES hw hA hS hF) (own_eqR (hA _ (List.mem_of_getElem? (i := 25) rfl)) (ev_w21_NOT_EQUAL hw hA hS hF))) (And.intro (own_el A (ev_w19__VALUES hw hA hS hF) (own_eqR (hA _ (List.mem_of_getElem? (i := 27) rfl)) (ev_w22_MATCH hw hA hS hF))) (And.intro (own_el A (ev_w19__VALUES hw hA hS hF) (own_eqR (hA _ (List.mem_of_getElem? (i := 29) rfl)) (ev_w23_LESS hw hA hS hF))) (And.intro (own_el A (ev_w19__VALUES hw hA hS hF) (own_eqR (hA _ (List.mem_of_getElem? (i := 31) rfl)) (ev_w24_LESS_EQUAL hw hA hS hF))) (And.intro (own_el A (ev_w19__VALUES hw hA hS hF) (own_eqR (hA _ (List.mem_of_getElem? (i := 33) rfl)) (ev_w25_GREATER hw hA hS hF))) (And.intro (own_el A (ev_w19__VALUES hw hA hS hF) (own_eqR (hA _ (List.mem_of_getElem? (i := 35) rfl)) (ev_w26_GREATER_EQUAL hw hA hS hF))) True.intro)))))))⟩
theorem d1_0 : decode prog_2_method_4_code 0 = .ok (.invokestatic 48, 3) := by decide +kernel
theorem d2_0 : decode prog_2_method_1_code 0 = .ok (.getstatic 25, 3) := by decide +kernel
theorem d2_3 : decode prog_2_method_1_code 3 = .ok (.invokevirtual 29, 3) := by decide +kernel
theorem d2_6 : decode prog_2_method_1_code 6 = .ok (.checkcast 30, 3) := by decide +kernel
theorem d2_9 : decode prog_2_method_1_code 9 = .ok (.areturn, 1) := by decide +kernel
theorem pn0 : plainName "com/example/proviso/proviso/expression/ComparisonOperator" = true := by first | (simp [plainName, overriddenIn]; done) | decide +kernel
theorem pd1 : parseMethodDescriptor "()[Lcom/example/proviso/proviso/expression/ComparisonOperator;" = some ⟨[], some (.array (.object "com/example/proviso/proviso/expression/ComparisonOperator"))⟩ := by decide +kernel
theorem d1_3 : decode prog_2_method_4_code 3 = .ok (.astore_n 1, 1) := by decide +kernel
theorem d1_4 : decode prog_2_method_4_code 4 = .ok (.aload_n 1, 1) := by decide +kernel
theorem d1_5 : decode prog_2_method_4_code 5 = .ok (.arraylength, 1) := by decide +kernel
theorem d1_6 : decode prog_2_method_4_code 6 = .ok (.istore_n 2, 1) := by decide +kernel
theorem d1_7 : decode prog_2_method_4_code 7 = .ok (.iconst 0, 1) := by decide +kernel
theorem d1_8 : decode prog_2_method_4_code 8 = .ok (.istore_n 3, 1) := by decide +kernel
theorem d1_9 : decode prog_2_method_4_code 9 = .ok (.iload_n 3, 1) := by decide +kernel
theorem d1_10 : decode prog_2_method_4_code 10 = .ok (.iload_n 2, 1) := by decide +kernel
theorem d1_11 : decode prog_2_method_4_code 11 = .ok (.if_icmp .ge 29, 3) := by decide +kernel
theorem d1_14 : decode prog_2_method_4_code 14 = .ok (.aload_n 1, 1) := by decide +kernel
theorem d1_15 : decode prog_2_method_4_code 15 = .ok (.iload_n 3, 1) := by decide +kernel
theorem d1_16 : decode prog_2_method_4_code 16 = .ok (.aaload, 1) := by decide +kernel
theorem d1_17 : decode prog_2_method_4_code 17 = .ok (.astore 4, 2) := by decide +kernel
theorem d1_19 : decode prog_2_method_4_code 19 = .ok (.aload 4, 2) := by decide +kernel
theorem d1_21 : decode prog_2_method_4_code 21 = .ok (.getfield 44, 3) := by decide +kernel
theorem d1_24 : decode prog_2_method_4_code 24 = .ok (.aload_n 0, 1) := by decide +kernel
theorem d1_25 : decode prog_2_method_4_code 25 = .ok (.if_acmp .ne 9, 3) := by decide +kernel
theorem d1_34 : decode prog_2_method_4_code 34 = .ok (.iinc 3 1, 3) := by decide +kernel
theorem d1_37 : decode prog_2_method_4_code 37 = .ok (.goto (-28), 3) := by decide +kernel
theorem d1_40 : decode prog_2_method_4_code 40 = .ok (.invokestatic 58, 3) := by decide +kernel
theorem d3_0 : decode jdk_32_method_1_code 0 = .ok (.getstatic 1, 3) := by decide +kernel
theorem d3_3 : decode jdk_32_method_1_code 3 = .ok (.astore_n 0, 1) := by decide +kernel
theorem d3_4 : decode jdk_32_method_1_code 4 = .ok (.aload_n 0, 1) := by decide +kernel
theorem d3_5 : decode jdk_32_method_1_code 5 = .ok (.areturn, 1) := by decide +kernel
theorem pn2 : plainName "java/util/Optional" = true := by first | (simp [plainName, overriddenIn]; done) | decide +kernel
theorem pd3 : parseMethodDescriptor "()Ljava/util/Optional;" = some ⟨[], some (.object "java/util/Optional")⟩ := by decide +kernel
theorem d1_43 : decode prog_2_method_4_code 43 = .ok (.areturn, 1) := by decide +kernel
theorem pd4 : parseMethodDescriptor "(Lcom/example/proviso/proviso/expression/Lexer$Kind;)Ljava/util/Optional;" = some ⟨[(.object "com/example/proviso/proviso/expression/Lexer$Kind")], some (.object "java/util/Optional")⟩ := by decide +kernel
theorem d4_0 : decode jdk_32_method_15_code 0 = .ok (.aload_n 0, 1) := by decide +kernel
theorem d4_1 : decode jdk_32_method_15_code 1 = .ok (.getfield 13, 3) := by decide +kernel
theorem d4_4 : decode jdk_32_method_15_code 4 = .ok (.ifnull 10, 3) := by decide +kernel
theorem d4_14 : decode jdk_32_method_15_code 14 = .ok (.aload_n 1, 1) := by decide +kernel
theorem d4_15 : decode jdk_32_method_15_code 15 = .ok (.areturn, 1) := by decide +kernel
theorem pd5 : parseMethodDescriptor "(Ljava/lang/Object;)Ljava/lang/Object;" = some ⟨[(.object "java/lang/Object")], some (.object "java/lang/Object")⟩ := by decide +kernel
theorem d5_0 : decode method_3_code 0 = .ok (.aload_n 0, 1) := by decide +kernel
theorem d5_1 : decode method_3_code 1 = .ok (.getstatic 37, 3) := by decide +kernel
theorem d5_4 : decode method_3_code 4 = .ok (.if_acmp .ne 7, 3) := by decide +kernel
theorem d5_11 : decode method_3_code 11 = .ok (.aload_n 0, 1) := by decide +kernel
theorem d5_12 : decode method_3_code 12 = .ok (.getstatic 40, 3) := by decide +kernel
theorem d5_15 : decode method_3_code 15 = .ok (.if_acmp .ne 7, 3) := by decide +kernel
theorem d5_22 : decode method_3_code 22 = .ok (.aload_n 0, 1) := by decide +kernel
theorem d5_23 : decode method_3_code 23 = .ok (.getstatic 43, 3) := by decide +kernel
theorem d5_26 : decode method_3_code 26 = .ok (.if_acmp .ne 7, 3) := by decide +kernel
theorem d5_33 : decode method_3_code 33 = .ok (.aload_n 0, 1) := by decide +kernel
theorem d5_34 : decode method_3_code 34 = .ok (.getstatic 49, 3) := by decide +kernel
theorem d5_37 : decode method_3_code 37 = .ok (.if_acmp .ne 7, 3) := by decide +kernel
theorem d5_44 : decode method_3_code 44 = .ok (.aload_n 0, 1) := by decide +kernel
theorem d5_45 : decode method_3_code 45 = .ok (.getstatic 46, 3) := by decide +kernel
theorem d5_48 : decode method_3_code 48 = .ok (.if_acmp .ne 7, 3) := by decide +kernel
theorem d5_55 : decode method_3_code 55 = .ok (.aload_n 0, 1) := by decide +kernel
theorem d5_56 : decode method_3_code 56 = .ok (.getstatic 55, 3) := by decide +kernel
theorem d5_59 : decode method_3_code 59 = .ok (.if_acmp .ne 7, 3) := by decide +kernel
theorem d5_66 : decode method_3_code 66 = .ok (.aload_n 0, 1) := by decide +kernel
theorem d5_67 : decode method_3_code 67 = .ok (.getstatic 52, 3) := by decide +kernel
theorem d5_70 : decode method_3_code 70 = .ok (.if_acmp .ne 7, 3) := by decide +kernel
theorem d5_77 : decode method_3_code 77 = .ok (.aconst_null, 1) := by decide +kernel
theorem d5_78 : decode method_3_code 78 = .ok (.areturn, 1) := by decide +kernel
theorem pn6 : plainName "com/example/proviso/proviso/expression/ComparisonOperatorSpelledByPinLaw" = true := by first | (simp [plainName, overriddenIn]; done) | decide +kernel
theorem pd7 : parseMethodDescriptor "(Lcom/example/proviso/proviso/expression/Lexer$Kind;)Lcom/example/proviso/proviso/expression/ComparisonOperator;" = some ⟨[(.object "com/example/proviso/proviso/expression/Lexer$Kind")], some (.object "com/example/proviso/proviso/expression/ComparisonOperator")⟩ := by decide +kernel
theorem d1_28 : decode prog_2_method_4_code 28 = .ok (.aload 4, 2) := by decide +kernel
theorem d1_30 : decode prog_2_method_4_code 30 = .ok (.invokestatic 52, 3) := by decide +kernel
theorem d6_0 : decode jdk_32_method_3_code 0 = .ok (.new 2, 3) := by decide +kernel
theorem d6_3 : decode jdk_32_method_3_code 3 = .ok (.dup, 1) := by decide +kernel
theorem d6_4 : decode jdk_32_method_3_code 4 = .ok (.aload_n 0, 1) := by decide +kernel
theorem d6_5 : decode jdk_32_method_3_code 5 = .ok (.invokestatic 17, 3) := by decide +kernel
theorem d7_0 : decode jdk_31_method_10_code 0 = .ok (.aload_n 0, 1) := by decide +kernel
theorem d7_1 : decode jdk_31_method_10_code 1 = .ok (.ifnonnull 11, 3) := by decide +kernel
theorem d7_12 : decode jdk_31_method_10_code 12 = .ok (.aload_n 0, 1) := by decide +kernel
theorem d7_13 : decode jdk_31_method_10_code 13 = .ok (.areturn, 1) := by decide +kernel
theorem pn8 : plainName "java/util/Objects" = true := by first | (simp [plainName, overriddenIn]; done) | decide +kernel
theorem d6_8 : decode jdk_32_method_3_code 8 = .ok (.invokespecial 23, 3) := by decide +kernel
theorem d8_0 : decode jdk_32_method_2_code 0 = .ok (.aload_n 0, 1) := by decide +kernel
theorem d8_1 : decode jdk_32_method_2_code 1 = .ok (.invokespecial 7, 3) := by decide +kernel
theorem d8_4 : decode jdk_32_method_2_code 4 = .ok (.aload_n 0, 1) := by decide +kernel
theorem d8_5 : decode jdk_32_method_2_code 5 = .ok (.aload_n 1, 1) := by decide +kernel
theorem d8_6 : decode jdk_32_method_2_code 6 = .ok (.putfield 13, 3) := by decide +kernel
theorem d8_9 : decode jdk_32_method_2_code 9 = .ok (.return_, 1) := by decide +kernel
theorem pd9 : parseMethodDescriptor "(Ljava/lang/Object;)V" = some ⟨[(.object "java/lang/Object")], none⟩ := by decide +kernel
theorem d6_11 : decode jdk_32_method_3_code 11 = .ok (.areturn, 1) := by decide +kernel
theorem pd10 : parseMethodDescriptor "(Ljava/lang/Object;)Ljava/util/Optional;" = some ⟨[(.object "java/lang/Object")], some (.object "java/util/Optional")⟩ := by decide +kernel
theorem d1_33 : decode prog_2_method_4_code 33 = .ok (.areturn, 1) := by decide +kernel
theorem d4_7 : decode jdk_32_method_15_code 7 = .ok (.aload_n 0, 1) := by decide +kernel
theorem d4_8 : decode jdk_32_method_15_code 8 = .ok (.getfield 13, 3) := by decide +kernel
theorem d4_11 : decode jdk_32_method_15_code 11 = .ok (.goto 4, 3) := by decide +kernel
theorem d5_7 : decode method_3_code 7 = .ok (.getstatic 86, 3) := by decide +kernel
theorem d5_10 : decode method_3_code 10 = .ok (.areturn, 1) := by decide +kernel
theorem d5_18 : decode method_3_code 18 = .ok (.getstatic 89, 3) := by decide +kernel
theorem d5_21 : decode method_3_code 21 = .ok (.areturn, 1) := by decide +kernel
theorem d5_29 : decode method_3_code 29 = .ok (.getstatic 91, 3) := by decide +kernel
theorem d5_32 : decode method_3_code 32 = .ok (.areturn, 1) := by decide +kernel
theorem d5_51 : decode method_3_code 51 = .ok (.getstatic 95, 3) := by decide +kernel
theorem d5_54 : decode method_3_code 54 = .ok (.areturn, 1) := by decide +kernel
theorem d5_40 : decode method_3_code 40 = .ok (.getstatic 93, 3) := by decide +kernel
theorem d5_43 : decode method_3_code 43 = .ok (.areturn, 1) := by decide +kernel
theorem d5_73 : decode method_3_code 73 = .ok (.getstatic 99, 3) := by decide +kernel
theorem d5_76 : decode method_3_code 76 = .ok (.areturn, 1) := by decide +kernel
theorem d5_62 : decode method_3_code 62 = .ok (.getstatic 97, 3) := by decide +kernel
theorem d5_65 : decode method_3_code 65 = .ok (.areturn, 1) := by decide +kernel
set_option maxRecDepth 65536 in
set_option maxHeartbeats 40000000 in
theorem rm2_0 (l : Launch) (Z : State) (a0 : Array Value) (hw : ∀ d ∈ tables_1, d.before a0 Z = true) (hA : ∀ d ∈ own_flat narrow_1, d.value a0 Z none Z [] = some true) (hS : ∀ d ∈ jdkStatics_1, d.before a0 Z = true) (hF : Fit Z) (ws : List Jvm.Cond) (h0 : Heap) (n0 : Nat) (O0 : Old Z n0 h0) :
    own_Met l Z (⟨"com/example/proviso/proviso/expression/ComparisonOperator", "values", "()[Lcom/example/proviso/proviso/expression/ComparisonOperator;"⟩ : MethodName) (Jvm.Cond.code (⟨"com/example/proviso/proviso/expression/ComparisonOperator", "values", "()[Lcom/example/proviso/proviso/expression/ComparisonOperator;"⟩ : MethodName) prog_2_method_1_code 0 (some (.array (.object "com/example/proviso/proviso/expression/ComparisonOperator")))) ws ({ frames := 1, cells := 1, slots := 7, locals := 14 } : Room) #[] h0 (fun v h L => (∃ (b3 : Addr) (k2 : ClassId), v = some (.ref b3) ∧ Fr n0 L ∧ Keep h0 h [] ∧ h0.size ≤ b3 ∧ Arv Z h b3 k2 (.object "com/example/proviso/proviso/expression/ComparisonOperator") (7 : Int32) [(.ref (w20_EQUAL Z)), (.ref (w21_NOT_EQUAL Z)), (.ref (w22_MATCH Z)), (.ref (w23_LESS Z)), (.ref (w24_LESS_EQUAL Z)), (.ref (w25_GREATER Z)), (.ref (w26_GREATER_EQUAL Z))] .null ∧ Exa Z h b3 "[Lcom/example/proviso/proviso/expression/ComparisonOperator;")) := by
  refine own_met (own := "com/example/proviso/proviso/expression/ComparisonOperator") (plainFor_of_name pn0) rfl ?_
  intro p e s m below meth c s₁ hx hby hml hown hnm hret hlk hZ e0 X0
  refine own_cast (g' := (mkF m 0 #[] [])) (by first | (simp [entryFrame, mkF, argsToLocals, Value.category]; done) | rfl) ?_
  obtain ⟨T1, X1, e1, st1⟩ := getS2 X0 hx hZ hown (host := "") (Or.inl (hw _ (List.mem_of_getElem? (i := 50) rfl))) Via.refl e0 ((st_w19__VALUES hw hA hS hF).ext O0.2) (g := (mkF m 0 #[] [])) rfl (hb hby d2_0)
  refine own_step st1 ?_
  show own_Wp p e below _ T1 (mkF m 3 #[] [(.ref (w19__VALUES Z))])
  obtain ⟨k2, V2⟩ := (ar_w19__VALUES hw hA hS hF)
  have V2x := V2.ext O0.2
  obtain ⟨T3, h3, X3, e3, E3, V3, A3, st3⟩ := cloneH X1 hx hZ hown (hw _ (List.mem_of_getElem? (i := 52) rfl)) (hw _ (List.mem_of_getElem? (i := 53) rfl)) (hw _ (List.mem_of_getElem? (i := 57) rfl)) (hw _ (List.mem_of_getElem? (i := 55) rfl)) (hw _ (List.mem_of_getElem? (i := 56) rfl)) (hw _ (List.mem_of_getElem? (i := 58) rfl)) e1 (Arv.arh V2x) ((ex_w19__VALUES hw hA hS hF).ext O0.2) (g := (mkF m 3 #[] [(.ref (w19__VALUES Z))])) rfl (by rw [hml]; rfl) rfl (hb hby d2_3) (by decide) (W := 0) (cap := 7) (by show 2 * 0 + _ ≤ _; exact Nat.le_of_eq rfl) (by decide) (by decide) (by decide) (by decide)
  obtain ⟨b3, z3⟩ : ∃ z, z = h0.size := ⟨_, rfl⟩
  rw [← z3] at A3 V3 st3
  refine own_step st3 ?_
  have g3 : n0 ≤ b3 := Nat.le_trans (O0.1 ▸ O0.2.1) (Nat.le_of_eq z3.symm)
  have ne3_0 : (w19__VALUES Z) ≠ b3 := Nat.ne_of_lt (Nat.lt_of_lt_of_le V2x.lt (Nat.le_of_eq z3.symm))
  have y3 : h0.size ≤ b3 := Nat.le_trans (Nat.le_refl _) (Nat.le_of_eq z3.symm)
  have O3 := O0.ext E3
  have K3 : Keep h0 h3 [] := (Keep.refl h0 []).ext E3
  have V3y : Arv Z h3 b3 k2 (.object "com/example/proviso/proviso/expression/ComparisonOperator") (7 : Int32) [(.ref (w20_EQUAL Z)), (.ref (w21_NOT_EQUAL Z)), (.ref (w22_MATCH Z)), (.ref (w23_LESS Z)), (.ref (w24_LESS_EQUAL Z)), (.ref (w25_GREATER Z)), (.ref (w26_GREATER_EQUAL Z))] .null := V3
  show own_Wp p e below _ T3 (mkF m 6 #[] [(.ref b3)])
  obtain ⟨T4, X4, e4, st4⟩ := castY X3 hx hZ hown (hw _ (List.mem_of_getElem? (i := 67) rfl)) e3 (Ins.self A3) (g := (mkF m 6 #[] [(.ref b3)])) rfl rfl (hb hby d2_6)
  refine own_step st4 ?_
  show own_Wp p e below _ T4 (mkF m 9 #[] [(.ref b3)])
  exact own_retA X4 hx hret rfl rfl hlk (hb hby d2_9) (by decide) (by decide) (by rw [e4]; exact ⟨b3, k2, rfl, (Fr.nil n0), K3, y3, V3y, A3⟩)

set_option maxRecDepth 65536 in
set_option maxHeartbeats 40000000 in
theorem rm3_1 (l : Launch) (Z : State) (a0 : Array Value) (hw : ∀ d ∈ tables_1, d.before a0 Z = true) (hA : ∀ d ∈ own_flat narrow_1, d.value a0 Z none Z [] = some true) (hS : ∀ d ∈ jdkStatics_1, d.before a0 Z = true) (hF : Fit Z) (ws : List Jvm.Cond) (h0 : Heap) (n0 : Nat) (O0 : Old Z n0 h0) :
    own_Met l Z (⟨"java/util/Optional", "empty", "()Ljava/util/Optional;"⟩ : MethodName) (Jvm.Cond.code (⟨"java/util/Optional", "empty", "()Ljava/util/Optional;"⟩ : MethodName) jdk_32_method_1_code 1 (some (.object "java/util/Optional"))) ws ({ frames := 0, cells := 0, slots := 0, locals := 0 } : Room) #[] h0 (fun v h L => (v = some (.ref (w27_EMPTY Z)) ∧ Fr n0 L ∧ h = h0)) := by
  refine own_met (own := "java/util/Optional") (plainFor_of_name pn2) rfl ?_
  intro p e s m below meth c s₁ hx hby hml hown hnm hret hlk hZ e0 X0
  refine own_cast (g' := (mkF m 0 #[.unset] [])) (by first | (simp [entryFrame, mkF, argsToLocals, Value.category]; done) | rfl) ?_
  obtain ⟨T1, X1, e1, st1⟩ := getS2 X0 hx hZ hown (host := "") (Or.inl (hw _ (List.mem_of_getElem? (i := 75) rfl))) Via.refl e0 ((st_w27_EMPTY hw hA hS hF).ext O0.2) (g := (mkF m 0 #[.unset] [])) rfl (hb hby d3_0)
  refine own_step st1 ?_
  show own_Wp p e below _ T1 (mkF m 3 #[.unset] [(.ref (w27_EMPTY Z))])
  refine own_step (fun _ k => XS.astoreN X1.here hx rfl (hb hby d3_3) rfl rfl (l' := #[.val (.ref (w27_EMPTY Z))]) rfl k) ?_
  show own_Wp p e below _ T1 (mkF m 4 #[.val (.ref (w27_EMPTY Z))] [])
  refine own_step (fun _ k => XS.aloadN X1.here hx rfl (hb hby d3_4) rfl rfl k) ?_
  show own_Wp p e below _ T1 (mkF m 5 #[.val (.ref (w27_EMPTY Z))] [(.ref (w27_EMPTY Z))])
  exact own_retA X1 hx hret rfl rfl hlk (hb hby d3_5) (by decide) (by decide) (by rw [e1]; exact ⟨rfl, (Fr.nil n0), rfl⟩)

set_option maxRecDepth 65536 in
set_option maxHeartbeats 40000000 in
theorem rm1_2 (l : Launch) (Z : State) (a0 : Array Value) (hw : ∀ d ∈ tables_1, d.before a0 Z = true) (hA : ∀ d ∈ own_flat narrow_1, d.value a0 Z none Z [] = some true) (hS : ∀ d ∈ jdkStatics_1, d.before a0 Z = true) (hF : Fit Z) (ws : List Jvm.Cond) (px1 : Addr) (h0 : Heap) (n0 : Nat) (O0 : Old Z n0 h0) (D0 : (w9_EQUAL Z) ≠ px1) (D1 : (w10_NOT_EQUAL Z) ≠ px1) (D2 : (w11_MATCH Z) ≠ px1) (D3 : (w13_LESS Z) ≠ px1) (D4 : (w12_LESS_EQUAL Z) ≠ px1) (D5 : (w15_GREATER Z) ≠ px1) (D6 : (w14_GREATER_EQUAL Z) ≠ px1) :
    own_Met l Z (⟨"com/example/proviso/proviso/expression/ComparisonOperator", "spelledBy", "(Lcom/example/proviso/proviso/expression/Lexer$Kind;)Ljava/util/Optional;"⟩ : MethodName) (Jvm.Cond.code (⟨"com/example/proviso/proviso/expression/ComparisonOperator", "spelledBy", "(Lcom/example/proviso/proviso/expression/Lexer$Kind;)Ljava/util/Optional;"⟩ : MethodName) prog_2_method_4_code 5 (some (.object "java/util/Optional"))) ws ({ frames := 2, cells := 1, slots := 7, locals := 25 } : Room) #[(.ref px1)] h0 (fun v h L => (v = some (.ref (w27_EMPTY Z)) ∧ Fr n0 L ∧ Keep h0 h [])) := by
  refine own_met (own := "com/example/proviso/proviso/expression/ComparisonOperator") (plainFor_of_name pn0) rfl ?_
  intro p e s m below meth c s₁ hx hby hml hown hnm hret hlk hZ e0 X0
  refine own_cast (g' := (mkF m 0 #[.val (.ref px1), .unset, .unset, .unset, .unset] [])) (by first | (simp [entryFrame, mkF, argsToLocals, Value.category]; done) | rfl) ?_
  obtain ⟨_, T1, L1, X1, hQ1, st1⟩ := own_callS X0 hx hZ hown (hw _ (List.mem_of_getElem? (i := 47) rfl)) (hw _ (List.mem_of_getElem? (i := 48) rfl)) (hw _ (List.mem_of_getElem? (i := 45) rfl)) (hw _ (List.mem_of_getElem? (i := 49) rfl)) (by decide) (rm2_0 l Z a0 hw hA hS hF [] h0 n0 O0) (W := 0) (by decide) (by decide) [] rfl (lenOf pd1 rfl) (Ls := #[.val (.ref px1), .unset, .unset, .unset, .unset]) (by rw [hml]; rfl) (rest := []) (Nat.le_of_eq rfl) (hb hby d1_0) e0 (by decide) (by decide)
  refine st1 _ ?_
  obtain ⟨b2, k3, rfl, N1q, K1q, y1_0, F1_0, F1_1⟩ := hQ1
  have N1 := Fr.app (Fr.nil n0) N1q
  have g1_0 : n0 ≤ b2 := Nat.le_trans (O0.1 ▸ O0.2.1) y1_0
  have u1_0 : h0.size ≤ b2 := Nat.le_trans (Nat.le_refl _) y1_0
  have O1 := O0.keep K1q all0
  have K1 : Keep h0 T1.heap [] := Keep.trans (Keep.refl h0 []) K1q all0
  show own_Wp p e below _ T1 (mkF m 3 #[.val (.ref px1), .unset, .unset, .unset, .unset] [(.ref b2)])
  refine own_step (fun _ k => XS.astoreN X1.here hx rfl (hb hby d1_3) rfl rfl (l' := #[.val (.ref px1), .val (.ref b2), .unset, .unset, .unset]) rfl k) ?_
  show own_Wp p e below _ T1 (mkF m 4 #[.val (.ref px1), .val (.ref b2), .unset, .unset, .unset] [])
  refine own_step (fun _ k => XS.aloadN X1.here hx rfl (hb hby d1_4) rfl rfl k) ?_
  show own_Wp p e below _ T1 (mkF m 5 #[.val (.ref px1), .val (.ref b2), .unset, .unset, .unset] [(.ref b2)])
  obtain ⟨c4, r4, q4, t4, u4, y4h, y4g⟩ := id F1_0
  refine own_step (fun _ k => X1.arraylength hx r4.1 (State.isArrayOf_alike hZ.alike r4.2.1) (g := (mkF m 5 #[.val (.ref px1), .val (.ref b2), .unset, .unset, .unset] [(.ref b2)])) rfl rfl (hb hby d1_5) _ k) ?_
  rw [len_of t4 u4]
  show own_Wp p e below _ T1 (mkF m 6 #[.val (.ref px1), .val (.ref b2), .unset, .unset, .unset] [(.int (7 : Int32))])
  refine own_step (fun _ k => XS.istoreN X1.here hx rfl (hb hby d1_6) rfl (l' := #[.val (.ref px1), .val (.ref b2), .val (.int (7 : Int32)), .unset, .unset]) rfl k) ?_
  show own_Wp p e below _ T1 (mkF m 7 #[.val (.ref px1), .val (.ref b2), .val (.int (7 : Int32)), .unset, .unset] [])
  refine own_step (fun _ k => XS.iconst X1.here hx rfl (hb hby d1_7) k) ?_
  show own_Wp p e below _ T1 (mkF m 8 #[.val (.ref px1), .val (.ref b2), .val (.int (7 : Int32)), .unset, .unset] [(.int (0 : Int32))])
  refine own_step (fun _ k => XS.istoreN X1.here hx rfl (hb hby d1_8) rfl (l' := #[.val (.ref px1), .val (.ref b2), .val (.int (7 : Int32)), .val (.int (0 : Int32)), .unset]) rfl k) ?_
  show own_Wp p e below _ T1 (mkF m 9 #[.val (.ref px1), .val (.ref b2), .val (.int (7 : Int32)), .val (.int (0 : Int32)), .unset] [])
  refine own_step (fun _ k => XS.iloadN X1.here hx rfl (hb hby d1_9) rfl k) ?_
  show own_Wp p e below _ T1 (mkF m 10 #[.val (.ref px1), .val (.ref b2), .val (.int (7 : Int32)), .val (.int (0 : Int32)), .unset] [(.int (0 : Int32))])
  refine own_step (fun _ k => XS.iloadN X1.here hx rfl (hb hby d1_10) rfl k) ?_
  show own_Wp p e below _ T1 (mkF m 11 #[.val (.ref px1), .val (.ref b2), .val (.int (7 : Int32)), .val (.int (0 : Int32)), .unset] [(.int (7 : Int32)), (.int (0 : Int32))])
  refine own_step (fun _ k => XS.icmpNo X1.here hx rfl (hb hby d1_11) rfl (by decide) k) ?_
  show own_Wp p e below _ T1 (mkF m 14 #[.val (.ref px1), .val (.ref b2), .val (.int (7 : Int32)), .val (.int (0 : Int32)), .unset] [])
  refine own_step (fun _ k => XS.aloadN X1.here hx rfl (hb hby d1_14) rfl rfl k) ?_
  show own_Wp p e below _ T1 (mkF m 15 #[.val (.ref px1), .val (.ref b2), .val (.int (7 : Int32)), .val (.int (0 : Int32)), .unset] [(.ref b2)])
  refine own_step (fun _ k => XS.iloadN X1.here hx rfl (hb hby d1_15) rfl k) ?_
  show own_Wp p e below _ T1 (mkF m 16 #[.val (.ref px1), .val (.ref b2), .val (.int (7 : Int32)), .val (.int (0 : Int32)), .unset] [(.int (0 : Int32)), (.ref b2)])
  obtain ⟨c5, r5, q5, t5, u5, y5h, y5g⟩ := id F1_0
  have i5 : ¬ ((0 : Int32) < 0 ∨ c5.slots.size ≤ ((0 : Int32)).toNatClampNeg) := inb_of t5 ⟨by decide, by decide⟩
  refine own_step (fun _ k => X1.aaload hx (j := (0 : Int32)) (v := (.ref (w20_EQUAL Z))) r5.1 (State.isArrayOf_alike hZ.alike r5.2.1) rfl r5.2.2 i5 (own_get t5 y5h i5 0 rfl) (g := (mkF m 16 #[.val (.ref px1), .val (.ref b2), .val (.int (7 : Int32)), .val (.int (0 : Int32)), .unset] [(.int (0 : Int32)), (.ref b2)])) rfl rfl (hb hby d1_16) _ k) ?_
  show own_Wp p e below _ T1 (mkF m 17 #[.val (.ref px1), .val (.ref b2), .val (.int (7 : Int32)), .val (.int (0 : Int32)), .unset] [(.ref (w20_EQUAL Z))])
  refine own_step (fun _ k => XS.astore X1.here hx rfl (hb hby d1_17) rfl rfl (l' := #[.val (.ref px1), .val (.ref b2), .val (.int (7 : Int32)), .val (.int (0 : Int32)), .val (.ref (w20_EQUAL Z))]) rfl k) ?_
  show own_Wp p e below _ T1 (mkF m 19 #[.val (.ref px1), .val (.ref b2), .val (.int (7 : Int32)), .val (.int (0 : Int32)), .val (.ref (w20_EQUAL Z))] [])
  refine own_step (fun _ k => XS.aload X1.here hx rfl (hb hby d1_19) rfl rfl k) ?_
  show own_Wp p e below _ T1 (mkF m 21 #[.val (.ref px1), .val (.ref b2), .val (.int (7 : Int32)), .val (.int (0 : Int32)), .val (.ref (w20_EQUAL Z))] [(.ref (w20_EQUAL Z))])
  obtain ⟨T6, X6, e6, st6⟩ := getF X1 hx hZ hown (host := "") (Or.inl (hw _ (List.mem_of_getElem? (i := 69) rfl))) Via.refl rfl ((fl0 hw hA hS hF).ext O1.2) (g := (mkF m 21 #[.val (.ref px1), .val (.ref b2), .val (.int (7 : Int32)), .val (.int (0 : Int32)), .val (.ref (w20_EQUAL Z))] [(.ref (w20_EQUAL Z))])) rfl rfl (hb hby d1_21)
  refine own_step st6 ?_
  show own_Wp p e below _ T6 (mkF m 24 #[.val (.ref px1), .val (.ref b2), .val (.int (7 : Int32)), .val (.int (0 : Int32)), .val (.ref (w20_EQUAL Z))] [(.ref (w9_EQUAL Z))])
  refine own_step (fun _ k => XS.aloadN X6.here hx rfl (hb hby d1_24) rfl rfl k) ?_
  show own_Wp p e below _ T6 (mkF m 25 #[.val (.ref px1), .val (.ref b2), .val (.int (7 : Int32)), .val (.int (0 : Int32)), .val (.ref (w20_EQUAL Z))] [(.ref px1), (.ref (w9_EQUAL Z))])
  refine own_step (fun _ k => Jvm.RoadKit.acmp (g := (mkF m 25 #[.val (.ref px1), .val (.ref b2), .val (.int (7 : Int32)), .val (.int (0 : Int32)), .val (.ref (w20_EQUAL Z))] [(.ref px1), (.ref (w9_EQUAL Z))])) X6 hx rfl rfl rfl (pc0 := 25) (pc' := 34) (same := false) rfl (hb hby d1_25) rfl (decide_eq_false fun q => D0 (Value.ref.inj q)) (by decide) (by decide) k) ?_
  show own_Wp p e below _ T6 (mkF m 34 #[.val (.ref px1), .val (.ref b2), .val (.int (7 : Int32)), .val (.int (0 : Int32)), .val (.ref (w20_EQUAL Z))] [])
  refine own_step (fun _ k => XS.iinc X6.here hx rfl (hb hby d1_34) rfl (l' := #[.val (.ref px1), .val (.ref b2), .val (.int (7 : Int32)), .val (.int ((0 : Int32) + (1 : Int32))), .val (.ref (w20_EQUAL Z))]) rfl k) ?_
  show own_Wp p e below _ T6 (mkF m 37 #[.val (.ref px1), .val (.ref b2), .val (.int (7 : Int32)), .val (.int ((0 : Int32) + (1 : Int32))), .val (.ref (w20_EQUAL Z))] [])
  rw [(by decide : ((0 : Int32) + (1 : Int32)) = (1 : Int32))]
  show own_Wp p e below _ T6 (mkF m 37 #[.val (.ref px1), .val (.ref b2), .val (.int (7 : Int32)), .val (.int (1 : Int32)), .val (.ref (w20_EQUAL Z))] [])
  refine own_step (fun _ k => XS.goto X6.here hx rfl (pc0 := 37) (pc' := 9) rfl (hb hby d1_37) (by decide) (by decide) k) ?_
  show own_Wp p e below _ T6 (mkF m 9 #[.val (.ref px1), .val (.ref b2), .val (.int (7 : Int32)), .val (.int (1 : Int32)), .val (.ref (w20_EQUAL Z))] [])
  refine own_step (fun _ k => XS.iloadN X6.here hx rfl (hb hby d1_9) rfl k) ?_
  show own_Wp p e below _ T6 (mkF m 10 #[.val (.ref px1), .val (.ref b2), .val (.int (7 : Int32)), .val (.int (1 : Int32)), .val (.ref (w20_EQUAL Z))] [(.int (1 : Int32))])
  refine own_step (fun _ k => XS.iloadN X6.here hx rfl (hb hby d1_10) rfl k) ?_
  show own_Wp p e below _ T6 (mkF m 11 #[.val (.ref px1), .val (.ref b2), .val (.int (7 : Int32)), .val (.int (1 : Int32)), .val (.ref (w20_EQUAL Z))] [(.int (7 : Int32)), (.int (1 : Int32))])
  refine own_step (fun _ k => XS.icmpNo X6.here hx rfl (hb hby d1_11) rfl (by decide) k) ?_
  show own_Wp p e below _ T6 (mkF m 14 #[.val (.ref px1), .val (.ref b2), .val (.int (7 : Int32)), .val (.int (1 : Int32)), .val (.ref (w20_EQUAL Z))] [])
  refine own_step (fun _ k => XS.aloadN X6.here hx rfl (hb hby d1_14) rfl rfl k) ?_
  show own_Wp p e below _ T6 (mkF m 15 #[.val (.ref px1), .val (.ref b2), .val (.int (7 : Int32)), .val (.int (1 : Int32)), .val (.ref (w20_EQUAL Z))] [(.ref b2)])
  refine own_step (fun _ k => XS.iloadN X6.here hx rfl (hb hby d1_15) rfl k) ?_
  show own_Wp p e below _ T6 (mkF m 16 #[.val (.ref px1), .val (.ref b2), .val (.int (7 : Int32)), .val (.int (1 : Int32)), .val (.ref (w20_EQUAL Z))] [(.int (1 : Int32)), (.ref b2)])
  obtain ⟨c7, r7, q7, t7, u7, y7h, y7g⟩ := id F1_0
  have i7 : ¬ ((1 : Int32) < 0 ∨ c7.slots.size ≤ ((1 : Int32)).toNatClampNeg) := inb_of t7 ⟨by decide, by decide⟩
  refine own_step (fun _ k => X6.aaload hx (j := (1 : Int32)) (v := (.ref (w21_NOT_EQUAL Z))) (by rw [e6]; exact r7.1) (State.isArrayOf_alike hZ.alike r7.2.1) rfl r7.2.2 i7 (own_get t7 y7h i7 1 rfl) (g := (mkF m 16 #[.val (.ref px1), .val (.ref b2), .val (.int (7 : Int32)), .val (.int (1 : Int32)), .val (.ref (w20_EQUAL Z))] [(.int (1 : Int32)), (.ref b2)])) rfl rfl (hb hby d1_16) _ k) ?_
  show own_Wp p e below _ T6 (mkF m 17 #[.val (.ref px1), .val (.ref b2), .val (.int (7 : Int32)), .val (.int (1 : Int32)), .val (.ref (w20_EQUAL Z))] [(.ref (w21_NOT_EQUAL Z))])
  refine own_step (fun _ k => XS.astore X6.here hx rfl (hb hby d1_17) rfl rfl (l' := #[.val (.ref px1), .val (.ref b2), .val (.int (7 : Int32)), .val (.int (1 : Int32)), .val (.ref (w21_NOT_EQUAL Z))]) rfl k) ?_
  show own_Wp p e below _ T6 (mkF m 19 #[.val (.ref px1), .val (.ref b2), .val (.int (7 : Int32)), .val (.int (1 : Int32)), .val (.ref (w21_NOT_EQUAL Z))] [])
  refine own_step (fun _ k => XS.aload X6.here hx rfl (hb hby d1_19) rfl rfl k) ?_
  show own_Wp p e below _ T6 (mkF m 21 #[.val (.ref px1), .val (.ref b2), .val (.int (7 : Int32)), .val (.int (1 : Int32)), .val (.ref (w21_NOT_EQUAL Z))] [(.ref (w21_NOT_EQUAL Z))])
  obtain ⟨T8, X8, e8, st8⟩ := getF X6 hx hZ hown (host := "") (Or.inl (hw _ (List.mem_of_getElem? (i := 69) rfl))) Via.refl e6 ((fl3 hw hA hS hF).ext O1.2) (g := (mkF m 21 #[.val (.ref px1), .val (.ref b2), .val (.int (7 : Int32)), .val (.int (1 : Int32)), .val (.ref (w21_NOT_EQUAL Z))] [(.ref (w21_NOT_EQUAL Z))])) rfl rfl (hb hby d1_21)
  refine own_step st8 ?_
  show own_Wp p e below _ T8 (mkF m 24 #[.val (.ref px1), .val (.ref b2), .val (.int (7 : Int32)), .val (.int (1 : Int32)), .val (.ref (w21_NOT_EQUAL Z))] [(.ref (w10_NOT_EQUAL Z))])
  refine own_step (fun _ k => XS.aloadN X8.here hx rfl (hb hby d1_24) rfl rfl k) ?_
  show own_Wp p e below _ T8 (mkF m 25 #[.val (.ref px1), .val (.ref b2), .val (.int (7 : Int32)), .val (.int (1 : Int32)), .val (.ref (w21_NOT_EQUAL Z))] [(.ref px1), (.ref (w10_NOT_EQUAL Z))])
  refine own_step (fun _ k => Jvm.RoadKit.acmp (g := (mkF m 25 #[.val (.ref px1), .val (.ref b2), .val (.int (7 : Int32)), .val (.int (1 : Int32)), .val (.ref (w21_NOT_EQUAL Z))] [(.ref px1), (.ref (w10_NOT_EQUAL Z))])) X8 hx rfl rfl rfl (pc0 := 25) (pc' := 34) (same := false) rfl (hb hby d1_25) rfl (decide_eq_false fun q => D1 (Value.ref.inj q)) (by decide) (by decide) k) ?_
  show own_Wp p e below _ T8 (mkF m 34 #[.val (.ref px1), .val (.ref b2), .val (.int (7 : Int32)), .val (.int (1 : Int32)), .val (.ref (w21_NOT_EQUAL Z))] [])
  refine own_step (fun _ k => XS.iinc X8.here hx rfl (hb hby d1_34) rfl (l' := #[.val (.ref px1), .val (.ref b2), .val (.int (7 : Int32)), .val (.int ((1 : Int32) + (1 : Int32))), .val (.ref (w21_NOT_EQUAL Z))]) rfl k) ?_
  show own_Wp p e below _ T8 (mkF m 37 #[.val (.ref px1), .val (.ref b2), .val (.int (7 : Int32)), .val (.int ((1 : Int32) + (1 : Int32))), .val (.ref (w21_NOT_EQUAL Z))] [])
  rw [(by decide : ((1 : Int32) + (1 : Int32)) = (2 : Int32))]
  show own_Wp p e below _ T8 (mkF m 37 #[.val (.ref px1), .val (.ref b2), .val (.int (7 : Int32)), .val (.int (2 : Int32)), .val (.ref (w21_NOT_EQUAL Z))] [])
  refine own_step (fun _ k => XS.goto X8.here hx rfl (pc0 := 37) (pc' := 9) rfl (hb hby d1_37) (by decide) (by decide) k) ?_
  show own_Wp p e below _ T8 (mkF m 9 #[.val (.ref px1), .val (.ref b2), .val (.int (7 : Int32)), .val (.int (2 : Int32)), .val (.ref (w21_NOT_EQUAL Z))] [])
  refine own_step (fun _ k => XS.iloadN X8.here hx rfl (hb hby d1_9) rfl k) ?_
  show own_Wp p e below _ T8 (mkF m 10 #[.val (.ref px1), .val (.ref b2), .val (.int (7 : Int32)), .val (.int (2 : Int32)), .val (.ref (w21_NOT_EQUAL Z))] [(.int (2 : Int32))])
  refine own_step (fun _ k => XS.iloadN X8.here hx rfl (hb hby d1_10) rfl k) ?_
  show own_Wp p e below _ T8 (mkF m 11 #[.val (.ref px1), .val (.ref b2), .val (.int (7 : Int32)), .val (.int (2 : Int32)), .val (.ref (w21_NOT_EQUAL Z))] [(.int (7 : Int32)), (.int (2 : Int32))])
  refine own_step (fun _ k => XS.icmpNo X8.here hx rfl (hb hby d1_11) rfl (by decide) k) ?_
  show own_Wp p e below _ T8 (mkF m 14 #[.val (.ref px1), .val (.ref b2), .val (.int (7 : Int32)), .val (.int (2 : Int32)), .val (.ref (w21_NOT_EQUAL Z))] [])
  refine own_step (fun _ k => XS.aloadN X8.here hx rfl (hb hby d1_14) rfl rfl k) ?_
  show own_Wp p e below _ T8 (mkF m 15 #[.val (.ref px1), .val (.ref b2), .val (.int (7 : Int32)), .val (.int (2 : Int32)), .val (.ref (w21_NOT_EQUAL Z))] [(.ref b2)])
  refine own_step (fun _ k => XS.iloadN X8.here hx rfl (hb hby d1_15) rfl k) ?_
  show own_Wp p e below _ T8 (mkF m 16 #[.val (.ref px1), .val (.ref b2), .val (.int (7 : Int32)), .val (.int (2 : Int32)), .val (.ref (w21_NOT_EQUAL Z))] [(.int (2 : Int32)), (.ref b2)])
  obtain ⟨c9, r9, q9, t9, u9, y9h, y9g⟩ := id F1_0
  have i9 : ¬ ((2 : Int32) < 0 ∨ c9.slots.size ≤ ((2 : Int32)).toNatClampNeg) := inb_of t9 ⟨by decide, by decide⟩
  refine own_step (fun _ k => X8.aaload hx (j := (2 : Int32)) (v := (.ref (w22_MATCH Z))) (by rw [e8]; exact r9.1) (State.isArrayOf_alike hZ.alike r9.2.1) rfl r9.2.2 i9 (own_get t9 y9h i9 2 rfl) (g := (mkF m 16 #[.val (.ref px1), .val (.ref b2), .val (.int (7 : Int32)), .val (.int (2 : Int32)), .val (.ref (w21_NOT_EQUAL Z))] [(.int (2 : Int32)), (.ref b2)])) rfl rfl (hb hby d1_16) _ k) ?_
  show own_Wp p e below _ T8 (mkF m 17 #[.val (.ref px1), .val (.ref b2), .val (.int (7 : Int32)), .val (.int (2 : Int32)), .val (.ref (w21_NOT_EQUAL Z))] [(.ref (w22_MATCH Z))])
  refine own_step (fun _ k => XS.astore X8.here hx rfl (hb hby d1_17) rfl rfl (l' := #[.val (.ref px1), .val (.ref b2), .val (.int (7 : Int32)), .val (.int (2 : Int32)), .val (.ref (w22_MATCH Z))]) rfl k) ?_
  show own_Wp p e below _ T8 (mkF m 19 #[.val (.ref px1), .val (.ref b2), .val (.int (7 : Int32)), .val (.int (2 : Int32)), .val (.ref (w22_MATCH Z))] [])
  refine own_step (fun _ k => XS.aload X8.here hx rfl (hb hby d1_19) rfl rfl k) ?_
  show own_Wp p e below _ T8 (mkF m 21 #[.val (.ref px1), .val (.ref b2), .val (.int (7 : Int32)), .val (.int (2 : Int32)), .val (.ref (w22_MATCH Z))] [(.ref (w22_MATCH Z))])
  obtain ⟨T10, X10, e10, st10⟩ := getF X8 hx hZ hown (host := "") (Or.inl (hw _ (List.mem_of_getElem? (i := 69) rfl))) Via.refl e8 ((fl5 hw hA hS hF).ext O1.2) (g := (mkF m 21 #[.val (.ref px1), .val (.ref b2), .val (.int (7 : Int32)), .val (.int (2 : Int32)), .val (.ref (w22_MATCH Z))] [(.ref (w22_MATCH Z))])) rfl rfl (hb hby d1_21)
  refine own_step st10 ?_
  show own_Wp p e below _ T10 (mkF m 24 #[.val (.ref px1), .val (.ref b2), .val (.int (7 : Int32)), .val (.int (2 : Int32)), .val (.ref (w22_MATCH Z))] [(.ref (w11_MATCH Z))])
  refine own_step (fun _ k => XS.aloadN X10.here hx rfl (hb hby d1_24) rfl rfl k) ?_
  show own_Wp p e below _ T10 (mkF m 25 #[.val (.ref px1), .val (.ref b2), .val (.int (7 : Int32)), .val (.int (2 : Int32)), .val (.ref (w22_MATCH Z))] [(.ref px1), (.ref (w11_MATCH Z))])
  refine own_step (fun _ k => Jvm.RoadKit.acmp (g := (mkF m 25 #[.val (.ref px1), .val (.ref b2), .val (.int (7 : Int32)), .val (.int (2 : Int32)), .val (.ref (w22_MATCH Z))] [(.ref px1), (.ref (w11_MATCH Z))])) X10 hx rfl rfl rfl (pc0 := 25) (pc' := 34) (same := false) rfl (hb hby d1_25) rfl (decide_eq_false fun q => D2 (Value.ref.inj q)) (by decide) (by decide) k) ?_
  show own_Wp p e below _ T10 (mkF m 34 #[.val (.ref px1), .val (.ref b2), .val (.int (7 : Int32)), .val (.int (2 : Int32)), .val (.ref (w22_MATCH Z))] [])
  refine own_step (fun _ k => XS.iinc X10.here hx rfl (hb hby d1_34) rfl (l' := #[.val (.ref px1), .val (.ref b2), .val (.int (7 : Int32)), .val (.int ((2 : Int32) + (1 : Int32))), .val (.ref (w22_MATCH Z))]) rfl k) ?_
  show own_Wp p e below _ T10 (mkF m 37 #[.val (.ref px1), .val (.ref b2), .val (.int (7 : Int32)), .val (.int ((2 : Int32) + (1 : Int32))), .val (.ref (w22_MATCH Z))] [])
  rw [(by decide : ((2 : Int32) + (1 : Int32)) = (3 : Int32))]
  show own_Wp p e below _ T10 (mkF m 37 #[.val (.ref px1), .val (.ref b2), .val (.int (7 : Int32)), .val (.int (3 : Int32)), .val (.ref (w22_MATCH Z))] [])
  refine own_step (fun _ k => XS.goto X10.here hx rfl (pc0 := 37) (pc' := 9) rfl (hb hby d1_37) (by decide) (by decide) k) ?_
  show own_Wp p e below _ T10 (mkF m 9 #[.val (.ref px1), .val (.ref b2), .val (.int (7 : Int32)), .val (.int (3 : Int32)), .val (.ref (w22_MATCH Z))] [])
  refine own_step (fun _ k => XS.iloadN X10.here hx rfl (hb hby d1_9) rfl k) ?_
  show own_Wp p e below _ T10 (mkF m 10 #[.val (.ref px1), .val (.ref b2), .val (.int (7 : Int32)), .val (.int (3 : Int32)), .val (.ref (w22_MATCH Z))] [(.int (3 : Int32))])
  refine own_step (fun _ k => XS.iloadN X10.here hx rfl (hb hby d1_10) rfl k) ?_
  show own_Wp p e below _ T10 (mkF m 11 #[.val (.ref px1), .val (.ref b2), .val (.int (7 : Int32)), .val (.int (3 : Int32)), .val (.ref (w22_MATCH Z))] [(.int (7 : Int32)), (.int (3 : Int32))])
  refine own_step (fun _ k => XS.icmpNo X10.here hx rfl (hb hby d1_11) rfl (by decide) k) ?_
  show own_Wp p e below _ T10 (mkF m 14 #[.val (.ref px1), .val (.ref b2), .val (.int (7 : Int32)), .val (.int (3 : Int32)), .val (.ref (w22_MATCH Z))] [])
  refine own_step (fun _ k => XS.aloadN X10.here hx rfl (hb hby d1_14) rfl rfl k) ?_
  show own_Wp p e below _ T10 (mkF m 15 #[.val (.ref px1), .val (.ref b2), .val (.int (7 : Int32)), .val (.int (3 : Int32)), .val (.ref (w22_MATCH Z))] [(.ref b2)])
  refine own_step (fun _ k => XS.iloadN X10.here hx rfl (hb hby d1_15) rfl k) ?_
  show own_Wp p e below _ T10 (mkF m 16 #[.val (.ref px1), .val (.ref b2), .val (.int (7 : Int32)), .val (.int (3 : Int32)), .val (.ref (w22_MATCH Z))] [(.int (3 : Int32)), (.ref b2)])
  obtain ⟨c11, r11, q11, t11, u11, y11h, y11g⟩ := id F1_0
  have i11 : ¬ ((3 : Int32) < 0 ∨ c11.slots.size ≤ ((3 : Int32)).toNatClampNeg) := inb_of t11 ⟨by decide, by decide⟩
  refine own_step (fun _ k => X10.aaload hx (j := (3 : Int32)) (v := (.ref (w23_LESS Z))) (by rw [e10]; exact r11.1) (State.isArrayOf_alike hZ.alike r11.2.1) rfl r11.2.2 i11 (own_get t11 y11h i11 3 rfl) (g := (mkF m 16 #[.val (.ref px1), .val (.ref b2), .val (.int (7 : Int32)), .val (.int (3 : Int32)), .val (.ref (w22_MATCH Z))] [(.int (3 : Int32)), (.ref b2)])) rfl rfl (hb hby d1_16) _ k) ?_
  show own_Wp p e below _ T10 (mkF m 17 #[.val (.ref px1), .val (.ref b2), .val (.int (7 : Int32)), .val (.int (3 : Int32)), .val (.ref (w22_MATCH Z))] [(.ref (w23_LESS Z))])
  refine own_step (fun _ k => XS.astore X10.here hx rfl (hb hby d1_17) rfl rfl (l' := #[.val (.ref px1), .val (.ref b2), .val (.int (7 : Int32)), .val (.int (3 : Int32)), .val (.ref (w23_LESS Z))]) rfl k) ?_
  show own_Wp p e below _ T10 (mkF m 19 #[.val (.ref px1), .val (.ref b2), .val (.int (7 : Int32)), .val (.int (3 : Int32)), .val (.ref (w23_LESS Z))] [])
  refine own_step (fun _ k => XS.aload X10.here hx rfl (hb hby d1_19) rfl rfl k) ?_
  show own_Wp p e below _ T10 (mkF m 21 #[.val (.ref px1), .val (.ref b2), .val (.int (7 : Int32)), .val (.int (3 : Int32)), .val (.ref (w23_LESS Z))] [(.ref (w23_LESS Z))])
  obtain ⟨T12, X12, e12, st12⟩ := getF X10 hx hZ hown (host := "") (Or.inl (hw _ (List.mem_of_getElem? (i := 69) rfl))) Via.refl e10 ((fl7 hw hA hS hF).ext O1.2) (g := (mkF m 21 #[.val (.ref px1), .val (.ref b2), .val (.int (7 : Int32)), .val (.int (3 : Int32)), .val (.ref (w23_LESS Z))] [(.ref (w23_LESS Z))])) rfl rfl (hb hby d1_21)
  refine own_step st12 ?_
  show own_Wp p e below _ T12 (mkF m 24 #[.val (.ref px1), .val (.ref b2), .val (.int (7 : Int32)), .val (.int (3 : Int32)), .val (.ref (w23_LESS Z))] [(.ref (w13_LESS Z))])
  refine own_step (fun _ k => XS.aloadN X12.here hx rfl (hb hby d1_24) rfl rfl k) ?_
  show own_Wp p e below _ T12 (mkF m 25 #[.val (.ref px1), .val (.ref b2), .val (.int (7 : Int32)), .val (.int (3 : Int32)), .val (.ref (w23_LESS Z))] [(.ref px1), (.ref (w13_LESS Z))])
  refine own_step (fun _ k => Jvm.RoadKit.acmp (g := (mkF m 25 #[.val (.ref px1), .val (.ref b2), .val (.int (7 : Int32)), .val (.int (3 : Int32)), .val (.ref (w23_LESS Z))] [(.ref px1), (.ref (w13_LESS Z))])) X12 hx rfl rfl rfl (pc0 := 25) (pc' := 34) (same := false) rfl (hb hby d1_25) rfl (decide_eq_false fun q => D3 (Value.ref.inj q)) (by decide) (by decide) k) ?_
  show own_Wp p e below _ T12 (mkF m 34 #[.val (.ref px1), .val (.ref b2), .val (.int (7 : Int32)), .val (.int (3 : Int32)), .val (.ref (w23_LESS Z))] [])
  refine own_step (fun _ k => XS.iinc X12.here hx rfl (hb hby d1_34) rfl (l' := #[.val (.ref px1), .val (.ref b2), .val (.int (7 : Int32)), .val (.int ((3 : Int32) + (1 : Int32))), .val (.ref (w23_LESS Z))]) rfl k) ?_
  show own_Wp p e below _ T12 (mkF m 37 #[.val (.ref px1), .val (.ref b2), .val (.int (7 : Int32)), .val (.int ((3 : Int32) + (1 : Int32))), .val (.ref (w23_LESS Z))] [])
  rw [(by decide : ((3 : Int32) + (1 : Int32)) = (4 : Int32))]
  show own_Wp p e below _ T12 (mkF m 37 #[.val (.ref px1), .val (.ref b2), .val (.int (7 : Int32)), .val (.int (4 : Int32)), .val (.ref (w23_LESS Z))] [])
  refine own_step (fun _ k => XS.goto X12.here hx rfl (pc0 := 37) (pc' := 9) rfl (hb hby d1_37) (by decide) (by decide) k) ?_
  show own_Wp p e below _ T12 (mkF m 9 #[.val (.ref px1), .val (.ref b2), .val (.int (7 : Int32)), .val (.int (4 : Int32)), .val (.ref (w23_LESS Z))] [])
  refine own_step (fun _ k => XS.iloadN X12.here hx rfl (hb hby d1_9) rfl k) ?_
  show own_Wp p e below _ T12 (mkF m 10 #[.val (.ref px1), .val (.ref b2), .val (.int (7 : Int32)), .val (.int (4 : Int32)), .val (.ref (w23_LESS Z))] [(.int (4 : Int32))])
  refine own_step (fun _ k => XS.iloadN X12.here hx rfl (hb hby d1_10) rfl k) ?_
  show own_Wp p e below _ T12 (mkF m 11 #[.val (.ref px1), .val (.ref b2), .val (.int (7 : Int32)), .val (.int (4 : Int32)), .val (.ref (w23_LESS Z))] [(.int (7 : Int32)), (.int (4 : Int32))])
  refine own_step (fun _ k => XS.icmpNo X12.here hx rfl (hb hby d1_11) rfl (by decide) k) ?_
  show own_Wp p e below _ T12 (mkF m 14 #[.val (.ref px1), .val (.ref b2), .val (.int (7 : Int32)), .val (.int (4 : Int32)), .val (.ref (w23_LESS Z))] [])
  refine own_step (fun _ k => XS.aloadN X12.here hx rfl (hb hby d1_14) rfl rfl k) ?_
  show own_Wp p e below _ T12 (mkF m 15 #[.val (.ref px1), .val (.ref b2), .val (.int (7 : Int32)), .val (.int (4 : Int32)), .val (.ref (w23_LESS Z))] [(.ref b2)])
  refine own_step (fun _ k => XS.iloadN X12.here hx rfl (hb hby d1_15) rfl k) ?_
  show own_Wp p e below _ T12 (mkF m 16 #[.val (.ref px1), .val (.ref b2), .val (.int (7 : Int32)), .val (.int (4 : Int32)), .val (.ref (w23_LESS Z))] [(.int (4 : Int32)), (.ref b2)])
  obtain ⟨c13, r13, q13, t13, u13, y13h, y13g⟩ := id F1_0
  have i13 : ¬ ((4 : Int32) < 0 ∨ c13.slots.size ≤ ((4 : Int32)).toNatClampNeg) := inb_of t13 ⟨by decide, by decide⟩
  refine own_step (fun _ k => X12.aaload hx (j := (4 : Int32)) (v := (.ref (w24_LESS_EQUAL Z))) (by rw [e12]; exact r13.1) (State.isArrayOf_alike hZ.alike r13.2.1) rfl r13.2.2 i13 (own_get t13 y13h i13 4 rfl) (g := (mkF m 16 #[.val (.ref px1), .val (.ref b2), .val (.int (7 : Int32)), .val (.int (4 : Int32)), .val (.ref (w23_LESS Z))] [(.int (4 : Int32)), (.ref b2)])) rfl rfl (hb hby d1_16) _ k) ?_
  show own_Wp p e below _ T12 (mkF m 17 #[.val (.ref px1), .val (.ref b2), .val (.int (7 : Int32)), .val (.int (4 : Int32)), .val (.ref (w23_LESS Z))] [(.ref (w24_LESS_EQUAL Z))])
  refine own_step (fun _ k => XS.astore X12.here hx rfl (hb hby d1_17) rfl rfl (l' := #[.val (.ref px1), .val (.ref b2), .val (.int (7 : Int32)), .val (.int (4 : Int32)), .val (.ref (w24_LESS_EQUAL Z))]) rfl k) ?_
  show own_Wp p e below _ T12 (mkF m 19 #[.val (.ref px1), .val (.ref b2), .val (.int (7 : Int32)), .val (.int (4 : Int32)), .val (.ref (w24_LESS_EQUAL Z))] [])
  refine own_step (fun _ k => XS.aload X12.here hx rfl (hb hby d1_19) rfl rfl k) ?_
  show own_Wp p e below _ T12 (mkF m 21 #[.val (.ref px1), .val (.ref b2), .val (.int (7 : Int32)), .val (.int (4 : Int32)), .val (.ref (w24_LESS_EQUAL Z))] [(.ref (w24_LESS_EQUAL Z))])
  obtain ⟨T14, X14, e14, st14⟩ := getF X12 hx hZ hown (host := "") (Or.inl (hw _ (List.mem_of_getElem? (i := 69) rfl))) Via.refl e12 ((fl9 hw hA hS hF).ext O1.2) (g := (mkF m 21 #[.val (.ref px1), .val (.ref b2), .val (.int (7 : Int32)), .val (.int (4 : Int32)), .val (.ref (w24_LESS_EQUAL Z))] [(.ref (w24_LESS_EQUAL Z))])) rfl rfl (hb hby d1_21)
  refine own_step st14 ?_
  show own_Wp p e below _ T14 (mkF m 24 #[.val (.ref px1), .val (.ref b2), .val (.int (7 : Int32)), .val (.int (4 : Int32)), .val (.ref (w24_LESS_EQUAL Z))] [(.ref (w12_LESS_EQUAL Z))])
  refine own_step (fun _ k => XS.aloadN X14.here hx rfl (hb hby d1_24) rfl rfl k) ?_
  show own_Wp p e below _ T14 (mkF m 25 #[.val (.ref px1), .val (.ref b2), .val (.int (7 : Int32)), .val (.int (4 : Int32)), .val (.ref (w24_LESS_EQUAL Z))] [(.ref px1), (.ref (w12_LESS_EQUAL Z))])
  refine own_step (fun _ k => Jvm.RoadKit.acmp (g := (mkF m 25 #[.val (.ref px1), .val (.ref b2), .val (.int (7 : Int32)), .val (.int (4 : Int32)), .val (.ref (w24_LESS_EQUAL Z))] [(.ref px1), (.ref (w12_LESS_EQUAL Z))])) X14 hx rfl rfl rfl (pc0 := 25) (pc' := 34) (same := false) rfl (hb hby d1_25) rfl (decide_eq_false fun q => D4 (Value.ref.inj q)) (by decide) (by decide) k) ?_
  show own_Wp p e below _ T14 (mkF m 34 #[.val (.ref px1), .val (.ref b2), .val (.int (7 : Int32)), .val (.int (4 : Int32)), .val (.ref (w24_LESS_EQUAL Z))] [])
  refine own_step (fun _ k => XS.iinc X14.here hx rfl (hb hby d1_34) rfl (l' := #[.val (.ref px1), .val (.ref b2), .val (.int (7 : Int32)), .val (.int ((4 : Int32) + (1 : Int32))), .val (.ref (w24_LESS_EQUAL Z))]) rfl k) ?_
  show own_Wp p e below _ T14 (mkF m 37 #[.val (.ref px1), .val (.ref b2), .val (.int (7 : Int32)), .val (.int ((4 : Int32) + (1 : Int32))), .val (.ref (w24_LESS_EQUAL Z))] [])
  rw [(by decide : ((4 : Int32) + (1 : Int32)) = (5 : Int32))]
  show own_Wp p e below _ T14 (mkF m 37 #[.val (.ref px1), .val (.ref b2), .val (.int (7 : Int32)), .val (.int (5 : Int32)), .val (.ref (w24_LESS_EQUAL Z))] [])
  refine own_step (fun _ k => XS.goto X14.here hx rfl (pc0 := 37) (pc' := 9) rfl (hb hby d1_37) (by decide) (by decide) k) ?_
  show own_Wp p e below _ T14 (mkF m 9 #[.val (.ref px1), .val (.ref b2), .val (.int (7 : Int32)), .val (.int (5 : Int32)), .val (.ref (w24_LESS_EQUAL Z))] [])
  refine own_step (fun _ k => XS.iloadN X14.here hx rfl (hb hby d1_9) rfl k) ?_
  show own_Wp p e below _ T14 (mkF m 10 #[.val (.ref px1), .val (.ref b2), .val (.int (7 : Int32)), .val (.int (5 : Int32)), .val (.ref (w24_LESS_EQUAL Z))] [(.int (5 : Int32))])
  refine own_step (fun _ k => XS.iloadN X14.here hx rfl (hb hby d1_10) rfl k) ?_
  show own_Wp p e below _ T14 (mkF m 11 #[.val (.ref px1), .val (.ref b2), .val (.int (7 : Int32)), .val (.int (5 : Int32)), .val (.ref (w24_LESS_EQUAL Z))] [(.int (7 : Int32)), (.int (5 : Int32))])
  refine own_step (fun _ k => XS.icmpNo X14.here hx rfl (hb hby d1_11) rfl (by decide) k) ?_
  show own_Wp p e below _ T14 (mkF m 14 #[.val (.ref px1), .val (.ref b2), .val (.int (7 : Int32)), .val (.int (5 : Int32)), .val (.ref (w24_LESS_EQUAL Z))] [])
  refine own_step (fun _ k => XS.aloadN X14.here hx rfl (hb hby d1_14) rfl rfl k) ?_
  show own_Wp p e below _ T14 (mkF m 15 #[.val (.ref px1), .val (.ref b2), .val (.int (7 : Int32)), .val (.int (5 : Int32)), .val (.ref (w24_LESS_EQUAL Z))] [(.ref b2)])
  refine own_step (fun _ k => XS.iloadN X14.here hx rfl (hb hby d1_15) rfl k) ?_
  show own_Wp p e below _ T14 (mkF m 16 #[.val (.ref px1), .val (.ref b2), .val (.int (7 : Int32)), .val (.int (5 : Int32)), .val (.ref (w24_LESS_EQUAL Z))] [(.int (5 : Int32)), (.ref b2)])
  obtain ⟨c15, r15, q15, t15, u15, y15h, y15g⟩ := id F1_0
  have i15 : ¬ ((5 : Int32) < 0 ∨ c15.slots.size ≤ ((5 : Int32)).toNatClampNeg) := inb_of t15 ⟨by decide, by decide⟩
  refine own_step (fun _ k => X14.aaload hx (j := (5 : Int32)) (v := (.ref (w25_GREATER Z))) (by rw [e14]; exact r15.1) (State.isArrayOf_alike hZ.alike r15.2.1) rfl r15.2.2 i15 (own_get t15 y15h i15 5 rfl) (g := (mkF m 16 #[.val (.ref px1), .val (.ref b2), .val (.int (7 : Int32)), .val (.int (5 : Int32)), .val (.ref (w24_LESS_EQUAL Z))] [(.int (5 : Int32)), (.ref b2)])) rfl rfl (hb hby d1_16) _ k) ?_
  show own_Wp p e below _ T14 (mkF m 17 #[.val (.ref px1), .val (.ref b2), .val (.int (7 : Int32)), .val (.int (5 : Int32)), .val (.ref (w24_LESS_EQUAL Z))] [(.ref (w25_GREATER Z))])
  refine own_step (fun _ k => XS.astore X14.here hx rfl (hb hby d1_17) rfl rfl (l' := #[.val (.ref px1), .val (.ref b2), .val (.int (7 : Int32)), .val (.int (5 : Int32)), .val (.ref (w25_GREATER Z))]) rfl k) ?_
  show own_Wp p e below _ T14 (mkF m 19 #[.val (.ref px1), .val (.ref b2), .val (.int (7 : Int32)), .val (.int (5 : Int32)), .val (.ref (w25_GREATER Z))] [])
  refine own_step (fun _ k => XS.aload X14.here hx rfl (hb hby d1_19) rfl rfl k) ?_
  show own_Wp p e below _ T14 (mkF m 21 #[.val (.ref px1), .val (.ref b2), .val (.int (7 : Int32)), .val (.int (5 : Int32)), .val (.ref (w25_GREATER Z))] [(.ref (w25_GREATER Z))])
  obtain ⟨T16, X16, e16, st16⟩ := getF X14 hx hZ hown (host := "") (Or.inl (hw _ (List.mem_of_getElem? (i := 69) rfl))) Via.refl e14 ((fl11 hw hA hS hF).ext O1.2) (g := (mkF m 21 #[.val (.ref px1), .val (.ref b2), .val (.int (7 : Int32)), .val (.int (5 : Int32)), .val (.ref (w25_GREATER Z))] [(.ref (w25_GREATER Z))])) rfl rfl (hb hby d1_21)
  refine own_step st16 ?_
  show own_Wp p e below _ T16 (mkF m 24 #[.val (.ref px1), .val (.ref b2), .val (.int (7 : Int32)), .val (.int (5 : Int32)), .val (.ref (w25_GREATER Z))] [(.ref (w15_GREATER Z))])
  refine own_step (fun _ k => XS.aloadN X16.here hx rfl (hb hby d1_24) rfl rfl k) ?_
  show own_Wp p e below _ T16 (mkF m 25 #[.val (.ref px1), .val (.ref b2), .val (.int (7 : Int32)), .val (.int (5 : Int32)), .val (.ref (w25_GREATER Z))] [(.ref px1), (.ref (w15_GREATER Z))])
  refine own_step (fun _ k => Jvm.RoadKit.acmp (g := (mkF m 25 #[.val (.ref px1), .val (.ref b2), .val (.int (7 : Int32)), .val (.int (5 : Int32)), .val (.ref (w25_GREATER Z))] [(.ref px1), (.ref (w15_GREATER Z))])) X16 hx rfl rfl rfl (pc0 := 25) (pc' := 34) (same := false) rfl (hb hby d1_25) rfl (decide_eq_false fun q => D5 (Value.ref.inj q)) (by decide) (by decide) k) ?_
  show own_Wp p e below _ T16 (mkF m 34 #[.val (.ref px1), .val (.ref b2), .val (.int (7 : Int32)), .val (.int (5 : Int32)), .val (.ref (w25_GREATER Z))] [])
  refine own_step (fun _ k => XS.iinc X16.here hx rfl (hb hby d1_34) rfl (l' := #[.val (.ref px1), .val (.ref b2), .val (.int (7 : Int32)), .val (.int ((5 : Int32) + (1 : Int32))), .val (.ref (w25_GREATER Z))]) rfl k) ?_
  show own_Wp p e below _ T16 (mkF m 37 #[.val (.ref px1), .val (.ref b2), .val (.int (7 : Int32)), .val (.int ((5 : Int32) + (1 : Int32))), .val (.ref (w25_GREATER Z))] [])
  rw [(by decide : ((5 : Int32) + (1 : Int32)) = (6 : Int32))]
  show own_Wp p e below _ T16 (mkF m 37 #[.val (.ref px1), .val (.ref b2), .val (.int (7 : Int32)), .val (.int (6 : Int32)), .val (.ref (w25_GREATER Z))] [])
  refine own_step (fun _ k => XS.goto X16.here hx rfl (pc0 := 37) (pc' := 9) rfl (hb hby d1_37) (by decide) (by decide) k) ?_
  show own_Wp p e below _ T16 (mkF m 9 #[.val (.ref px1), .val (.ref b2), .val (.int (7 : Int32)), .val (.int (6 : Int32)), .val (.ref (w25_GREATER Z))] [])
  refine own_step (fun _ k => XS.iloadN X16.here hx rfl (hb hby d1_9) rfl k) ?_
  show own_Wp p e below _ T16 (mkF m 10 #[.val (.ref px1), .val (.ref b2), .val (.int (7 : Int32)), .val (.int (6 : Int32)), .val (.ref (w25_GREATER Z))] [(.int (6 : Int32))])
  refine own_step (fun _ k => XS.iloadN X16.here hx rfl (hb hby d1_10) rfl k) ?_
  show own_Wp p e below _ T16 (mkF m 11 #[.val (.ref px1), .val (.ref b2), .val (.int (7 : Int32)), .val (.int (6 : Int32)), .val (.ref (w25_GREATER Z))] [(.int (7 : Int32)), (.int (6 : Int32))])
  refine own_step (fun _ k => XS.icmpNo X16.here hx rfl (hb hby d1_11) rfl (by decide) k) ?_
  show own_Wp p e below _ T16 (mkF m 14 #[.val (.ref px1), .val (.ref b2), .val (.int (7 : Int32)), .val (.int (6 : Int32)), .val (.ref (w25_GREATER Z))] [])
  refine own_step (fun _ k => XS.aloadN X16.here hx rfl (hb hby d1_14) rfl rfl k) ?_
  show own_Wp p e below _ T16 (mkF m 15 #[.val (.ref px1), .val (.ref b2), .val (.int (7 : Int32)), .val (.int (6 : Int32)), .val (.ref (w25_GREATER Z))] [(.ref b2)])
  refine own_step (fun _ k => XS.iloadN X16.here hx rfl (hb hby d1_15) rfl k) ?_
  show own_Wp p e below _ T16 (mkF m 16 #[.val (.ref px1), .val (.ref b2), .val (.int (7 : Int32)), .val (.int (6 : Int32)), .val (.ref (w25_GREATER Z))] [(.int (6 : Int32)), (.ref b2)])
  obtain ⟨c17, r17, q17, t17, u17, y17h, y17g⟩ := id F1_0
  have i17 : ¬ ((6 : Int32) < 0 ∨ c17.slots.size ≤ ((6 : Int32)).toNatClampNeg) := inb_of t17 ⟨by decide, by decide⟩
  refine own_step (fun _ k => X16.aaload hx (j := (6 : Int32)) (v := (.ref (w26_GREATER_EQUAL Z))) (by rw [e16]; exact r17.1) (State.isArrayOf_alike hZ.alike r17.2.1) rfl r17.2.2 i17 (own_get t17 y17h i17 6 rfl) (g := (mkF m 16 #[.val (.ref px1), .val (.ref b2), .val (.int (7 : Int32)), .val (.int (6 : Int32)), .val (.ref (w25_GREATER Z))] [(.int (6 : Int32)), (.ref b2)])) rfl rfl (hb hby d1_16) _ k) ?_
  show own_Wp p e below _ T16 (mkF m 17 #[.val (.ref px1), .val (.ref b2), .val (.int (7 : Int32)), .val (.int (6 : Int32)), .val (.ref (w25_GREATER Z))] [(.ref (w26_GREATER_EQUAL Z))])
  refine own_step (fun _ k => XS.astore X16.here hx rfl (hb hby d1_17) rfl rfl (l' := #[.val (.ref px1), .val (.ref b2), .val (.int (7 : Int32)), .val (.int (6 : Int32)), .val (.ref (w26_GREATER_EQUAL Z))]) rfl k) ?_
  show own_Wp p e below _ T16 (mkF m 19 #[.val (.ref px1), .val (.ref b2), .val (.int (7 : Int32)), .val (.int (6 : Int32)), .val (.ref (w26_GREATER_EQUAL Z))] [])
  refine own_step (fun _ k => XS.aload X16.here hx rfl (hb hby d1_19) rfl rfl k) ?_
  show own_Wp p e below _ T16 (mkF m 21 #[.val (.ref px1), .val (.ref b2), .val (.int (7 : Int32)), .val (.int (6 : Int32)), .val (.ref (w26_GREATER_EQUAL Z))] [(.ref (w26_GREATER_EQUAL Z))])
  obtain ⟨T18, X18, e18, st18⟩ := getF X16 hx hZ hown (host := "") (Or.inl (hw _ (List.mem_of_getElem? (i := 69) rfl))) Via.refl e16 ((fl13 hw hA hS hF).ext O1.2) (g := (mkF m 21 #[.val (.ref px1), .val (.ref b2), .val (.int (7 : Int32)), .val (.int (6 : Int32)), .val (.ref (w26_GREATER_EQUAL Z))] [(.ref (w26_GREATER_EQUAL Z))])) rfl rfl (hb hby d1_21)
  refine own_step st18 ?_
  show own_Wp p e below _ T18 (mkF m 24 #[.val (.ref px1), .val (.ref b2), .val (.int (7 : Int32)), .val (.int (6 : Int32)), .val (.ref (w26_GREATER_EQUAL Z))] [(.ref (w14_GREATER_EQUAL Z))])
  refine own_step (fun _ k => XS.aloadN X18.here hx rfl (hb hby d1_24) rfl rfl k) ?_
  show own_Wp p e below _ T18 (mkF m 25 #[.val (.ref px1), .val (.ref b2), .val (.int (7 : Int32)), .val (.int (6 : Int32)), .val (.ref (w26_GREATER_EQUAL Z))] [(.ref px1), (.ref (w14_GREATER_EQUAL Z))])
  refine own_step (fun _ k => Jvm.RoadKit.acmp (g := (mkF m 25 #[.val (.ref px1), .val (.ref b2), .val (.int (7 : Int32)), .val (.int (6 : Int32)), .val (.ref (w26_GREATER_EQUAL Z))] [(.ref px1), (.ref (w14_GREATER_EQUAL Z))])) X18 hx rfl rfl rfl (pc0 := 25) (pc' := 34) (same := false) rfl (hb hby d1_25) rfl (decide_eq_false fun q => D6 (Value.ref.inj q)) (by decide) (by decide) k) ?_
  show own_Wp p e below _ T18 (mkF m 34 #[.val (.ref px1), .val (.ref b2), .val (.int (7 : Int32)), .val (.int (6 : Int32)), .val (.ref (w26_GREATER_EQUAL Z))] [])
  refine own_step (fun _ k => XS.iinc X18.here hx rfl (hb hby d1_34) rfl (l' := #[.val (.ref px1), .val (.ref b2), .val (.int (7 : Int32)), .val (.int ((6 : Int32) + (1 : Int32))), .val (.ref (w26_GREATER_EQUAL Z))]) rfl k) ?_
  show own_Wp p e below _ T18 (mkF m 37 #[.val (.ref px1), .val (.ref b2), .val (.int (7 : Int32)), .val (.int ((6 : Int32) + (1 : Int32))), .val (.ref (w26_GREATER_EQUAL Z))] [])
  rw [(by decide : ((6 : Int32) + (1 : Int32)) = (7 : Int32))]
  show own_Wp p e below _ T18 (mkF m 37 #[.val (.ref px1), .val (.ref b2), .val (.int (7 : Int32)), .val (.int (7 : Int32)), .val (.ref (w26_GREATER_EQUAL Z))] [])
  refine own_step (fun _ k => XS.goto X18.here hx rfl (pc0 := 37) (pc' := 9) rfl (hb hby d1_37) (by decide) (by decide) k) ?_
  show own_Wp p e below _ T18 (mkF m 9 #[.val (.ref px1), .val (.ref b2), .val (.int (7 : Int32)), .val (.int (7 : Int32)), .val (.ref (w26_GREATER_EQUAL Z))] [])
  refine own_step (fun _ k => XS.iloadN X18.here hx rfl (hb hby d1_9) rfl k) ?_
  show own_Wp p e below _ T18 (mkF m 10 #[.val (.ref px1), .val (.ref b2), .val (.int (7 : Int32)), .val (.int (7 : Int32)), .val (.ref (w26_GREATER_EQUAL Z))] [(.int (7 : Int32))])
  refine own_step (fun _ k => XS.iloadN X18.here hx rfl (hb hby d1_10) rfl k) ?_
  show own_Wp p e below _ T18 (mkF m 11 #[.val (.ref px1), .val (.ref b2), .val (.int (7 : Int32)), .val (.int (7 : Int32)), .val (.ref (w26_GREATER_EQUAL Z))] [(.int (7 : Int32)), (.int (7 : Int32))])
  refine own_step (fun _ k => XS.icmpYes X18.here hx rfl (pc0 := 11) (pc' := 40) rfl (hb hby d1_11) rfl (by decide) (by decide) (by decide) k) ?_
  show own_Wp p e below _ T18 (mkF m 40 #[.val (.ref px1), .val (.ref b2), .val (.int (7 : Int32)), .val (.int (7 : Int32)), .val (.ref (w26_GREATER_EQUAL Z))] [])
  obtain ⟨_, T19, L19, X19, hQ19, st19⟩ := own_callS X18 hx hZ hown (hw _ (List.mem_of_getElem? (i := 71) rfl)) (hw _ (List.mem_of_getElem? (i := 72) rfl)) (hw _ (List.mem_of_getElem? (i := 73) rfl)) (hw _ (List.mem_of_getElem? (i := 74) rfl)) (by decide) (rm3_1 l Z a0 hw hA hS hF [] T1.heap n0 O1) (W := 0) (by decide) (by decide) [] rfl (lenOf pd3 rfl) (Ls := #[.val (.ref px1), .val (.ref b2), .val (.int (7 : Int32)), .val (.int (7 : Int32)), .val (.ref (w26_GREATER_EQUAL Z))]) (by rw [hml]; rfl) (rest := []) (Nat.le_of_eq rfl) (hb hby d1_40) e18 (by decide) (by decide)
  refine st19 _ ?_
  obtain ⟨rfl, N19q, e19⟩ := hQ19
  have N19 := Fr.app N1 N19q
  show own_Wp p e below _ T19 (mkF m 43 #[.val (.ref px1), .val (.ref b2), .val (.int (7 : Int32)), .val (.int (7 : Int32)), .val (.ref (w26_GREATER_EQUAL Z))] [(.ref (w27_EMPTY Z))])
  exact own_retA X19 hx hret rfl rfl hlk (hb hby d1_43) (by decide) (by decide) (by rw [e19]; exact ⟨rfl, N19, K1⟩)

set_option maxRecDepth 65536 in
set_option maxHeartbeats 40000000 in
theorem rm4_3 (l : Launch) (Z : State) (a0 : Array Value) (hw : ∀ d ∈ tables_1, d.before a0 Z = true) (hA : ∀ d ∈ own_flat narrow_1, d.value a0 Z none Z [] = some true) (hS : ∀ d ∈ jdkStatics_1, d.before a0 Z = true) (hF : Fit Z) (ws : List Jvm.Cond) (px1 : Addr) (h0 : Heap) (n0 : Nat) (O0 : Old Z n0 h0) (D0 : Fld Z Z.heap px1 "java/util/Optional" "value" "Ljava/lang/Object;" .null) :
    own_Met l Z (⟨"java/util/Optional", "orElse", "(Ljava/lang/Object;)Ljava/lang/Object;"⟩ : MethodName) (Jvm.Cond.code (⟨"java/util/Optional", "orElse", "(Ljava/lang/Object;)Ljava/lang/Object;"⟩ : MethodName) jdk_32_method_15_code 2 (some (.object "java/lang/Object"))) ws ({ frames := 0, cells := 0, slots := 0, locals := 0 } : Room) #[(.ref px1), .null] h0 (fun v h L => (v = some .null ∧ Fr n0 L ∧ h = h0)) := by
  refine own_met (own := "java/util/Optional") (plainFor_of_name pn2) rfl ?_
  intro p e s m below meth c s₁ hx hby hml hown hnm hret hlk hZ e0 X0
  refine own_cast (g' := (mkF m 0 #[.val (.ref px1), .val .null] [])) (by first | (simp [entryFrame, mkF, argsToLocals, Value.category]; done) | rfl) ?_
  refine own_step (fun _ k => XS.aloadN X0.here hx rfl (hb hby d4_0) rfl rfl k) ?_
  show own_Wp p e below _ s₁ (mkF m 1 #[.val (.ref px1), .val .null] [(.ref px1)])
  obtain ⟨T1, X1, e1, st1⟩ := getF X0 hx hZ hown (host := "") (Or.inl (hw _ (List.mem_of_getElem? (i := 81) rfl))) Via.refl e0 (D0.ext O0.2) (g := (mkF m 1 #[.val (.ref px1), .val .null] [(.ref px1)])) rfl rfl (hb hby d4_1)
  refine own_step st1 ?_
  show own_Wp p e below _ T1 (mkF m 4 #[.val (.ref px1), .val .null] [.null])
  refine own_step (fun _ k => XS.ifnullYes X1.here hx rfl (pc0 := 4) (pc' := 14) rfl (hb hby d4_4) rfl (by decide) (by decide) k) ?_
  show own_Wp p e below _ T1 (mkF m 14 #[.val (.ref px1), .val .null] [])
  refine own_step (fun _ k => XS.aloadN X1.here hx rfl (hb hby d4_14) rfl rfl k) ?_
  show own_Wp p e below _ T1 (mkF m 15 #[.val (.ref px1), .val .null] [.null])
  exact own_retA X1 hx hret rfl rfl hlk (hb hby d4_15) (by decide) (by decide) (by rw [e1]; exact ⟨rfl, (Fr.nil n0), rfl⟩)

set_option maxRecDepth 65536 in
set_option maxHeartbeats 40000000 in
theorem rm5_4 (l : Launch) (Z : State) (a0 : Array Value) (hw : ∀ d ∈ tables_1, d.before a0 Z = true) (hA : ∀ d ∈ own_flat narrow_1, d.value a0 Z none Z [] = some true) (hS : ∀ d ∈ jdkStatics_1, d.before a0 Z = true) (hF : Fit Z) (ws : List Jvm.Cond) (px1 : Addr) (h0 : Heap) (n0 : Nat) (O0 : Old Z n0 h0) (D0 : px1 ≠ (w9_EQUAL Z)) (D1 : px1 ≠ (w10_NOT_EQUAL Z)) (D2 : px1 ≠ (w11_MATCH Z)) (D3 : px1 ≠ (w13_LESS Z)) (D4 : px1 ≠ (w12_LESS_EQUAL Z)) (D5 : px1 ≠ (w15_GREATER Z)) (D6 : px1 ≠ (w14_GREATER_EQUAL Z)) :
    own_Met l Z (⟨"com/example/proviso/proviso/expression/ComparisonOperatorSpelledByPinLaw", "expected", "(Lcom/example/proviso/proviso/expression/Lexer$Kind;)Lcom/example/proviso/proviso/expression/ComparisonOperator;"⟩ : MethodName) (Jvm.Cond.code (⟨"com/example/proviso/proviso/expression/ComparisonOperatorSpelledByPinLaw", "expected", "(Lcom/example/proviso/proviso/expression/Lexer$Kind;)Lcom/example/proviso/proviso/expression/ComparisonOperator;"⟩ : MethodName) method_3_code 1 (some (.object "com/example/proviso/proviso/expression/ComparisonOperator"))) ws ({ frames := 0, cells := 0, slots := 0, locals := 0 } : Room) #[(.ref px1)] h0 (fun v h L => (v = some .null ∧ Fr n0 L ∧ h = h0)) := by
  refine own_met (own := "com/example/proviso/proviso/expression/ComparisonOperatorSpelledByPinLaw") (plainFor_of_name pn6) rfl ?_
  intro p e s m below meth c s₁ hx hby hml hown hnm hret hlk hZ e0 X0
  refine own_cast (g' := (mkF m 0 #[.val (.ref px1)] [])) (by first | (simp [entryFrame, mkF, argsToLocals, Value.category]; done) | rfl) ?_
  refine own_step (fun _ k => XS.aloadN X0.here hx rfl (hb hby d5_0) rfl rfl k) ?_
  show own_Wp p e below _ s₁ (mkF m 1 #[.val (.ref px1)] [(.ref px1)])
  obtain ⟨T1, X1, e1, st1⟩ := getS2 X0 hx hZ hown (host := "") (Or.inl (hw _ (List.mem_of_getElem? (i := 22) rfl))) Via.refl e0 ((st_w9_EQUAL hw hA hS hF).ext O0.2) (g := (mkF m 1 #[.val (.ref px1)] [(.ref px1)])) rfl (hb hby d5_1)
  refine own_step st1 ?_
  show own_Wp p e below _ T1 (mkF m 4 #[.val (.ref px1)] [(.ref (w9_EQUAL Z)), (.ref px1)])
  refine own_step (fun _ k => Jvm.RoadKit.acmp (g := (mkF m 4 #[.val (.ref px1)] [(.ref (w9_EQUAL Z)), (.ref px1)])) X1 hx rfl rfl rfl (pc0 := 4) (pc' := 11) (same := false) rfl (hb hby d5_4) rfl (decide_eq_false fun q => D0 (Value.ref.inj q)) (by decide) (by decide) k) ?_
  show own_Wp p e below _ T1 (mkF m 11 #[.val (.ref px1)] [])
  refine own_step (fun _ k => XS.aloadN X1.here hx rfl (hb hby d5_11) rfl rfl k) ?_
  show own_Wp p e below _ T1 (mkF m 12 #[.val (.ref px1)] [(.ref px1)])
  obtain ⟨T2, X2, e2, st2⟩ := getS2 X1 hx hZ hown (host := "") (Or.inl (hw _ (List.mem_of_getElem? (i := 24) rfl))) Via.refl e1 ((st_w10_NOT_EQUAL hw hA hS hF).ext O0.2) (g := (mkF m 12 #[.val (.ref px1)] [(.ref px1)])) rfl (hb hby d5_12)
  refine own_step st2 ?_
  show own_Wp p e below _ T2 (mkF m 15 #[.val (.ref px1)] [(.ref (w10_NOT_EQUAL Z)), (.ref px1)])
  refine own_step (fun _ k => Jvm.RoadKit.acmp (g := (mkF m 15 #[.val (.ref px1)] [(.ref (w10_NOT_EQUAL Z)), (.ref px1)])) X2 hx rfl rfl rfl (pc0 := 15) (pc' := 22) (same := false) rfl (hb hby d5_15) rfl (decide_eq_false fun q => D1 (Value.ref.inj q)) (by decide) (by decide) k) ?_
  show own_Wp p e below _ T2 (mkF m 22 #[.val (.ref px1)] [])
  refine own_step (fun _ k => XS.aloadN X2.here hx rfl (hb hby d5_22) rfl rfl k) ?_
  show own_Wp p e below _ T2 (mkF m 23 #[.val (.ref px1)] [(.ref px1)])
  obtain ⟨T3, X3, e3, st3⟩ := getS2 X2 hx hZ hown (host := "") (Or.inl (hw _ (List.mem_of_getElem? (i := 26) rfl))) Via.refl e2 ((st_w11_MATCH hw hA hS hF).ext O0.2) (g := (mkF m 23 #[.val (.ref px1)] [(.ref px1)])) rfl (hb hby d5_23)
  refine own_step st3 ?_
  show own_Wp p e below _ T3 (mkF m 26 #[.val (.ref px1)] [(.ref (w11_MATCH Z)), (.ref px1)])
  refine own_step (fun _ k => Jvm.RoadKit.acmp (g := (mkF m 26 #[.val (.ref px1)] [(.ref (w11_MATCH Z)), (.ref px1)])) X3 hx rfl rfl rfl (pc0 := 26) (pc' := 33) (same := false) rfl (hb hby d5_26) rfl (decide_eq_false fun q => D2 (Value.ref.inj q)) (by decide) (by decide) k) ?_
  show own_Wp p e below _ T3 (mkF m 33 #[.val (.ref px1)] [])
  refine own_step (fun _ k => XS.aloadN X3.here hx rfl (hb hby d5_33) rfl rfl k) ?_
  show own_Wp p e below _ T3 (mkF m 34 #[.val (.ref px1)] [(.ref px1)])
  obtain ⟨T4, X4, e4, st4⟩ := getS2 X3 hx hZ hown (host := "") (Or.inl (hw _ (List.mem_of_getElem? (i := 30) rfl))) Via.refl e3 ((st_w13_LESS hw hA hS hF).ext O0.2) (g := (mkF m 34 #[.val (.ref px1)] [(.ref px1)])) rfl (hb hby d5_34)
  refine own_step st4 ?_
  show own_Wp p e below _ T4 (mkF m 37 #[.val (.ref px1)] [(.ref (w13_LESS Z)), (.ref px1)])
  refine own_step (fun _ k => Jvm.RoadKit.acmp (g := (mkF m 37 #[.val (.ref px1)] [(.ref (w13_LESS Z)), (.ref px1)])) X4 hx rfl rfl rfl (pc0 := 37) (pc' := 44) (same := false) rfl (hb hby d5_37) rfl (decide_eq_false fun q => D3 (Value.ref.inj q)) (by decide) (by decide) k) ?_
  show own_Wp p e below _ T4 (mkF m 44 #[.val (.ref px1)] [])
  refine own_step (fun _ k => XS.aloadN X4.here hx rfl (hb hby d5_44) rfl rfl k) ?_
  show own_Wp p e below _ T4 (mkF m 45 #[.val (.ref px1)] [(.ref px1)])
  obtain ⟨T5, X5, e5, st5⟩ := getS2 X4 hx hZ hown (host := "") (Or.inl (hw _ (List.mem_of_getElem? (i := 28) rfl))) Via.refl e4 ((st_w12_LESS_EQUAL hw hA hS hF).ext O0.2) (g := (mkF m 45 #[.val (.ref px1)] [(.ref px1)])) rfl (hb hby d5_45)
  refine own_step st5 ?_
  show own_Wp p e below _ T5 (mkF m 48 #[.val (.ref px1)] [(.ref (w12_LESS_EQUAL Z)), (.ref px1)])
  refine own_step (fun _ k => Jvm.RoadKit.acmp (g := (mkF m 48 #[.val (.ref px1)] [(.ref (w12_LESS_EQUAL Z)), (.ref px1)])) X5 hx rfl rfl rfl (pc0 := 48) (pc' := 55) (same := false) rfl (hb hby d5_48) rfl (decide_eq_false fun q => D4 (Value.ref.inj q)) (by decide) (by decide) k) ?_
  show own_Wp p e below _ T5 (mkF m 55 #[.val (.ref px1)] [])
  refine own_step (fun _ k => XS.aloadN X5.here hx rfl (hb hby d5_55) rfl rfl k) ?_
  show own_Wp p e below _ T5 (mkF m 56 #[.val (.ref px1)] [(.ref px1)])
  obtain ⟨T6, X6, e6, st6⟩ := getS2 X5 hx hZ hown (host := "") (Or.inl (hw _ (List.mem_of_getElem? (i := 34) rfl))) Via.refl e5 ((st_w15_GREATER hw hA hS hF).ext O0.2) (g := (mkF m 56 #[.val (.ref px1)] [(.ref px1)])) rfl (hb hby d5_56)
  refine own_step st6 ?_
  show own_Wp p e below _ T6 (mkF m 59 #[.val (.ref px1)] [(.ref (w15_GREATER Z)), (.ref px1)])
  refine own_step (fun _ k => Jvm.RoadKit.acmp (g := (mkF m 59 #[.val (.ref px1)] [(.ref (w15_GREATER Z)), (.ref px1)])) X6 hx rfl rfl rfl (pc0 := 59) (pc' := 66) (same := false) rfl (hb hby d5_59) rfl (decide_eq_false fun q => D5 (Value.ref.inj q)) (by decide) (by decide) k) ?_
  show own_Wp p e below _ T6 (mkF m 66 #[.val (.ref px1)] [])
  refine own_step (fun _ k => XS.aloadN X6.here hx rfl (hb hby d5_66) rfl rfl k) ?_
  show own_Wp p e below _ T6 (mkF m 67 #[.val (.ref px1)] [(.ref px1)])
  obtain ⟨T7, X7, e7, st7⟩ := getS2 X6 hx hZ hown (host := "") (Or.inl (hw _ (List.mem_of_getElem? (i := 32) rfl))) Via.refl e6 ((st_w14_GREATER_EQUAL hw hA hS hF).ext O0.2) (g := (mkF m 67 #[.val (.ref px1)] [(.ref px1)])) rfl (hb hby d5_67)
  refine own_step st7 ?_
  show own_Wp p e below _ T7 (mkF m 70 #[.val (.ref px1)] [(.ref (w14_GREATER_EQUAL Z)), (.ref px1)])
  refine own_step (fun _ k => Jvm.RoadKit.acmp (g := (mkF m 70 #[.val (.ref px1)] [(.ref (w14_GREATER_EQUAL Z)), (.ref px1)])) X7 hx rfl rfl rfl (pc0 := 70) (pc' := 77) (same := false) rfl (hb hby d5_70) rfl (decide_eq_false fun q => D6 (Value.ref.inj q)) (by decide) (by decide) k) ?_
  show own_Wp p e below _ T7 (mkF m 77 #[.val (.ref px1)] [])
  refine own_step (fun _ k => XS.aconstNull X7.here hx rfl (hb hby d5_77) k) ?_
  show own_Wp p e below _ T7 (mkF m 78 #[.val (.ref px1)] [.null])
  exact own_retA X7 hx hret rfl rfl hlk (hb hby d5_78) (by decide) (by decide) (by rw [e7]; exact ⟨rfl, (Fr.nil n0), rfl⟩)

set_option maxRecDepth 65536 in
set_option maxHeartbeats 40000000 in
theorem rm7_5 (l : Launch) (Z : State) (a0 : Array Value) (hw : ∀ d ∈ tables_1, d.before a0 Z = true) (hA : ∀ d ∈ own_flat narrow_1, d.value a0 Z none Z [] = some true) (hS : ∀ d ∈ jdkStatics_1, d.before a0 Z = true) (hF : Fit Z) (ws : List Jvm.Cond) (px1 : Addr) (h0 : Heap) (n0 : Nat) (O0 : Old Z n0 h0) :
    own_Met l Z (⟨"java/util/Objects", "requireNonNull", "(Ljava/lang/Object;)Ljava/lang/Object;"⟩ : MethodName) (Jvm.Cond.code (⟨"java/util/Objects", "requireNonNull", "(Ljava/lang/Object;)Ljava/lang/Object;"⟩ : MethodName) jdk_31_method_10_code 1 (some (.object "java/lang/Object"))) ws ({ frames := 0, cells := 0, slots := 0, locals := 0 } : Room) #[(.ref px1)] h0 (fun v h L => (v = some (.ref px1) ∧ Fr n0 L ∧ h = h0)) := by
  refine own_met (own := "java/util/Objects") (plainFor_of_name pn8) rfl ?_
  intro p e s m below meth c s₁ hx hby hml hown hnm hret hlk hZ e0 X0
  refine own_cast (g' := (mkF m 0 #[.val (.ref px1)] [])) (by first | (simp [entryFrame, mkF, argsToLocals, Value.category]; done) | rfl) ?_
  refine own_step (fun _ k => XS.aloadN X0.here hx rfl (hb hby d7_0) rfl rfl k) ?_
  show own_Wp p e below _ s₁ (mkF m 1 #[.val (.ref px1)] [(.ref px1)])
  refine own_step (fun _ k => XS.ifnonnullYes X0.here hx rfl (pc0 := 1) (pc' := 12) rfl (hb hby d7_1) rfl (by decide) (by decide) k) ?_
  show own_Wp p e below _ s₁ (mkF m 12 #[.val (.ref px1)] [])
  refine own_step (fun _ k => XS.aloadN X0.here hx rfl (hb hby d7_12) rfl rfl k) ?_
  show own_Wp p e below _ s₁ (mkF m 13 #[.val (.ref px1)] [(.ref px1)])
  exact own_retA X0 hx hret rfl rfl hlk (hb hby d7_13) (by decide) (by decide) (by rw [e0]; exact ⟨rfl, (Fr.nil n0), rfl⟩)

set_option maxRecDepth 65536 in
set_option maxHeartbeats 40000000 in
theorem rm8_6 (l : Launch) (Z : State) (a0 : Array Value) (hw : ∀ d ∈ tables_1, d.before a0 Z = true) (hA : ∀ d ∈ own_flat narrow_1, d.value a0 Z none Z [] = some true) (hS : ∀ d ∈ jdkStatics_1, d.before a0 Z = true) (hF : Fit Z) (ws : List Jvm.Cond) (px1 : Addr) (px2 : Addr) (h0 : Heap) (n0 : Nat) (O0 : Old Z n0 h0) (P0 : Exa Z h0 px1 "java/util/Optional") (P1 : Fld Z h0 px1 "java/util/Optional" "value" "Ljava/lang/Object;" .null) (G2 : n0 ≤ px1) :
    own_Met l Z (⟨"java/util/Optional", "<init>", "(Ljava/lang/Object;)V"⟩ : MethodName) (Jvm.Cond.code (⟨"java/util/Optional", "<init>", "(Ljava/lang/Object;)V"⟩ : MethodName) jdk_32_method_2_code 2 none) ws ({ frames := 1, cells := 0, slots := 0, locals := 12 } : Room) #[(.ref px1), (.ref px2)] h0 (fun v h L => (v = none ∧ Fr n0 L ∧ Keep h0 h [px1] ∧ Exa Z h px1 "java/util/Optional" ∧ Fld Z h px1 "java/util/Optional" "value" "Ljava/lang/Object;" (.ref px2))) := by
  refine own_met (own := "java/util/Optional") (plainFor_of_name pn2) rfl ?_
  intro p e s m below meth c s₁ hx hby hml hown hnm hret hlk hZ e0 X0
  refine own_cast (g' := (mkF m 0 #[.val (.ref px1), .val (.ref px2)] [])) (by first | (simp [entryFrame, mkF, argsToLocals, Value.category]; done) | rfl) ?_
  refine own_step (fun _ k => XS.aloadN X0.here hx rfl (hb hby d8_0) rfl rfl k) ?_
  show own_Wp p e below _ s₁ (mkF m 1 #[.val (.ref px1), .val (.ref px2)] [(.ref px1)])
  obtain ⟨T1, X1, e1, st1⟩ := initO X0 hx hZ hown (hw _ (List.mem_of_getElem? (i := 100) rfl)) (hw _ (List.mem_of_getElem? (i := 101) rfl)) (hw _ (List.mem_of_getElem? (i := 102) rfl)) e0 (g := (mkF m 1 #[.val (.ref px1), .val (.ref px2)] [(.ref px1)])) rfl (by rw [hml]; rfl) rfl (hb hby d8_1) (by decide) (W := 0) (by show 2 * 0 + _ ≤ _; exact Nat.le_of_eq rfl) (by decide)
  refine own_step st1 ?_
  show own_Wp p e below _ T1 (mkF m 4 #[.val (.ref px1), .val (.ref px2)] [])
  refine own_step (fun _ k => XS.aloadN X1.here hx rfl (hb hby d8_4) rfl rfl k) ?_
  show own_Wp p e below _ T1 (mkF m 5 #[.val (.ref px1), .val (.ref px2)] [(.ref px1)])
  refine own_step (fun _ k => XS.aloadN X1.here hx rfl (hb hby d8_5) rfl rfl k) ?_
  show own_Wp p e below _ T1 (mkF m 6 #[.val (.ref px1), .val (.ref px2)] [(.ref px2), (.ref px1)])
  obtain ⟨T2, h2, X2, e2, W2, st2⟩ := putF X1 hx hZ hown (host := "") (Or.inl (hw _ (List.mem_of_getElem? (i := 81) rfl))) Via.refl e1 P1 P0 (Or.inr ⟨(hw _ (List.mem_of_getElem? (i := 82) rfl)), rfl, hnm⟩) (hw _ (List.mem_of_getElem? (i := 91) rfl)) (ty := (.object "java/lang/Object")) (by decide) rfl rfl (g := (mkF m 6 #[.val (.ref px1), .val (.ref px2)] [(.ref px2), (.ref px1)])) rfl rfl (hb hby d8_6)
  refine own_step st2 ?_
  have N2 := Fr.snoc X2 (Fr.nil n0) G2
  have O2 := O0.wr W2 G2
  have K2 : Keep h0 h2 [px1] := (Keep.refl h0 [px1]).wr W2 (Or.inl (by simp))
  have Fw2 := P1.same W2
  show own_Wp p e below _ T2 (mkF m 9 #[.val (.ref px1), .val (.ref px2)] [])
  have f3 := (P0.wr W2)
  exact own_retV X2 hx hret hlk (hb hby d8_9) (by decide) (by decide) (by rw [e2]; exact ⟨rfl, N2, K2, f3, Fw2⟩)

set_option maxRecDepth 65536 in
set_option maxHeartbeats 40000000 in
theorem rm6_7 (l : Launch) (Z : State) (a0 : Array Value) (hw : ∀ d ∈ tables_1, d.before a0 Z = true) (hA : ∀ d ∈ own_flat narrow_1, d.value a0 Z none Z [] = some true) (hS : ∀ d ∈ jdkStatics_1, d.before a0 Z = true) (hF : Fit Z) (ws : List Jvm.Cond) (px1 : Addr) (h0 : Heap) (n0 : Nat) (O0 : Old Z n0 h0) :
    own_Met l Z (⟨"java/util/Optional", "of", "(Ljava/lang/Object;)Ljava/util/Optional;"⟩ : MethodName) (Jvm.Cond.code (⟨"java/util/Optional", "of", "(Ljava/lang/Object;)Ljava/util/Optional;"⟩ : MethodName) jdk_32_method_3_code 1 (some (.object "java/util/Optional"))) ws ({ frames := 2, cells := 1, slots := 1, locals := 26 } : Room) #[(.ref px1)] h0 (fun v h L => (∃ (b1 : Addr), v = some (.ref b1) ∧ Fr n0 L ∧ Keep h0 h [] ∧ h0.size ≤ b1 ∧ Exa Z h b1 "java/util/Optional" ∧ Fld Z h b1 "java/util/Optional" "value" "Ljava/lang/Object;" (.ref px1))) := by
  refine own_met (own := "java/util/Optional") (plainFor_of_name pn2) rfl ?_
  intro p e s m below meth c s₁ hx hby hml hown hnm hret hlk hZ e0 X0
  refine own_cast (g' := (mkF m 0 #[.val (.ref px1)] [])) (by first | (simp [entryFrame, mkF, argsToLocals, Value.category]; done) | rfl) ?_
  obtain ⟨T1, h1, X1, e1, E1, A1, D1, -, st1⟩ := newO X0 hx hZ hown (hw _ (List.mem_of_getElem? (i := 90) rfl)) (hw _ (List.mem_of_getElem? (i := 91) rfl)) (hw _ (List.mem_of_getElem? (i := 73) rfl)) e0 (g := (mkF m 0 #[.val (.ref px1)] [])) rfl (hb hby d6_0) (by decide) (by decide)
  obtain ⟨b1, z1⟩ : ∃ z, z = h0.size := ⟨_, rfl⟩
  rw [← z1] at A1 D1 st1
  refine own_step st1 ?_
  have g1 : n0 ≤ b1 := Nat.le_trans (O0.1 ▸ O0.2.1) (Nat.le_of_eq z1.symm)
  have y1 : h0.size ≤ b1 := Nat.le_trans (Nat.le_refl _) (Nat.le_of_eq z1.symm)
  have O1 := O0.ext E1
  have K1 : Keep h0 h1 [] := (Keep.refl h0 []).ext E1
  have F1_82 : Fld Z h1 b1 "java/util/Optional" "value" "Ljava/lang/Object;" .null := D1 (Or.inr (hw _ (List.mem_of_getElem? (i := 82) rfl))) (ty := (.object "java/lang/Object")) (by decide)
  show own_Wp p e below _ T1 (mkF m 3 #[.val (.ref px1)] [(.ref b1)])
  refine own_step (fun _ k => XS.dup X1.here hx rfl (hb hby d6_3) rfl rfl k) ?_
  show own_Wp p e below _ T1 (mkF m 4 #[.val (.ref px1)] [(.ref b1), (.ref b1)])
  refine own_step (fun _ k => XS.aloadN X1.here hx rfl (hb hby d6_4) rfl rfl k) ?_
  show own_Wp p e below _ T1 (mkF m 5 #[.val (.ref px1)] [(.ref px1), (.ref b1), (.ref b1)])
  obtain ⟨_, T2, L2, X2, hQ2, st2⟩ := own_callS X1 hx hZ hown (hw _ (List.mem_of_getElem? (i := 92) rfl)) (hw _ (List.mem_of_getElem? (i := 93) rfl)) (hw _ (List.mem_of_getElem? (i := 94) rfl)) (hw _ (List.mem_of_getElem? (i := 95) rfl)) (by decide) (rm7_5 l Z a0 hw hA hS hF [] px1 h1 n0 O1) (W := 2) (by decide) (by decide) [(.ref px1)] rfl (lenOf pd5 rfl) (Ls := #[.val (.ref px1)]) (by rw [hml]; rfl) (rest := [(.ref b1), (.ref b1)]) (Nat.le_of_eq rfl) (hb hby d6_5) e1 (by decide) (by decide)
  refine st2 _ ?_
  obtain ⟨rfl, N2q, e2⟩ := hQ2
  have N2 := Fr.app (Fr.nil n0) N2q
  show own_Wp p e below _ T2 (mkF m 8 #[.val (.ref px1)] [(.ref px1), (.ref b1), (.ref b1)])
  obtain ⟨_, T3, L3, X3, hQ3, st3⟩ := own_callN X2 hx hZ rfl hown (hw _ (List.mem_of_getElem? (i := 96) rfl)) (hw _ (List.mem_of_getElem? (i := 97) rfl)) (hw _ (List.mem_of_getElem? (i := 73) rfl)) (hw _ (List.mem_of_getElem? (i := 99) rfl)) (by decide) (rm8_6 l Z a0 hw hA hS hF [] b1 px1 h1 n0 O1 A1 F1_82 g1) (b := b1) (W := 1) (by decide) (by decide) [(.ref px1)] rfl (lenOf pd9 rfl) (Ls := #[.val (.ref px1)]) (by rw [hml]; rfl) (rest := [(.ref b1)]) (Nat.le_of_eq rfl) (hb hby d6_8) e2 (by decide) (by decide)
  refine st3 _ ?_
  obtain ⟨rfl, N3q, K3q, F3_0, F3_1⟩ := hQ3
  have N3 := Fr.app N2 N3q
  have O3 := O1.keep K3q (allS g1 all0)
  have K3 : Keep h0 T3.heap [] := Keep.trans K1 K3q (allS (Or.inr y1) all0)
  show own_Wp p e below _ T3 (mkF m 11 #[.val (.ref px1)] [(.ref b1)])
  exact own_retA X3 hx hret rfl rfl hlk (hb hby d6_11) (by decide) (by decide) (⟨b1, rfl, N3, K3, y1, F3_0, F3_1⟩)

set_option maxRecDepth 65536 in
set_option maxHeartbeats 40000000 in
theorem rm1_8 (l : Launch) (Z : State) (a0 : Array Value) (hw : ∀ d ∈ tables_1, d.before a0 Z = true) (hA : ∀ d ∈ own_flat narrow_1, d.value a0 Z none Z [] = some true) (hS : ∀ d ∈ jdkStatics_1, d.before a0 Z = true) (hF : Fit Z) (ws : List Jvm.Cond) (h0 : Heap) (n0 : Nat) (O0 : Old Z n0 h0) :
    own_Met l Z (⟨"com/example/proviso/proviso/expression/ComparisonOperator", "spelledBy", "(Lcom/example/proviso/proviso/expression/Lexer$Kind;)Ljava/util/Optional;"⟩ : MethodName) (Jvm.Cond.code (⟨"com/example/proviso/proviso/expression/ComparisonOperator", "spelledBy", "(Lcom/example/proviso/proviso/expression/Lexer$Kind;)Ljava/util/Optional;"⟩ : MethodName) prog_2_method_4_code 5 (some (.object "java/util/Optional"))) ws ({ frames := 3, cells := 2, slots := 8, locals := 38 } : Room) #[(.ref (w9_EQUAL Z))] h0 (fun v h L => (∃ (b8 : Addr), v = some (.ref b8) ∧ Fr n0 L ∧ Keep h0 h [] ∧ h0.size ≤ b8 ∧ Exa Z h b8 "java/util/Optional" ∧ Fld Z h b8 "java/util/Optional" "value" "Ljava/lang/Object;" (.ref (w20_EQUAL Z)))) := by
  refine own_met (own := "com/example/proviso/proviso/expression/ComparisonOperator") (plainFor_of_name pn0) rfl ?_
  intro p e s m below meth c s₁ hx hby hml hown hnm hret hlk hZ e0 X0
  refine own_cast (g' := (mkF m 0 #[.val (.ref (w9_EQUAL Z)), .unset, .unset, .unset, .unset] [])) (by first | (simp [entryFrame, mkF, argsToLocals, Value.category]; done) | rfl) ?_
  obtain ⟨_, T1, L1, X1, hQ1, st1⟩ := own_callS X0 hx hZ hown (hw _ (List.mem_of_getElem? (i := 47) rfl)) (hw _ (List.mem_of_getElem? (i := 48) rfl)) (hw _ (List.mem_of_getElem? (i := 45) rfl)) (hw _ (List.mem_of_getElem? (i := 49) rfl)) (by decide) (rm2_0 l Z a0 hw hA hS hF [] h0 n0 O0) (W := 0) (by decide) (by decide) [] rfl (lenOf pd1 rfl) (Ls := #[.val (.ref (w9_EQUAL Z)), .unset, .unset, .unset, .unset]) (by rw [hml]; rfl) (rest := []) (Nat.le_of_eq rfl) (hb hby d1_0) e0 (by decide) (by decide)
  refine st1 _ ?_
  obtain ⟨b2, k3, rfl, N1q, K1q, y1_0, F1_0, F1_1⟩ := hQ1
  have N1 := Fr.app (Fr.nil n0) N1q
  have g1_0 : n0 ≤ b2 := Nat.le_trans (O0.1 ▸ O0.2.1) y1_0
  have u1_0 : h0.size ≤ b2 := Nat.le_trans (Nat.le_refl _) y1_0
  have O1 := O0.keep K1q all0
  have K1 : Keep h0 T1.heap [] := Keep.trans (Keep.refl h0 []) K1q all0
  show own_Wp p e below _ T1 (mkF m 3 #[.val (.ref (w9_EQUAL Z)), .unset, .unset, .unset, .unset] [(.ref b2)])
  refine own_step (fun _ k => XS.astoreN X1.here hx rfl (hb hby d1_3) rfl rfl (l' := #[.val (.ref (w9_EQUAL Z)), .val (.ref b2), .unset, .unset, .unset]) rfl k) ?_
  show own_Wp p e below _ T1 (mkF m 4 #[.val (.ref (w9_EQUAL Z)), .val (.ref b2), .unset, .unset, .unset] [])
  refine own_step (fun _ k => XS.aloadN X1.here hx rfl (hb hby d1_4) rfl rfl k) ?_
  show own_Wp p e below _ T1 (mkF m 5 #[.val (.ref (w9_EQUAL Z)), .val (.ref b2), .unset, .unset, .unset] [(.ref b2)])
  obtain ⟨c4, r4, q4, t4, u4, y4h, y4g⟩ := id F1_0
  refine own_step (fun _ k => X1.arraylength hx r4.1 (State.isArrayOf_alike hZ.alike r4.2.1) (g := (mkF m 5 #[.val (.ref (w9_EQUAL Z)), .val (.ref b2), .unset, .unset, .unset] [(.ref b2)])) rfl rfl (hb hby d1_5) _ k) ?_
  rw [len_of t4 u4]
  show own_Wp p e below _ T1 (mkF m 6 #[.val (.ref (w9_EQUAL Z)), .val (.ref b2), .unset, .unset, .unset] [(.int (7 : Int32))])
  refine own_step (fun _ k => XS.istoreN X1.here hx rfl (hb hby d1_6) rfl (l' := #[.val (.ref (w9_EQUAL Z)), .val (.ref b2), .val (.int (7 : Int32)), .unset, .unset]) rfl k) ?_
  show own_Wp p e below _ T1 (mkF m 7 #[.val (.ref (w9_EQUAL Z)), .val (.ref b2), .val (.int (7 : Int32)), .unset, .unset] [])
  refine own_step (fun _ k => XS.iconst X1.here hx rfl (hb hby d1_7) k) ?_
  show own_Wp p e below _ T1 (mkF m 8 #[.val (.ref (w9_EQUAL Z)), .val (.ref b2), .val (.int (7 : Int32)), .unset, .unset] [(.int (0 : Int32))])
  refine own_step (fun _ k => XS.istoreN X1.here hx rfl (hb hby d1_8) rfl (l' := #[.val (.ref (w9_EQUAL Z)), .val (.ref b2), .val (.int (7 : Int32)), .val (.int (0 : Int32)), .unset]) rfl k) ?_
  show own_Wp p e below _ T1 (mkF m 9 #[.val (.ref (w9_EQUAL Z)), .val (.ref b2), .val (.int (7 : Int32)), .val (.int (0 : Int32)), .unset] [])
  refine own_step (fun _ k => XS.iloadN X1.here hx rfl (hb hby d1_9) rfl k) ?_
  show own_Wp p e below _ T1 (mkF m 10 #[.val (.ref (w9_EQUAL Z)), .val (.ref b2), .val (.int (7 : Int32)), .val (.int (0 : Int32)), .unset] [(.int (0 : Int32))])
  refine own_step (fun _ k => XS.iloadN X1.here hx rfl (hb hby d1_10) rfl k) ?_
  show own_Wp p e below _ T1 (mkF m 11 #[.val (.ref (w9_EQUAL Z)), .val (.ref b2), .val (.int (7 : Int32)), .val (.int (0 : Int32)), .unset] [(.int (7 : Int32)), (.int (0 : Int32))])
  refine own_step (fun _ k => XS.icmpNo X1.here hx rfl (hb hby d1_11) rfl (by decide) k) ?_
  show own_Wp p e below _ T1 (mkF m 14 #[.val (.ref (w9_EQUAL Z)), .val (.ref b2), .val (.int (7 : Int32)), .val (.int (0 : Int32)), .unset] [])
  refine own_step (fun _ k => XS.aloadN X1.here hx rfl (hb hby d1_14) rfl rfl k) ?_
  show own_Wp p e below _ T1 (mkF m 15 #[.val (.ref (w9_EQUAL Z)), .val (.ref b2), .val (.int (7 : Int32)), .val (.int (0 : Int32)), .unset] [(.ref b2)])
  refine own_step (fun _ k => XS.iloadN X1.here hx rfl (hb hby d1_15) rfl k) ?_
  show own_Wp p e below _ T1 (mkF m 16 #[.val (.ref (w9_EQUAL Z)), .val (.ref b2), .val (.int (7 : Int32)), .val (.int (0 : Int32)), .unset] [(.int (0 : Int32)), (.ref b2)])
  obtain ⟨c5, r5, q5, t5, u5, y5h, y5g⟩ := id F1_0
  have i5 : ¬ ((0 : Int32) < 0 ∨ c5.slots.size ≤ ((0 : Int32)).toNatClampNeg) := inb_of t5 ⟨by decide, by decide⟩
  refine own_step (fun _ k => X1.aaload hx (j := (0 : Int32)) (v := (.ref (w20_EQUAL Z))) r5.1 (State.isArrayOf_alike hZ.alike r5.2.1) rfl r5.2.2 i5 (own_get t5 y5h i5 0 rfl) (g := (mkF m 16 #[.val (.ref (w9_EQUAL Z)), .val (.ref b2), .val (.int (7 : Int32)), .val (.int (0 : Int32)), .unset] [(.int (0 : Int32)), (.ref b2)])) rfl rfl (hb hby d1_16) _ k) ?_
  show own_Wp p e below _ T1 (mkF m 17 #[.val (.ref (w9_EQUAL Z)), .val (.ref b2), .val (.int (7 : Int32)), .val (.int (0 : Int32)), .unset] [(.ref (w20_EQUAL Z))])
  refine own_step (fun _ k => XS.astore X1.here hx rfl (hb hby d1_17) rfl rfl (l' := #[.val (.ref (w9_EQUAL Z)), .val (.ref b2), .val (.int (7 : Int32)), .val (.int (0 : Int32)), .val (.ref (w20_EQUAL Z))]) rfl k) ?_
  show own_Wp p e below _ T1 (mkF m 19 #[.val (.ref (w9_EQUAL Z)), .val (.ref b2), .val (.int (7 : Int32)), .val (.int (0 : Int32)), .val (.ref (w20_EQUAL Z))] [])
  refine own_step (fun _ k => XS.aload X1.here hx rfl (hb hby d1_19) rfl rfl k) ?_
  show own_Wp p e below _ T1 (mkF m 21 #[.val (.ref (w9_EQUAL Z)), .val (.ref b2), .val (.int (7 : Int32)), .val (.int (0 : Int32)), .val (.ref (w20_EQUAL Z))] [(.ref (w20_EQUAL Z))])
  obtain ⟨T6, X6, e6, st6⟩ := getF X1 hx hZ hown (host := "") (Or.inl (hw _ (List.mem_of_getElem? (i := 69) rfl))) Via.refl rfl ((fl0 hw hA hS hF).ext O1.2) (g := (mkF m 21 #[.val (.ref (w9_EQUAL Z)), .val (.ref b2), .val (.int (7 : Int32)), .val (.int (0 : Int32)), .val (.ref (w20_EQUAL Z))] [(.ref (w20_EQUAL Z))])) rfl rfl (hb hby d1_21)
  refine own_step st6 ?_
  show own_Wp p e below _ T6 (mkF m 24 #[.val (.ref (w9_EQUAL Z)), .val (.ref b2), .val (.int (7 : Int32)), .val (.int (0 : Int32)), .val (.ref (w20_EQUAL Z))] [(.ref (w9_EQUAL Z))])
  refine own_step (fun _ k => XS.aloadN X6.here hx rfl (hb hby d1_24) rfl rfl k) ?_
  show own_Wp p e below _ T6 (mkF m 25 #[.val (.ref (w9_EQUAL Z)), .val (.ref b2), .val (.int (7 : Int32)), .val (.int (0 : Int32)), .val (.ref (w20_EQUAL Z))] [(.ref (w9_EQUAL Z)), (.ref (w9_EQUAL Z))])
  refine own_step (fun _ k => Jvm.RoadKit.acmp (g := (mkF m 25 #[.val (.ref (w9_EQUAL Z)), .val (.ref b2), .val (.int (7 : Int32)), .val (.int (0 : Int32)), .val (.ref (w20_EQUAL Z))] [(.ref (w9_EQUAL Z)), (.ref (w9_EQUAL Z))])) X6 hx rfl rfl rfl (pc0 := 25) (pc' := 28) (same := true) rfl (hb hby d1_25) rfl (decide_eq_true rfl) (by decide) (by decide) k) ?_
  show own_Wp p e below _ T6 (mkF m 28 #[.val (.ref (w9_EQUAL Z)), .val (.ref b2), .val (.int (7 : Int32)), .val (.int (0 : Int32)), .val (.ref (w20_EQUAL Z))] [])
  refine own_step (fun _ k => XS.aload X6.here hx rfl (hb hby d1_28) rfl rfl k) ?_
  show own_Wp p e below _ T6 (mkF m 30 #[.val (.ref (w9_EQUAL Z)), .val (.ref b2), .val (.int (7 : Int32)), .val (.int (0 : Int32)), .val (.ref (w20_EQUAL Z))] [(.ref (w20_EQUAL Z))])
  obtain ⟨_, T7, L7, X7, hQ7, st7⟩ := own_callS X6 hx hZ hown (hw _ (List.mem_of_getElem? (i := 87) rfl)) (hw _ (List.mem_of_getElem? (i := 88) rfl)) (hw _ (List.mem_of_getElem? (i := 73) rfl)) (hw _ (List.mem_of_getElem? (i := 89) rfl)) (by decide) (rm6_7 l Z a0 hw hA hS hF [] (w20_EQUAL Z) T1.heap n0 O1) (W := 0) (by decide) (by decide) [(.ref (w20_EQUAL Z))] rfl (lenOf pd10 rfl) (Ls := #[.val (.ref (w9_EQUAL Z)), .val (.ref b2), .val (.int (7 : Int32)), .val (.int (0 : Int32)), .val (.ref (w20_EQUAL Z))]) (by rw [hml]; rfl) (rest := []) (Nat.le_of_eq rfl) (hb hby d1_30) e6 (by decide) (by decide)
  refine st7 _ ?_
  obtain ⟨b8, rfl, N7q, K7q, y7_0, F7_0, F7_1⟩ := hQ7
  have N7 := Fr.app N1 N7q
  have g7_0 : n0 ≤ b8 := Nat.le_trans (O1.1 ▸ O1.2.1) y7_0
  have ne7_0_0 : b2 ≠ b8 := Nat.ne_of_lt (Nat.lt_of_lt_of_le F1_0.lt y7_0)
  have u7_0 : h0.size ≤ b8 := Nat.le_trans (K1.1) y7_0
  have O7 := O1.keep K7q all0
  have K7 : Keep h0 T7.heap [] := Keep.trans K1 K7q all0
  show own_Wp p e below _ T7 (mkF m 33 #[.val (.ref (w9_EQUAL Z)), .val (.ref b2), .val (.int (7 : Int32)), .val (.int (0 : Int32)), .val (.ref (w20_EQUAL Z))] [(.ref b8)])
  exact own_retA X7 hx hret rfl rfl hlk (hb hby d1_33) (by decide) (by decide) (⟨b8, rfl, N7, K7, u7_0, F7_0, F7_1⟩)

set_option maxRecDepth 65536 in
set_option maxHeartbeats 40000000 in
theorem rm4_9 (l : Launch) (Z : State) (a0 : Array Value) (hw : ∀ d ∈ tables_1, d.before a0 Z = true) (hA : ∀ d ∈ own_flat narrow_1, d.value a0 Z none Z [] = some true) (hS : ∀ d ∈ jdkStatics_1, d.before a0 Z = true) (hF : Fit Z) (ws : List Jvm.Cond) (px1 : Addr) (h0 : Heap) (n0 : Nat) (O0 : Old Z n0 h0) (P1 : Fld Z h0 px1 "java/util/Optional" "value" "Ljava/lang/Object;" (.ref (w20_EQUAL Z))) :
    own_Met l Z (⟨"java/util/Optional", "orElse", "(Ljava/lang/Object;)Ljava/lang/Object;"⟩ : MethodName) (Jvm.Cond.code (⟨"java/util/Optional", "orElse", "(Ljava/lang/Object;)Ljava/lang/Object;"⟩ : MethodName) jdk_32_method_15_code 2 (some (.object "java/lang/Object"))) ws ({ frames := 0, cells := 0, slots := 0, locals := 0 } : Room) #[(.ref px1), .null] h0 (fun v h L => (v = some (.ref (w20_EQUAL Z)) ∧ Fr n0 L ∧ h = h0)) := by
  refine own_met (own := "java/util/Optional") (plainFor_of_name pn2) rfl ?_
  intro p e s m below meth c s₁ hx hby hml hown hnm hret hlk hZ e0 X0
  refine own_cast (g' := (mkF m 0 #[.val (.ref px1), .val .null] [])) (by first | (simp [entryFrame, mkF, argsToLocals, Value.category]; done) | rfl) ?_
  refine own_step (fun _ k => XS.aloadN X0.here hx rfl (hb hby d4_0) rfl rfl k) ?_
  show own_Wp p e below _ s₁ (mkF m 1 #[.val (.ref px1), .val .null] [(.ref px1)])
  obtain ⟨T1, X1, e1, st1⟩ := getF X0 hx hZ hown (host := "") (Or.inl (hw _ (List.mem_of_getElem? (i := 81) rfl))) Via.refl e0 P1 (g := (mkF m 1 #[.val (.ref px1), .val .null] [(.ref px1)])) rfl rfl (hb hby d4_1)
  refine own_step st1 ?_
  show own_Wp p e below _ T1 (mkF m 4 #[.val (.ref px1), .val .null] [(.ref (w20_EQUAL Z))])
  refine own_step (fun _ k => XS.ifnullNo X1.here hx rfl (hb hby d4_4) rfl k) ?_
  show own_Wp p e below _ T1 (mkF m 7 #[.val (.ref px1), .val .null] [])
  refine own_step (fun _ k => XS.aloadN X1.here hx rfl (hb hby d4_7) rfl rfl k) ?_
  show own_Wp p e below _ T1 (mkF m 8 #[.val (.ref px1), .val .null] [(.ref px1)])
  obtain ⟨T2, X2, e2, st2⟩ := getF X1 hx hZ hown (host := "") (Or.inl (hw _ (List.mem_of_getElem? (i := 81) rfl))) Via.refl e1 P1 (g := (mkF m 8 #[.val (.ref px1), .val .null] [(.ref px1)])) rfl rfl (hb hby d4_8)
  refine own_step st2 ?_
  show own_Wp p e below _ T2 (mkF m 11 #[.val (.ref px1), .val .null] [(.ref (w20_EQUAL Z))])
  refine own_step (fun _ k => XS.goto X2.here hx rfl (pc0 := 11) (pc' := 15) rfl (hb hby d4_11) (by decide) (by decide) k) ?_
  show own_Wp p e below _ T2 (mkF m 15 #[.val (.ref px1), .val .null] [(.ref (w20_EQUAL Z))])
  exact own_retA X2 hx hret rfl rfl hlk (hb hby d4_15) (by decide) (by decide) (by rw [e2]; exact ⟨rfl, (Fr.nil n0), rfl⟩)

set_option maxRecDepth 65536 in
set_option maxHeartbeats 40000000 in
theorem rm5_10 (l : Launch) (Z : State) (a0 : Array Value) (hw : ∀ d ∈ tables_1, d.before a0 Z = true) (hA : ∀ d ∈ own_flat narrow_1, d.value a0 Z none Z [] = some true) (hS : ∀ d ∈ jdkStatics_1, d.before a0 Z = true) (hF : Fit Z) (ws : List Jvm.Cond) (h0 : Heap) (n0 : Nat) (O0 : Old Z n0 h0) :
    own_Met l Z (⟨"com/example/proviso/proviso/expression/ComparisonOperatorSpelledByPinLaw", "expected", "(Lcom/example/proviso/proviso/expression/Lexer$Kind;)Lcom/example/proviso/proviso/expression/ComparisonOperator;"⟩ : MethodName) (Jvm.Cond.code (⟨"com/example/proviso/proviso/expression/ComparisonOperatorSpelledByPinLaw", "expected", "(Lcom/example/proviso/proviso/expression/Lexer$Kind;)Lcom/example/proviso/proviso/expression/ComparisonOperator;"⟩ : MethodName) method_3_code 1 (some (.object "com/example/proviso/proviso/expression/ComparisonOperator"))) ws ({ frames := 0, cells := 0, slots := 0, locals := 0 } : Room) #[(.ref (w9_EQUAL Z))] h0 (fun v h L => (v = some (.ref (w20_EQUAL Z)) ∧ Fr n0 L ∧ h = h0)) := by
  refine own_met (own := "com/example/proviso/proviso/expression/ComparisonOperatorSpelledByPinLaw") (plainFor_of_name pn6) rfl ?_
  intro p e s m below meth c s₁ hx hby hml hown hnm hret hlk hZ e0 X0
  refine own_cast (g' := (mkF m 0 #[.val (.ref (w9_EQUAL Z))] [])) (by first | (simp [entryFrame, mkF, argsToLocals, Value.category]; done) | rfl) ?_
  refine own_step (fun _ k => XS.aloadN X0.here hx rfl (hb hby d5_0) rfl rfl k) ?_
  show own_Wp p e below _ s₁ (mkF m 1 #[.val (.ref (w9_EQUAL Z))] [(.ref (w9_EQUAL Z))])
  obtain ⟨T1, X1, e1, st1⟩ := getS2 X0 hx hZ hown (host := "") (Or.inl (hw _ (List.mem_of_getElem? (i := 22) rfl))) Via.refl e0 ((st_w9_EQUAL hw hA hS hF).ext O0.2) (g := (mkF m 1 #[.val (.ref (w9_EQUAL Z))] [(.ref (w9_EQUAL Z))])) rfl (hb hby d5_1)
  refine own_step st1 ?_
  show own_Wp p e below _ T1 (mkF m 4 #[.val (.ref (w9_EQUAL Z))] [(.ref (w9_EQUAL Z)), (.ref (w9_EQUAL Z))])
  refine own_step (fun _ k => Jvm.RoadKit.acmp (g := (mkF m 4 #[.val (.ref (w9_EQUAL Z))] [(.ref (w9_EQUAL Z)), (.ref (w9_EQUAL Z))])) X1 hx rfl rfl rfl (pc0 := 4) (pc' := 7) (same := true) rfl (hb hby d5_4) rfl (decide_eq_true rfl) (by decide) (by decide) k) ?_
  show own_Wp p e below _ T1 (mkF m 7 #[.val (.ref (w9_EQUAL Z))] [])
  obtain ⟨T2, X2, e2, st2⟩ := getS2 X1 hx hZ hown (host := "") (Or.inl (hw _ (List.mem_of_getElem? (i := 109) rfl))) Via.refl e1 ((st_w20_EQUAL hw hA hS hF).ext O0.2) (g := (mkF m 7 #[.val (.ref (w9_EQUAL Z))] [])) rfl (hb hby d5_7)
  refine own_step st2 ?_
  show own_Wp p e below _ T2 (mkF m 10 #[.val (.ref (w9_EQUAL Z))] [(.ref (w20_EQUAL Z))])
  exact own_retA X2 hx hret rfl rfl hlk (hb hby d5_10) (by decide) (by decide) (by rw [e2]; exact ⟨rfl, (Fr.nil n0), rfl⟩)

set_option maxRecDepth 65536 in
set_option maxHeartbeats 40000000 in
theorem rm1_11 (l : Launch) (Z : State) (a0 : Array Value) (hw : ∀ d ∈ tables_1, d.before a0 Z = true) (hA : ∀ d ∈ own_flat narrow_1, d.value a0 Z none Z [] = some true) (hS : ∀ d ∈ jdkStatics_1, d.before a0 Z = true) (hF : Fit Z) (ws : List Jvm.Cond) (h0 : Heap) (n0 : Nat) (O0 : Old Z n0 h0) :
    own_Met l Z (⟨"com/example/proviso/proviso/expression/ComparisonOperator", "spelledBy", "(Lcom/example/proviso/proviso/expression/Lexer$Kind;)Ljava/util/Optional;"⟩ : MethodName) (Jvm.Cond.code (⟨"com/example/proviso/proviso/expression/ComparisonOperator", "spelledBy", "(Lcom/example/proviso/proviso/expression/Lexer$Kind;)Ljava/util/Optional;"⟩ : MethodName) prog_2_method_4_code 5 (some (.object "java/util/Optional"))) ws ({ frames := 3, cells := 2, slots := 8, locals := 38 } : Room) #[(.ref (w10_NOT_EQUAL Z))] h0 (fun v h L => (∃ (b10 : Addr), v = some (.ref b10) ∧ Fr n0 L ∧ Keep h0 h [] ∧ h0.size ≤ b10 ∧ Exa Z h b10 "java/util/Optional" ∧ Fld Z h b10 "java/util/Optional" "value" "Ljava/lang/Object;" (.ref (w21_NOT_EQUAL Z)))) := by
  refine own_met (own := "com/example/proviso/proviso/expression/ComparisonOperator") (plainFor_of_name pn0) rfl ?_
  intro p e s m below meth c s₁ hx hby hml hown hnm hret hlk hZ e0 X0
  refine own_cast (g' := (mkF m 0 #[.val (.ref (w10_NOT_EQUAL Z)), .unset, .unset, .unset, .unset] [])) (by first | (simp [entryFrame, mkF, argsToLocals, Value.category]; done) | rfl) ?_
  obtain ⟨_, T1, L1, X1, hQ1, st1⟩ := own_callS X0 hx hZ hown (hw _ (List.mem_of_getElem? (i := 47) rfl)) (hw _ (List.mem_of_getElem? (i := 48) rfl)) (hw _ (List.mem_of_getElem? (i := 45) rfl)) (hw _ (List.mem_of_getElem? (i := 49) rfl)) (by decide) (rm2_0 l Z a0 hw hA hS hF [] h0 n0 O0) (W := 0) (by decide) (by decide) [] rfl (lenOf pd1 rfl) (Ls := #[.val (.ref (w10_NOT_EQUAL Z)), .unset, .unset, .unset, .unset]) (by rw [hml]; rfl) (rest := []) (Nat.le_of_eq rfl) (hb hby d1_0) e0 (by decide) (by decide)
  refine st1 _ ?_
  obtain ⟨b2, k3, rfl, N1q, K1q, y1_0, F1_0, F1_1⟩ := hQ1
  have N1 := Fr.app (Fr.nil n0) N1q
  have g1_0 : n0 ≤ b2 := Nat.le_trans (O0.1 ▸ O0.2.1) y1_0
  have u1_0 : h0.size ≤ b2 := Nat.le_trans (Nat.le_refl _) y1_0
  have O1 := O0.keep K1q all0
  have K1 : Keep h0 T1.heap [] := Keep.trans (Keep.refl h0 []) K1q all0
  show own_Wp p e below _ T1 (mkF m 3 #[.val (.ref (w10_NOT_EQUAL Z)), .unset, .unset, .unset, .unset] [(.ref b2)])
  refine own_step (fun _ k => XS.astoreN X1.here hx rfl (hb hby d1_3) rfl rfl (l' := #[.val (.ref (w10_NOT_EQUAL Z)), .val (.ref b2), .unset, .unset, .unset]) rfl k) ?_
  show own_Wp p e below _ T1 (mkF m 4 #[.val (.ref (w10_NOT_EQUAL Z)), .val (.ref b2), .unset, .unset, .unset] [])
  refine own_step (fun _ k => XS.aloadN X1.here hx rfl (hb hby d1_4) rfl rfl k) ?_
  show own_Wp p e below _ T1 (mkF m 5 #[.val (.ref (w10_NOT_EQUAL Z)), .val (.ref b2), .unset, .unset, .unset] [(.ref b2)])
  obtain ⟨c4, r4, q4, t4, u4, y4h, y4g⟩ := id F1_0
  refine own_step (fun _ k => X1.arraylength hx r4.1 (State.isArrayOf_alike hZ.alike r4.2.1) (g := (mkF m 5 #[.val (.ref (w10_NOT_EQUAL Z)), .val (.ref b2), .unset, .unset, .unset] [(.ref b2)])) rfl rfl (hb hby d1_5) _ k) ?_
  rw [len_of t4 u4]
  show own_Wp p e below _ T1 (mkF m 6 #[.val (.ref (w10_NOT_EQUAL Z)), .val (.ref b2), .unset, .unset, .unset] [(.int (7 : Int32))])
  refine own_step (fun _ k => XS.istoreN X1.here hx rfl (hb hby d1_6) rfl (l' := #[.val (.ref (w10_NOT_EQUAL Z)), .val (.ref b2), .val (.int (7 : Int32)), .unset, .unset]) rfl k) ?_
  show own_Wp p e below _ T1 (mkF m 7 #[.val (.ref (w10_NOT_EQUAL Z)), .val (.ref b2), .val (.int (7 : Int32)), .unset, .unset] [])
  refine own_step (fun _ k => XS.iconst X1.here hx rfl (hb hby d1_7) k) ?_
  show own_Wp p e below _ T1 (mkF m 8 #[.val (.ref (w10_NOT_EQUAL Z)), .val (.ref b2), .val (.int (7 : Int32)), .unset, .unset] [(.int (0 : Int32))])
  refine own_step (fun _ k => XS.istoreN X1.here hx rfl (hb hby d1_8) rfl (l' := #[.val (.ref (w10_NOT_EQUAL Z)), .val (.ref b2), .val (.int (7 : Int32)), .val (.int (0 : Int32)), .unset]) rfl k) ?_
  show own_Wp p e below _ T1 (mkF m 9 #[.val (.ref (w10_NOT_EQUAL Z)), .val (.ref b2), .val (.int (7 : Int32)), .val (.int (0 : Int32)), .unset] [])
  refine own_step (fun _ k => XS.iloadN X1.here hx rfl (hb hby d1_9) rfl k) ?_
  show own_Wp p e below _ T1 (mkF m 10 #[.val (.ref (w10_NOT_EQUAL Z)), .val (.ref b2), .val (.int (7 : Int32)), .val (.int (0 : Int32)), .unset] [(.int (0 : Int32))])
  refine own_step (fun _ k => XS.iloadN X1.here hx rfl (hb hby d1_10) rfl k) ?_
  show own_Wp p e below _ T1 (mkF m 11 #[.val (.ref (w10_NOT_EQUAL Z)), .val (.ref b2), .val (.int (7 : Int32)), .val (.int (0 : Int32)), .unset] [(.int (7 : Int32)), (.int (0 : Int32))])
  refine own_step (fun _ k => XS.icmpNo X1.here hx rfl (hb hby d1_11) rfl (by decide) k) ?_
  show own_Wp p e below _ T1 (mkF m 14 #[.val (.ref (w10_NOT_EQUAL Z)), .val (.ref b2), .val (.int (7 : Int32)), .val (.int (0 : Int32)), .unset] [])
  refine own_step (fun _ k => XS.aloadN X1.here hx rfl (hb hby d1_14) rfl rfl k) ?_
  show own_Wp p e below _ T1 (mkF m 15 #[.val (.ref (w10_NOT_EQUAL Z)), .val (.ref b2), .val (.int (7 : Int32)), .val (.int (0 : Int32)), .unset] [(.ref b2)])
  refine own_step (fun _ k => XS.iloadN X1.here hx rfl (hb hby d1_15) rfl k) ?_
  show own_Wp p e below _ T1 (mkF m 16 #[.val (.ref (w10_NOT_EQUAL Z)), .val (.ref b2), .val (.int (7 : Int32)), .val (.int (0 : Int32)), .unset] [(.int (0 : Int32)), (.ref b2)])
  obtain ⟨c5, r5, q5, t5, u5, y5h, y5g⟩ := id F1_0
  have i5 : ¬ ((0 : Int32) < 0 ∨ c5.slots.size ≤ ((0 : Int32)).toNatClampNeg) := inb_of t5 ⟨by decide, by decide⟩
  refine own_step (fun _ k => X1.aaload hx (j := (0 : Int32)) (v := (.ref (w20_EQUAL Z))) r5.1 (State.isArrayOf_alike hZ.alike r5.2.1) rfl r5.2.2 i5 (own_get t5 y5h i5 0 rfl) (g := (mkF m 16 #[.val (.ref (w10_NOT_EQUAL Z)), .val (.ref b2), .val (.int (7 : Int32)), .val (.int (0 : Int32)), .unset] [(.int (0 : Int32)), (.ref b2)])) rfl rfl (hb hby d1_16) _ k) ?_
  show own_Wp p e below _ T1 (mkF m 17 #[.val (.ref (w10_NOT_EQUAL Z)), .val (.ref b2), .val (.int (7 : Int32)), .val (.int (0 : Int32)), .unset] [(.ref (w20_EQUAL Z))])
  refine own_step (fun _ k => XS.astore X1.here hx rfl (hb hby d1_17) rfl rfl (l' := #[.val (.ref (w10_NOT_EQUAL Z)), .val (.ref b2), .val (.int (7 : Int32)), .val (.int (0 : Int32)), .val (.ref (w20_EQUAL Z))]) rfl k) ?_
  show own_Wp p e below _ T1 (mkF m 19 #[.val (.ref (w10_NOT_EQUAL Z)), .val (.ref b2), .val (.int (7 : Int32)), .val (.int (0 : Int32)), .val (.ref (w20_EQUAL Z))] [])
  refine own_step (fun _ k => XS.aload X1.here hx rfl (hb hby d1_19) rfl rfl k) ?_
  show own_Wp p e below _ T1 (mkF m 21 #[.val (.ref (w10_NOT_EQUAL Z)), .val (.ref b2), .val (.int (7 : Int32)), .val (.int (0 : Int32)), .val (.ref (w20_EQUAL Z))] [(.ref (w20_EQUAL Z))])
  obtain ⟨T6, X6, e6, st6⟩ := getF X1 hx hZ hown (host := "") (Or.inl (hw _ (List.mem_of_getElem? (i := 69) rfl))) Via.refl rfl ((fl0 hw hA hS hF).ext O1.2) (g := (mkF m 21 #[.val (.ref (w10_NOT_EQUAL Z)), .val (.ref b2), .val (.int (7 : Int32)), .val (.int (0 : Int32)), .val (.ref (w20_EQUAL Z))] [(.ref (w20_EQUAL Z))])) rfl rfl (hb hby d1_21)
  refine own_step st6 ?_
  show own_Wp p e below _ T6 (mkF m 24 #[.val (.ref (w10_NOT_EQUAL Z)), .val (.ref b2), .val (.int (7 : Int32)), .val (.int (0 : Int32)), .val (.ref (w20_EQUAL Z))] [(.ref (w9_EQUAL Z))])
  refine own_step (fun _ k => XS.aloadN X6.here hx rfl (hb hby d1_24) rfl rfl k) ?_
  show own_Wp p e below _ T6 (mkF m 25 #[.val (.ref (w10_NOT_EQUAL Z)), .val (.ref b2), .val (.int (7 : Int32)), .val (.int (0 : Int32)), .val (.ref (w20_EQUAL Z))] [(.ref (w10_NOT_EQUAL Z)), (.ref (w9_EQUAL Z))])
  refine own_step (fun _ k => Jvm.RoadKit.acmp (g := (mkF m 25 #[.val (.ref (w10_NOT_EQUAL Z)), .val (.ref b2), .val (.int (7 : Int32)), .val (.int (0 : Int32)), .val (.ref (w20_EQUAL Z))] [(.ref (w10_NOT_EQUAL Z)), (.ref (w9_EQUAL Z))])) X6 hx rfl rfl rfl (pc0 := 25) (pc' := 34) (same := false) rfl (hb hby d1_25) rfl (decide_eq_false fun q => (Fld.ne (fl1 hw hA hS hF) (fl4 hw hA hS hF) (by decide)) (Value.ref.inj q)) (by decide) (by decide) k) ?_
  show own_Wp p e below _ T6 (mkF m 34 #[.val (.ref (w10_NOT_EQUAL Z)), .val (.ref b2), .val (.int (7 : Int32)), .val (.int (0 : Int32)), .val (.ref (w20_EQUAL Z))] [])
  refine own_step (fun _ k => XS.iinc X6.here hx rfl (hb hby d1_34) rfl (l' := #[.val (.ref (w10_NOT_EQUAL Z)), .val (.ref b2), .val (.int (7 : Int32)), .val (.int ((0 : Int32) + (1 : Int32))), .val (.ref (w20_EQUAL Z))]) rfl k) ?_
  show own_Wp p e below _ T6 (mkF m 37 #[.val (.ref (w10_NOT_EQUAL Z)), .val (.ref b2), .val (.int (7 : Int32)), .val (.int ((0 : Int32) + (1 : Int32))), .val (.ref (w20_EQUAL Z))] [])
  rw [(by decide : ((0 : Int32) + (1 : Int32)) = (1 : Int32))]
  show own_Wp p e below _ T6 (mkF m 37 #[.val (.ref (w10_NOT_EQUAL Z)), .val (.ref b2), .val (.int (7 : Int32)), .val (.int (1 : Int32)), .val (.ref (w20_EQUAL Z))] [])
  refine own_step (fun _ k => XS.goto X6.here hx rfl (pc0 := 37) (pc' := 9) rfl (hb hby d1_37) (by decide) (by decide) k) ?_
  show own_Wp p e below _ T6 (mkF m 9 #[.val (.ref (w10_NOT_EQUAL Z)), .val (.ref b2), .val (.int (7 : Int32)), .val (.int (1 : Int32)), .val (.ref (w20_EQUAL Z))] [])
  refine own_step (fun _ k => XS.iloadN X6.here hx rfl (hb hby d1_9) rfl k) ?_
  show own_Wp p e below _ T6 (mkF m 10 #[.val (.ref (w10_NOT_EQUAL Z)), .val (.ref b2), .val (.int (7 : Int32)), .val (.int (1 : Int32)), .val (.ref (w20_EQUAL Z))] [(.int (1 : Int32))])
  refine own_step (fun _ k => XS.iloadN X6.here hx rfl (hb hby d1_10) rfl k) ?_
  show own_Wp p e below _ T6 (mkF m 11 #[.val (.ref (w10_NOT_EQUAL Z)), .val (.ref b2), .val (.int (7 : Int32)), .val (.int (1 : Int32)), .val (.ref (w20_EQUAL Z))] [(.int (7 : Int32)), (.int (1 : Int32))])
  refine own_step (fun _ k => XS.icmpNo X6.here hx rfl (hb hby d1_11) rfl (by decide) k) ?_
  show own_Wp p e below _ T6 (mkF m 14 #[.val (.ref (w10_NOT_EQUAL Z)), .val (.ref b2), .val (.int (7 : Int32)), .val (.int (1 : Int32)), .val (.ref (w20_EQUAL Z))] [])
  refine own_step (fun _ k => XS.aloadN X6.here hx rfl (hb hby d1_14) rfl rfl k) ?_
  show own_Wp p e below _ T6 (mkF m 15 #[.val (.ref (w10_NOT_EQUAL Z)), .val (.ref b2), .val (.int (7 : Int32)), .val (.int (1 : Int32)), .val (.ref (w20_EQUAL Z))] [(.ref b2)])
  refine own_step (fun _ k => XS.iloadN X6.here hx rfl (hb hby d1_15) rfl k) ?_
  show own_Wp p e below _ T6 (mkF m 16 #[.val (.ref (w10_NOT_EQUAL Z)), .val (.ref b2), .val (.int (7 : Int32)), .val (.int (1 : Int32)), .val (.ref (w20_EQUAL Z))] [(.int (1 : Int32)), (.ref b2)])
  obtain ⟨c7, r7, q7, t7, u7, y7h, y7g⟩ := id F1_0
  have i7 : ¬ ((1 : Int32) < 0 ∨ c7.slots.size ≤ ((1 : Int32)).toNatClampNeg) := inb_of t7 ⟨by decide, by decide⟩
  refine own_step (fun _ k => X6.aaload hx (j := (1 : Int32)) (v := (.ref (w21_NOT_EQUAL Z))) (by rw [e6]; exact r7.1) (State.isArrayOf_alike hZ.alike r7.2.1) rfl r7.2.2 i7 (own_get t7 y7h i7 1 rfl) (g := (mkF m 16 #[.val (.ref (w10_NOT_EQUAL Z)), .val (.ref b2), .val (.int (7 : Int32)), .val (.int (1 : Int32)), .val (.ref (w20_EQUAL Z))] [(.int (1 : Int32)), (.ref b2)])) rfl rfl (hb hby d1_16) _ k) ?_
  show own_Wp p e below _ T6 (mkF m 17 #[.val (.ref (w10_NOT_EQUAL Z)), .val (.ref b2), .val (.int (7 : Int32)), .val (.int (1 : Int32)), .val (.ref (w20_EQUAL Z))] [(.ref (w21_NOT_EQUAL Z))])
  refine own_step (fun _ k => XS.astore X6.here hx rfl (hb hby d1_17) rfl rfl (l' := #[.val (.ref (w10_NOT_EQUAL Z)), .val (.ref b2), .val (.int (7 : Int32)), .val (.int (1 : Int32)), .val (.ref (w21_NOT_EQUAL Z))]) rfl k) ?_
  show own_Wp p e below _ T6 (mkF m 19 #[.val (.ref (w10_NOT_EQUAL Z)), .val (.ref b2), .val (.int (7 : Int32)), .val (.int (1 : Int32)), .val (.ref (w21_NOT_EQUAL Z))] [])
  refine own_step (fun _ k => XS.aload X6.here hx rfl (hb hby d1_19) rfl rfl k) ?_
  show own_Wp p e below _ T6 (mkF m 21 #[.val (.ref (w10_NOT_EQUAL Z)), .val (.ref b2), .val (.int (7 : Int32)), .val (.int (1 : Int32)), .val (.ref (w21_NOT_EQUAL Z))] [(.ref (w21_NOT_EQUAL Z))])
  obtain ⟨T8, X8, e8, st8⟩ := getF X6 hx hZ hown (host := "") (Or.inl (hw _ (List.mem_of_getElem? (i := 69) rfl))) Via.refl e6 ((fl3 hw hA hS hF).ext O1.2) (g := (mkF m 21 #[.val (.ref (w10_NOT_EQUAL Z)), .val (.ref b2), .val (.int (7 : Int32)), .val (.int (1 : Int32)), .val (.ref (w21_NOT_EQUAL Z))] [(.ref (w21_NOT_EQUAL Z))])) rfl rfl (hb hby d1_21)
  refine own_step st8 ?_
  show own_Wp p e below _ T8 (mkF m 24 #[.val (.ref (w10_NOT_EQUAL Z)), .val (.ref b2), .val (.int (7 : Int32)), .val (.int (1 : Int32)), .val (.ref (w21_NOT_EQUAL Z))] [(.ref (w10_NOT_EQUAL Z))])
  refine own_step (fun _ k => XS.aloadN X8.here hx rfl (hb hby d1_24) rfl rfl k) ?_
  show own_Wp p e below _ T8 (mkF m 25 #[.val (.ref (w10_NOT_EQUAL Z)), .val (.ref b2), .val (.int (7 : Int32)), .val (.int (1 : Int32)), .val (.ref (w21_NOT_EQUAL Z))] [(.ref (w10_NOT_EQUAL Z)), (.ref (w10_NOT_EQUAL Z))])
  refine own_step (fun _ k => Jvm.RoadKit.acmp (g := (mkF m 25 #[.val (.ref (w10_NOT_EQUAL Z)), .val (.ref b2), .val (.int (7 : Int32)), .val (.int (1 : Int32)), .val (.ref (w21_NOT_EQUAL Z))] [(.ref (w10_NOT_EQUAL Z)), (.ref (w10_NOT_EQUAL Z))])) X8 hx rfl rfl rfl (pc0 := 25) (pc' := 28) (same := true) rfl (hb hby d1_25) rfl (decide_eq_true rfl) (by decide) (by decide) k) ?_
  show own_Wp p e below _ T8 (mkF m 28 #[.val (.ref (w10_NOT_EQUAL Z)), .val (.ref b2), .val (.int (7 : Int32)), .val (.int (1 : Int32)), .val (.ref (w21_NOT_EQUAL Z))] [])
  refine own_step (fun _ k => XS.aload X8.here hx rfl (hb hby d1_28) rfl rfl k) ?_
  show own_Wp p e below _ T8 (mkF m 30 #[.val (.ref (w10_NOT_EQUAL Z)), .val (.ref b2), .val (.int (7 : Int32)), .val (.int (1 : Int32)), .val (.ref (w21_NOT_EQUAL Z))] [(.ref (w21_NOT_EQUAL Z))])
  obtain ⟨_, T9, L9, X9, hQ9, st9⟩ := own_callS X8 hx hZ hown (hw _ (List.mem_of_getElem? (i := 87) rfl)) (hw _ (List.mem_of_getElem? (i := 88) rfl)) (hw _ (List.mem_of_getElem? (i := 73) rfl)) (hw _ (List.mem_of_getElem? (i := 89) rfl)) (by decide) (rm6_7 l Z a0 hw hA hS hF [] (w21_NOT_EQUAL Z) T1.heap n0 O1) (W := 0) (by decide) (by decide) [(.ref (w21_NOT_EQUAL Z))] rfl (lenOf pd10 rfl) (Ls := #[.val (.ref (w10_NOT_EQUAL Z)), .val (.ref b2), .val (.int (7 : Int32)), .val (.int (1 : Int32)), .val (.ref (w21_NOT_EQUAL Z))]) (by rw [hml]; rfl) (rest := []) (Nat.le_of_eq rfl) (hb hby d1_30) e8 (by decide) (by decide)
  refine st9 _ ?_
  obtain ⟨b10, rfl, N9q, K9q, y9_0, F9_0, F9_1⟩ := hQ9
  have N9 := Fr.app N1 N9q
  have g9_0 : n0 ≤ b10 := Nat.le_trans (O1.1 ▸ O1.2.1) y9_0
  have ne9_0_0 : b2 ≠ b10 := Nat.ne_of_lt (Nat.lt_of_lt_of_le F1_0.lt y9_0)
  have u9_0 : h0.size ≤ b10 := Nat.le_trans (K1.1) y9_0
  have O9 := O1.keep K9q all0
  have K9 : Keep h0 T9.heap [] := Keep.trans K1 K9q all0
  show own_Wp p e below _ T9 (mkF m 33 #[.val (.ref (w10_NOT_EQUAL Z)), .val (.ref b2), .val (.int (7 : Int32)), .val (.int (1 : Int32)), .val (.ref (w21_NOT_EQUAL Z))] [(.ref b10)])
  exact own_retA X9 hx hret rfl rfl hlk (hb hby d1_33) (by decide) (by decide) (⟨b10, rfl, N9, K9, u9_0, F9_0, F9_1⟩)

set_option maxRecDepth 65536 in
set_option maxHeartbeats 40000000 in
theorem rm4_12 (l : Launch) (Z : State) (a0 : Array Value) (hw : ∀ d ∈ tables_1, d.before a0 Z = true) (hA : ∀ d ∈ own_flat narrow_1, d.value a0 Z none Z [] = some true) (hS : ∀ d ∈ jdkStatics_1, d.before a0 Z = true) (hF : Fit Z) (ws : List Jvm.Cond) (px1 : Addr) (h0 : Heap) (n0 : Nat) (O0 : Old Z n0 h0) (P1 : Fld Z h0 px1 "java/util/Optional" "value" "Ljava/lang/Object;" (.ref (w21_NOT_EQUAL Z))) :
    own_Met l Z (⟨"java/util/Optional", "orElse", "(Ljava/lang/Object;)Ljava/lang/Object;"⟩ : MethodName) (Jvm.Cond.code (⟨"java/util/Optional", "orElse", "(Ljava/lang/Object;)Ljava/lang/Object;"⟩ : MethodName) jdk_32_method_15_code 2 (some (.object "java/lang/Object"))) ws ({ frames := 0, cells := 0, slots := 0, locals := 0 } : Room) #[(.ref px1), .null] h0 (fun v h L => (v = some (.ref (w21_NOT_EQUAL Z)) ∧ Fr n0 L ∧ h = h0)) := by
  refine own_met (own := "java/util/Optional") (plainFor_of_name pn2) rfl ?_
  intro p e s m below meth c s₁ hx hby hml hown hnm hret hlk hZ e0 X0
  refine own_cast (g' := (mkF m 0 #[.val (.ref px1), .val .null] [])) (by first | (simp [entryFrame, mkF, argsToLocals, Value.category]; done) | rfl) ?_
  refine own_step (fun _ k => XS.aloadN X0.here hx rfl (hb hby d4_0) rfl rfl k) ?_
  show own_Wp p e below _ s₁ (mkF m 1 #[.val (.ref px1), .val .null] [(.ref px1)])
  obtain ⟨T1, X1, e1, st1⟩ := getF X0 hx hZ hown (host := "") (Or.inl (hw _ (List.mem_of_getElem? (i := 81) rfl))) Via.refl e0 P1 (g := (mkF m 1 #[.val (.ref px1), .val .null] [(.ref px1)])) rfl rfl (hb hby d4_1)
  refine own_step st1 ?_
  show own_Wp p e below _ T1 (mkF m 4 #[.val (.ref px1), .val .null] [(.ref (w21_NOT_EQUAL Z))])
  refine own_step (fun _ k => XS.ifnullNo X1.here hx rfl (hb hby d4_4) rfl k) ?_
  show own_Wp p e below _ T1 (mkF m 7 #[.val (.ref px1), .val .null] [])
  refine own_step (fun _ k => XS.aloadN X1.here hx rfl (hb hby d4_7) rfl rfl k) ?_
  show own_Wp p e below _ T1 (mkF m 8 #[.val (.ref px1), .val .null] [(.ref px1)])
  obtain ⟨T2, X2, e2, st2⟩ := getF X1 hx hZ hown (host := "") (Or.inl (hw _ (List.mem_of_getElem? (i := 81) rfl))) Via.refl e1 P1 (g := (mkF m 8 #[.val (.ref px1), .val .null] [(.ref px1)])) rfl rfl (hb hby d4_8)
  refine own_step st2 ?_
  show own_Wp p e below _ T2 (mkF m 11 #[.val (.ref px1), .val .null] [(.ref (w21_NOT_EQUAL Z))])
  refine own_step (fun _ k => XS.goto X2.here hx rfl (pc0 := 11) (pc' := 15) rfl (hb hby d4_11) (by decide) (by decide) k) ?_
  show own_Wp p e below _ T2 (mkF m 15 #[.val (.ref px1), .val .null] [(.ref (w21_NOT_EQUAL Z))])
  exact own_retA X2 hx hret rfl rfl hlk (hb hby d4_15) (by decide) (by decide) (by rw [e2]; exact ⟨rfl, (Fr.nil n0), rfl⟩)

set_option maxRecDepth 65536 in
set_option maxHeartbeats 40000000 in
theorem rm5_13 (l : Launch) (Z : State) (a0 : Array Value) (hw : ∀ d ∈ tables_1, d.before a0 Z = true) (hA : ∀ d ∈ own_flat narrow_1, d.value a0 Z none Z [] = some true) (hS : ∀ d ∈ jdkStatics_1, d.before a0 Z = true) (hF : Fit Z) (ws : List Jvm.Cond) (h0 : Heap) (n0 : Nat) (O0 : Old Z n0 h0) :
    own_Met l Z (⟨"com/example/proviso/proviso/expression/ComparisonOperatorSpelledByPinLaw", "expected", "(Lcom/example/proviso/proviso/expression/Lexer$Kind;)Lcom/example/proviso/proviso/expression/ComparisonOperator;"⟩ : MethodName) (Jvm.Cond.code (⟨"com/example/proviso/proviso/expression/ComparisonOperatorSpelledByPinLaw", "expected", "(Lcom/example/proviso/proviso/expression/Lexer$Kind;)Lcom/example/proviso/proviso/expression/ComparisonOperator;"⟩ : MethodName) method_3_code 1 (some (.object "com/example/proviso/proviso/expression/ComparisonOperator"))) ws ({ frames := 0, cells := 0, slots := 0, locals := 0 } : Room) #[(.ref (w10_NOT_EQUAL Z))] h0 (fun v h L => (v = some (.ref (w21_NOT_EQUAL Z)) ∧ Fr n0 L ∧ h = h0)) := by
  refine own_met (own := "com/example/proviso/proviso/expression/ComparisonOperatorSpelledByPinLaw") (plainFor_of_name pn6) rfl ?_
  intro p e s m below meth c s₁ hx hby hml hown hnm hret hlk hZ e0 X0
  refine own_cast (g' := (mkF m 0 #[.val (.ref (w10_NOT_EQUAL Z))] [])) (by first | (simp [entryFrame, mkF, argsToLocals, Value.category]; done) | rfl) ?_
  refine own_step (fun _ k => XS.aloadN X0.here hx rfl (hb hby d5_0) rfl rfl k) ?_
  show own_Wp p e below _ s₁ (mkF m 1 #[.val (.ref (w10_NOT_EQUAL Z))] [(.ref (w10_NOT_EQUAL Z))])
  obtain ⟨T1, X1, e1, st1⟩ := getS2 X0 hx hZ hown (host := "") (Or.inl (hw _ (List.mem_of_getElem? (i := 22) rfl))) Via.refl e0 ((st_w9_EQUAL hw hA hS hF).ext O0.2) (g := (mkF m 1 #[.val (.ref (w10_NOT_EQUAL Z))] [(.ref (w10_NOT_EQUAL Z))])) rfl (hb hby d5_1)
  refine own_step st1 ?_
  show own_Wp p e below _ T1 (mkF m 4 #[.val (.ref (w10_NOT_EQUAL Z))] [(.ref (w9_EQUAL Z)), (.ref (w10_NOT_EQUAL Z))])
  refine own_step (fun _ k => Jvm.RoadKit.acmp (g := (mkF m 4 #[.val (.ref (w10_NOT_EQUAL Z))] [(.ref (w9_EQUAL Z)), (.ref (w10_NOT_EQUAL Z))])) X1 hx rfl rfl rfl (pc0 := 4) (pc' := 11) (same := false) rfl (hb hby d5_4) rfl (decide_eq_false fun q => (Fld.ne (fl4 hw hA hS hF) (fl1 hw hA hS hF) (by decide)) (Value.ref.inj q)) (by decide) (by decide) k) ?_
  show own_Wp p e below _ T1 (mkF m 11 #[.val (.ref (w10_NOT_EQUAL Z))] [])
  refine own_step (fun _ k => XS.aloadN X1.here hx rfl (hb hby d5_11) rfl rfl k) ?_
  show own_Wp p e below _ T1 (mkF m 12 #[.val (.ref (w10_NOT_EQUAL Z))] [(.ref (w10_NOT_EQUAL Z))])
  obtain ⟨T2, X2, e2, st2⟩ := getS2 X1 hx hZ hown (host := "") (Or.inl (hw _ (List.mem_of_getElem? (i := 24) rfl))) Via.refl e1 ((st_w10_NOT_EQUAL hw hA hS hF).ext O0.2) (g := (mkF m 12 #[.val (.ref (w10_NOT_EQUAL Z))] [(.ref (w10_NOT_EQUAL Z))])) rfl (hb hby d5_12)
  refine own_step st2 ?_
  show own_Wp p e below _ T2 (mkF m 15 #[.val (.ref (w10_NOT_EQUAL Z))] [(.ref (w10_NOT_EQUAL Z)), (.ref (w10_NOT_EQUAL Z))])
  refine own_step (fun _ k => Jvm.RoadKit.acmp (g := (mkF m 15 #[.val (.ref (w10_NOT_EQUAL Z))] [(.ref (w10_NOT_EQUAL Z)), (.ref (w10_NOT_EQUAL Z))])) X2 hx rfl rfl rfl (pc0 := 15) (pc' := 18) (same := true) rfl (hb hby d5_15) rfl (decide_eq_true rfl) (by decide) (by decide) k) ?_
  show own_Wp p e below _ T2 (mkF m 18 #[.val (.ref (w10_NOT_EQUAL Z))] [])
  obtain ⟨T3, X3, e3, st3⟩ := getS2 X2 hx hZ hown (host := "") (Or.inl (hw _ (List.mem_of_getElem? (i := 107) rfl))) Via.refl e2 ((st_w21_NOT_EQUAL hw hA hS hF).ext O0.2) (g := (mkF m 18 #[.val (.ref (w10_NOT_EQUAL Z))] [])) rfl (hb hby d5_18)
  refine own_step st3 ?_
  show own_Wp p e below _ T3 (mkF m 21 #[.val (.ref (w10_NOT_EQUAL Z))] [(.ref (w21_NOT_EQUAL Z))])
  exact own_retA X3 hx hret rfl rfl hlk (hb hby d5_21) (by decide) (by decide) (by rw [e3]; exact ⟨rfl, (Fr.nil n0), rfl⟩)

set_option maxRecDepth 65536 in
set_option maxHeartbeats 40000000 in
theorem rm1_14 (l : Launch) (Z : State) (a0 : Array Value) (hw : ∀ d ∈ tables_1, d.before a0 Z = true) (hA : ∀ d ∈ own_flat narrow_1, d.value a0 Z none Z [] = some true) (hS : ∀ d ∈ jdkStatics_1, d.before a0 Z = true) (hF : Fit Z) (ws : List Jvm.Cond) (h0 : Heap) (n0 : Nat) (O0 : Old Z n0 h0) :
    own_Met l Z (⟨"com/example/proviso/proviso/expression/ComparisonOperator", "spelledBy", "(Lcom/example/proviso/proviso/expression/Lexer$Kind;)Ljava/util/Optional;"⟩ : MethodName) (Jvm.Cond.code (⟨"com/example/proviso/proviso/expression/ComparisonOperator", "spelledBy", "(Lcom/example/proviso/proviso/expression/Lexer$Kind;)Ljava/util/Optional;"⟩ : MethodName) prog_2_method_4_code 5 (some (.object "java/util/Optional"))) ws ({ frames := 3, cells := 2, slots := 8, locals := 38 } : Room) #[(.ref (w11_MATCH Z))] h0 (fun v h L => (∃ (b12 : Addr), v = some (.ref b12) ∧ Fr n0 L ∧ Keep h0 h [] ∧ h0.size ≤ b12 ∧ Exa Z h b12 "java/util/Optional" ∧ Fld Z h b12 "java/util/Optional" "value" "Ljava/lang/Object;" (.ref (w22_MATCH Z)))) := by
  refine own_met (own := "com/example/proviso/proviso/expression/ComparisonOperator") (plainFor_of_name pn0) rfl ?_
  intro p e s m below meth c s₁ hx hby hml hown hnm hret hlk hZ e0 X0
  refine own_cast (g' := (mkF m 0 #[.val (.ref (w11_MATCH Z)), .unset, .unset, .unset, .unset] [])) (by first | (simp [entryFrame, mkF, argsToLocals, Value.category]; done) | rfl) ?_
  obtain ⟨_, T1, L1, X1, hQ1, st1⟩ := own_callS X0 hx hZ hown (hw _ (List.mem_of_getElem? (i := 47) rfl)) (hw _ (List.mem_of_getElem? (i := 48) rfl)) (hw _ (List.mem_of_getElem? (i := 45) rfl)) (hw _ (List.mem_of_getElem? (i := 49) rfl)) (by decide) (rm2_0 l Z a0 hw hA hS hF [] h0 n0 O0) (W := 0) (by decide) (by decide) [] rfl (lenOf pd1 rfl) (Ls := #[.val (.ref (w11_MATCH Z)), .unset, .unset, .unset, .unset]) (by rw [hml]; rfl) (rest := []) (Nat.le_of_eq rfl) (hb hby d1_0) e0 (by decide) (by decide)
  refine st1 _ ?_
  obtain ⟨b2, k3, rfl, N1q, K1q, y1_0, F1_0, F1_1⟩ := hQ1
  have N1 := Fr.app (Fr.nil n0) N1q
  have g1_0 : n0 ≤ b2 := Nat.le_trans (O0.1 ▸ O0.2.1) y1_0
  have u1_0 : h0.size ≤ b2 := Nat.le_trans (Nat.le_refl _) y1_0
  have O1 := O0.keep K1q all0
  have K1 : Keep h0 T1.heap [] := Keep.trans (Keep.refl h0 []) K1q all0
  show own_Wp p e below _ T1 (mkF m 3 #[.val (.ref (w11_MATCH Z)), .unset, .unset, .unset, .unset] [(.ref b2)])
  refine own_step (fun _ k => XS.astoreN X1.here hx rfl (hb hby d1_3) rfl rfl (l' := #[.val (.ref (w11_MATCH Z)), .val (.ref b2), .unset, .unset, .unset]) rfl k) ?_
  show own_Wp p e below _ T1 (mkF m 4 #[.val (.ref (w11_MATCH Z)), .val (.ref b2), .unset, .unset, .unset] [])
  refine own_step (fun _ k => XS.aloadN X1.here hx rfl (hb hby d1_4) rfl rfl k) ?_
  show own_Wp p e below _ T1 (mkF m 5 #[.val (.ref (w11_MATCH Z)), .val (.ref b2), .unset, .unset, .unset] [(.ref b2)])
  obtain ⟨c4, r4, q4, t4, u4, y4h, y4g⟩ := id F1_0
  refine own_step (fun _ k => X1.arraylength hx r4.1 (State.isArrayOf_alike hZ.alike r4.2.1) (g := (mkF m 5 #[.val (.ref (w11_MATCH Z)), .val (.ref b2), .unset, .unset, .unset] [(.ref b2)])) rfl rfl (hb hby d1_5) _ k) ?_
  rw [len_of t4 u4]
  show own_Wp p e below _ T1 (mkF m 6 #[.val (.ref (w11_MATCH Z)), .val (.ref b2), .unset, .unset, .unset] [(.int (7 : Int32))])
  refine own_step (fun _ k => XS.istoreN X1.here hx rfl (hb hby d1_6) rfl (l' := #[.val (.ref (w11_MATCH Z)), .val (.ref b2), .val (.int (7 : Int32)), .unset, .unset]) rfl k) ?_
  show own_Wp p e below _ T1 (mkF m 7 #[.val (.ref (w11_MATCH Z)), .val (.ref b2), .val (.int (7 : Int32)), .unset, .unset] [])
  refine own_step (fun _ k => XS.iconst X1.here hx rfl (hb hby d1_7) k) ?_
  show own_Wp p e below _ T1 (mkF m 8 #[.val (.ref (w11_MATCH Z)), .val (.ref b2), .val (.int (7 : Int32)), .unset, .unset] [(.int (0 : Int32))])
  refine own_step (fun _ k => XS.istoreN X1.here hx rfl (hb hby d1_8) rfl (l' := #[.val (.ref (w11_MATCH Z)), .val (.ref b2), .val (.int (7 : Int32)), .val (.int (0 : Int32)), .unset]) rfl k) ?_
  show own_Wp p e below _ T1 (mkF m 9 #[.val (.ref (w11_MATCH Z)), .val (.ref b2), .val (.int (7 : Int32)), .val (.int (0 : Int32)), .unset] [])
  refine own_step (fun _ k => XS.iloadN X1.here hx rfl (hb hby d1_9) rfl k) ?_
  show own_Wp p e below _ T1 (mkF m 10 #[.val (.ref (w11_MATCH Z)), .val (.ref b2), .val (.int (7 : Int32)), .val (.int (0 : Int32)), .unset] [(.int (0 : Int32))])
  refine own_step (fun _ k => XS.iloadN X1.here hx rfl (hb hby d1_10) rfl k) ?_
  show own_Wp p e below _ T1 (mkF m 11 #[.val (.ref (w11_MATCH Z)), .val (.ref b2), .val (.int (7 : Int32)), .val (.int (0 : Int32)), .unset] [(.int (7 : Int32)), (.int (0 : Int32))])
  refine own_step (fun _ k => XS.icmpNo X1.here hx rfl (hb hby d1_11) rfl (by decide) k) ?_
  show own_Wp p e below _ T1 (mkF m 14 #[.val (.ref (w11_MATCH Z)), .val (.ref b2), .val (.int (7 : Int32)), .val (.int (0 : Int32)), .unset] [])
  refine own_step (fun _ k => XS.aloadN X1.here hx rfl (hb hby d1_14) rfl rfl k) ?_
  show own_Wp p e below _ T1 (mkF m 15 #[.val (.ref (w11_MATCH Z)), .val (.ref b2), .val (.int (7 : Int32)), .val (.int (0 : Int32)), .unset] [(.ref b2)])
  refine own_step (fun _ k => XS.iloadN X1.here hx rfl (hb hby d1_15) rfl k) ?_
  show own_Wp p e below _ T1 (mkF m 16 #[.val (.ref (w11_MATCH Z)), .val (.ref b2), .val (.int (7 : Int32)), .val (.int (0 : Int32)), .unset] [(.int (0 : Int32)), (.ref b2)])
  obtain ⟨c5, r5, q5, t5, u5, y5h, y5g⟩ := id F1_0
  have i5 : ¬ ((0 : Int32) < 0 ∨ c5.slots.size ≤ ((0 : Int32)).toNatClampNeg) := inb_of t5 ⟨by decide, by decide⟩
  refine own_step (fun _ k => X1.aaload hx (j := (0 : Int32)) (v := (.ref (w20_EQUAL Z))) r5.1 (State.isArrayOf_alike hZ.alike r5.2.1) rfl r5.2.2 i5 (own_get t5 y5h i5 0 rfl) (g := (mkF m 16 #[.val (.ref (w11_MATCH Z)), .val (.ref b2), .val (.int (7 : Int32)), .val (.int (0 : Int32)), .unset] [(.int (0 : Int32)), (.ref b2)])) rfl rfl (hb hby d1_16) _ k) ?_
  show own_Wp p e below _ T1 (mkF m 17 #[.val (.ref (w11_MATCH Z)), .val (.ref b2), .val (.int (7 : Int32)), .val (.int (0 : Int32)), .unset] [(.ref (w20_EQUAL Z))])
  refine own_step (fun _ k => XS.astore X1.here hx rfl (hb hby d1_17) rfl rfl (l' := #[.val (.ref (w11_MATCH Z)), .val (.ref b2), .val (.int (7 : Int32)), .val (.int (0 : Int32)), .val (.ref (w20_EQUAL Z))]) rfl k) ?_
  show own_Wp p e below _ T1 (mkF m 19 #[.val (.ref (w11_MATCH Z)), .val (.ref b2), .val (.int (7 : Int32)), .val (.int (0 : Int32)), .val (.ref (w20_EQUAL Z))] [])
  refine own_step (fun _ k => XS.aload X1.here hx rfl (hb hby d1_19) rfl rfl k) ?_
  show own_Wp p e below _ T1 (mkF m 21 #[.val (.ref (w11_MATCH Z)), .val (.ref b2), .val (.int (7 : Int32)), .val (.int (0 : Int32)), .val (.ref (w20_EQUAL Z))] [(.ref (w20_EQUAL Z))])
  obtain ⟨T6, X6, e6, st6⟩ := getF X1 hx hZ hown (host := "") (Or.inl (hw _ (List.mem_of_getElem? (i := 69) rfl))) Via.refl rfl ((fl0 hw hA hS hF).ext O1.2) (g := (mkF m 21 #[.val (.ref (w11_MATCH Z)), .val (.ref b2), .val (.int (7 : Int32)), .val (.int (0 : Int32)), .val (.ref (w20_EQUAL Z))] [(.ref (w20_EQUAL Z))])) rfl rfl (hb hby d1_21)
  refine own_step st6 ?_
  show own_Wp p e below _ T6 (mkF m 24 #[.val (.ref (w11_MATCH Z)), .val (.ref b2), .val (.int (7 : Int32)), .val (.int (0 : Int32)), .val (.ref (w20_EQUAL Z))] [(.ref (w9_EQUAL Z))])
  refine own_step (fun _ k => XS.aloadN X6.here hx rfl (hb hby d1_24) rfl rfl k) ?_
  show own_Wp p e below _ T6 (mkF m 25 #[.val (.ref (w11_MATCH Z)), .val (.ref b2), .val (.int (7 : Int32)), .val (.int (0 : Int32)), .val (.ref (w20_EQUAL Z))] [(.ref (w11_MATCH Z)), (.ref (w9_EQUAL Z))])
  refine own_step (fun _ k => Jvm.RoadKit.acmp (g := (mkF m 25 #[.val (.ref (w11_MATCH Z)), .val (.ref b2), .val (.int (7 : Int32)), .val (.int (0 : Int32)), .val (.ref (w20_EQUAL Z))] [(.ref (w11_MATCH Z)), (.ref (w9_EQUAL Z))])) X6 hx rfl rfl rfl (pc0 := 25) (pc' := 34) (same := false) rfl (hb hby d1_25) rfl (decide_eq_false fun q => (Fld.ne (fl1 hw hA hS hF) (fl6 hw hA hS hF) (by decide)) (Value.ref.inj q)) (by decide) (by decide) k) ?_
  show own_Wp p e below _ T6 (mkF m 34 #[.val (.ref (w11_MATCH Z)), .val (.ref b2), .val (.int (7 : Int32)), .val (.int (0 : Int32)), .val (.ref (w20_EQUAL Z))] [])
  refine own_step (fun _ k => XS.iinc X6.here hx rfl (hb hby d1_34) rfl (l' := #[.val (.ref (w11_MATCH Z)), .val (.ref b2), .val (.int (7 : Int32)), .val (.int ((0 : Int32) + (1 : Int32))), .val (.ref (w20_EQUAL Z))]) rfl k) ?_
  show own_Wp p e below _ T6 (mkF m 37 #[.val (.ref (w11_MATCH Z)), .val (.ref b2), .val (.int (7 : Int32)), .val (.int ((0 : Int32) + (1 : Int32))), .val (.ref (w20_EQUAL Z))] [])
  rw [(by decide : ((0 : Int32) + (1 : Int32)) = (1 : Int32))]
  show own_Wp p e below _ T6 (mkF m 37 #[.val (.ref (w11_MATCH Z)), .val (.ref b2), .val (.int (7 : Int32)), .val (.int (1 : Int32)), .val (.ref (w20_EQUAL Z))] [])
  refine own_step (fun _ k => XS.goto X6.here hx rfl (pc0 := 37) (pc' := 9) rfl (hb hby d1_37) (by decide) (by decide) k) ?_
  show own_Wp p e below _ T6 (mkF m 9 #[.val (.ref (w11_MATCH Z)), .val (.ref b2), .val (.int (7 : Int32)), .val (.int (1 : Int32)), .val (.ref (w20_EQUAL Z))] [])
  refine own_step (fun _ k => XS.iloadN X6.here hx rfl (hb hby d1_9) rfl k) ?_
  show own_Wp p e below _ T6 (mkF m 10 #[.val (.ref (w11_MATCH Z)), .val (.ref b2), .val (.int (7 : Int32)), .val (.int (1 : Int32)), .val (.ref (w20_EQUAL Z))] [(.int (1 : Int32))])
  refine own_step (fun _ k => XS.iloadN X6.here hx rfl (hb hby d1_10) rfl k) ?_
  show own_Wp p e below _ T6 (mkF m 11 #[.val (.ref (w11_MATCH Z)), .val (.ref b2), .val (.int (7 : Int32)), .val (.int (1 : Int32)), .val (.ref (w20_EQUAL Z))] [(.int (7 : Int32)), (.int (1 : Int32))])
  refine own_step (fun _ k => XS.icmpNo X6.here hx rfl (hb hby d1_11) rfl (by decide) k) ?_
  show own_Wp p e below _ T6 (mkF m 14 #[.val (.ref (w11_MATCH Z)), .val (.ref b2), .val (.int (7 : Int32)), .val (.int (1 : Int32)), .val (.ref (w20_EQUAL Z))] [])
  refine own_step (fun _ k => XS.aloadN X6.here hx rfl (hb hby d1_14) rfl rfl k) ?_
  show own_Wp p e below _ T6 (mkF m 15 #[.val (.ref (w11_MATCH Z)), .val (.ref b2), .val (.int (7 : Int32)), .val (.int (1 : Int32)), .val (.ref (w20_EQUAL Z))] [(.ref b2)])
  refine own_step (fun _ k => XS.iloadN X6.here hx rfl (hb hby d1_15) rfl k) ?_
  show own_Wp p e below _ T6 (mkF m 16 #[.val (.ref (w11_MATCH Z)), .val (.ref b2), .val (.int (7 : Int32)), .val (.int (1 : Int32)), .val (.ref (w20_EQUAL Z))] [(.int (1 : Int32)), (.ref b2)])
  obtain ⟨c7, r7, q7, t7, u7, y7h, y7g⟩ := id F1_0
  have i7 : ¬ ((1 : Int32) < 0 ∨ c7.slots.size ≤ ((1 : Int32)).toNatClampNeg) := inb_of t7 ⟨by decide, by decide⟩
  refine own_step (fun _ k => X6.aaload hx (j := (1 : Int32)) (v := (.ref (w21_NOT_EQUAL Z))) (by rw [e6]; exact r7.1) (State.isArrayOf_alike hZ.alike r7.2.1) rfl r7.2.2 i7 (own_get t7 y7h i7 1 rfl) (g := (mkF m 16 #[.val (.ref (w11_MATCH Z)), .val (.ref b2), .val (.int (7 : Int32)), .val (.int (1 : Int32)), .val (.ref (w20_EQUAL Z))] [(.int (1 : Int32)), (.ref b2)])) rfl rfl (hb hby d1_16) _ k) ?_
  show own_Wp p e below _ T6 (mkF m 17 #[.val (.ref (w11_MATCH Z)), .val (.ref b2), .val (.int (7 : Int32)), .val (.int (1 : Int32)), .val (.ref (w20_EQUAL Z))] [(.ref (w21_NOT_EQUAL Z))])
  refine own_step (fun _ k => XS.astore X6.here hx rfl (hb hby d1_17) rfl rfl (l' := #[.val (.ref (w11_MATCH Z)), .val (.ref b2), .val (.int (7 : Int32)), .val (.int (1 : Int32)), .val (.ref (w21_NOT_EQUAL Z))]) rfl k) ?_
  show own_Wp p e below _ T6 (mkF m 19 #[.val (.ref (w11_MATCH Z)), .val (.ref b2), .val (.int (7 : Int32)), .val (.int (1 : Int32)), .val (.ref (w21_NOT_EQUAL Z))] [])
  refine own_step (fun _ k => XS.aload X6.here hx rfl (hb hby d1_19) rfl rfl k) ?_
  show own_Wp p e below _ T6 (mkF m 21 #[.val (.ref (w11_MATCH Z)), .val (.ref b2), .val (.int (7 : Int32)), .val (.int (1 : Int32)), .val (.ref (w21_NOT_EQUAL Z))] [(.ref (w21_NOT_EQUAL Z))])
  obtain ⟨T8, X8, e8, st8⟩ := getF X6 hx hZ hown (host := "") (Or.inl (hw _ (List.mem_of_getElem? (i := 69) rfl))) Via.refl e6 ((fl3 hw hA hS hF).ext O1.2) (g := (mkF m 21 #[.val (.ref (w11_MATCH Z)), .val (.ref b2), .val (.int (7 : Int32)), .val (.int (1 : Int32)), .val (.ref (w21_NOT_EQUAL Z))] [(.ref (w21_NOT_EQUAL Z))])) rfl rfl (hb hby d1_21)
  refine own_step st8 ?_
  show own_Wp p e below _ T8 (mkF m 24 #[.val (.ref (w11_MATCH Z)), .val (.ref b2), .val (.int (7 : Int32)), .val (.int (1 : Int32)), .val (.ref (w21_NOT_EQUAL Z))] [(.ref (w10_NOT_EQUAL Z))])
  refine own_step (fun _ k => XS.aloadN X8.here hx rfl (hb hby d1_24) rfl rfl k) ?_
  show own_Wp p e below _ T8 (mkF m 25 #[.val (.ref (w11_MATCH Z)), .val (.ref b2), .val (.int (7 : Int32)), .val (.int (1 : Int32)), .val (.ref (w21_NOT_EQUAL Z))] [(.ref (w11_MATCH Z)), (.ref (w10_NOT_EQUAL Z))])
  refine own_step (fun _ k => Jvm.RoadKit.acmp (g := (mkF m 25 #[.val (.ref (w11_MATCH Z)), .val (.ref b2), .val (.int (7 : Int32)), .val (.int (1 : Int32)), .val (.ref (w21_NOT_EQUAL Z))] [(.ref (w11_MATCH Z)), (.ref (w10_NOT_EQUAL Z))])) X8 hx rfl rfl rfl (pc0 := 25) (pc' := 34) (same := false) rfl (hb hby d1_25) rfl (decide_eq_false fun q => (Fld.ne (fl4 hw hA hS hF) (fl6 hw hA hS hF) (by decide)) (Value.ref.inj q)) (by decide) (by decide) k) ?_
  show own_Wp p e below _ T8 (mkF m 34 #[.val (.ref (w11_MATCH Z)), .val (.ref b2), .val (.int (7 : Int32)), .val (.int (1 : Int32)), .val (.ref (w21_NOT_EQUAL Z))] [])
  refine own_step (fun _ k => XS.iinc X8.here hx rfl (hb hby d1_34) rfl (l' := #[.val (.ref (w11_MATCH Z)), .val (.ref b2), .val (.int (7 : Int32)), .val (.int ((1 : Int32) + (1 : Int32))), .val (.ref (w21_NOT_EQUAL Z))]) rfl k) ?_
  show own_Wp p e below _ T8 (mkF m 37 #[.val (.ref (w11_MATCH Z)), .val (.ref b2), .val (.int (7 : Int32)), .val (.int ((1 : Int32) + (1 : Int32))), .val (.ref (w21_NOT_EQUAL Z))] [])
  rw [(by decide : ((1 : Int32) + (1 : Int32)) = (2 : Int32))]
  show own_Wp p e below _ T8 (mkF m 37 #[.val (.ref (w11_MATCH Z)), .val (.ref b2), .val (.int (7 : Int32)), .val (.int (2 : Int32)), .val (.ref (w21_NOT_EQUAL Z))] [])
  refine own_step (fun _ k => XS.goto X8.here hx rfl (pc0 := 37) (pc' := 9) rfl (hb hby d1_37) (by decide) (by decide) k) ?_
  show own_Wp p e below _ T8 (mkF m 9 #[.val (.ref (w11_MATCH Z)), .val (.ref b2), .val (.int (7 : Int32)), .val (.int (2 : Int32)), .val (.ref (w21_NOT_EQUAL Z))] [])
  refine own_step (fun _ k => XS.iloadN X8.here hx rfl (hb hby d1_9) rfl k) ?_
  show own_Wp p e below _ T8 (mkF m 10 #[.val (.ref (w11_MATCH Z)), .val (.ref b2), .val (.int (7 : Int32)), .val (.int (2 : Int32)), .val (.ref (w21_NOT_EQUAL Z))] [(.int (2 : Int32))])
  refine own_step (fun _ k => XS.iloadN X8.here hx rfl (hb hby d1_10) rfl k) ?_
  show own_Wp p e below _ T8 (mkF m 11 #[.val (.ref (w11_MATCH Z)), .val (.ref b2), .val (.int (7 : Int32)), .val (.int (2 : Int32)), .val (.ref (w21_NOT_EQUAL Z))] [(.int (7 : Int32)), (.int (2 : Int32))])
  refine own_step (fun _ k => XS.icmpNo X8.here hx rfl (hb hby d1_11) rfl (by decide) k) ?_
  show own_Wp p e below _ T8 (mkF m 14 #[.val (.ref (w11_MATCH Z)), .val (.ref b2), .val (.int (7 : Int32)), .val (.int (2 : Int32)), .val (.ref (w21_NOT_EQUAL Z))] [])
  refine own_step (fun _ k => XS.aloadN X8.here hx rfl (hb hby d1_14) rfl rfl k) ?_
  show own_Wp p e below _ T8 (mkF m 15 #[.val (.ref (w11_MATCH Z)), .val (.ref b2), .val (.int (7 : Int32)), .val (.int (2 : Int32)), .val (.ref (w21_NOT_EQUAL Z))] [(.ref b2)])
  refine own_step (fun _ k => XS.iloadN X8.here hx rfl (hb hby d1_15) rfl k) ?_
  show own_Wp p e below _ T8 (mkF m 16 #[.val (.ref (w11_MATCH Z)), .val (.ref b2), .val (.int (7 : Int32)), .val (.int (2 : Int32)), .val (.ref (w21_NOT_EQUAL Z))] [(.int (2 : Int32)), (.ref b2)])
  obtain ⟨c9, r9, q9, t9, u9, y9h, y9g⟩ := id F1_0
  have i9 : ¬ ((2 : Int32) < 0 ∨ c9.slots.size ≤ ((2 : Int32)).toNatClampNeg) := inb_of t9 ⟨by decide, by decide⟩
  refine own_step (fun _ k => X8.aaload hx (j := (2 : Int32)) (v := (.ref (w22_MATCH Z))) (by rw [e8]; exact r9.1) (State.isArrayOf_alike hZ.alike r9.2.1) rfl r9.2.2 i9 (own_get t9 y9h i9 2 rfl) (g := (mkF m 16 #[.val (.ref (w11_MATCH Z)), .val (.ref b2), .val (.int (7 : Int32)), .val (.int (2 : Int32)), .val (.ref (w21_NOT_EQUAL Z))] [(.int (2 : Int32)), (.ref b2)])) rfl rfl (hb hby d1_16) _ k) ?_
  show own_Wp p e below _ T8 (mkF m 17 #[.val (.ref (w11_MATCH Z)), .val (.ref b2), .val (.int (7 : Int32)), .val (.int (2 : Int32)), .val (.ref (w21_NOT_EQUAL Z))] [(.ref (w22_MATCH Z))])
  refine own_step (fun _ k => XS.astore X8.here hx rfl (hb hby d1_17) rfl rfl (l' := #[.val (.ref (w11_MATCH Z)), .val (.ref b2), .val (.int (7 : Int32)), .val (.int (2 : Int32)), .val (.ref (w22_MATCH Z))]) rfl k) ?_
  show own_Wp p e below _ T8 (mkF m 19 #[.val (.ref (w11_MATCH Z)), .val (.ref b2), .val (.int (7 : Int32)), .val (.int (2 : Int32)), .val (.ref (w22_MATCH Z))] [])
  refine own_step (fun _ k => XS.aload X8.here hx rfl (hb hby d1_19) rfl rfl k) ?_
  show own_Wp p e below _ T8 (mkF m 21 #[.val (.ref (w11_MATCH Z)), .val (.ref b2), .val (.int (7 : Int32)), .val (.int (2 : Int32)), .val (.ref (w22_MATCH Z))] [(.ref (w22_MATCH Z))])
  obtain ⟨T10, X10, e10, st10⟩ := getF X8 hx hZ hown (host := "") (Or.inl (hw _ (List.mem_of_getElem? (i := 69) rfl))) Via.refl e8 ((fl5 hw hA hS hF).ext O1.2) (g := (mkF m 21 #[.val (.ref (w11_MATCH Z)), .val (.ref b2), .val (.int (7 : Int32)), .val (.int (2 : Int32)), .val (.ref (w22_MATCH Z))] [(.ref (w22_MATCH Z))])) rfl rfl (hb hby d1_21)
  refine own_step st10 ?_
  show own_Wp p e below _ T10 (mkF m 24 #[.val (.ref (w11_MATCH Z)), .val (.ref b2), .val (.int (7 : Int32)), .val (.int (2 : Int32)), .val (.ref (w22_MATCH Z))] [(.ref (w11_MATCH Z))])
  refine own_step (fun _ k => XS.aloadN X10.here hx rfl (hb hby d1_24) rfl rfl k) ?_
  show own_Wp p e below _ T10 (mkF m 25 #[.val (.ref (w11_MATCH Z)), .val (.ref b2), .val (.int (7 : Int32)), .val (.int (2 : Int32)), .val (.ref (w22_MATCH Z))] [(.ref (w11_MATCH Z)), (.ref (w11_MATCH Z))])
  refine own_step (fun _ k => Jvm.RoadKit.acmp (g := (mkF m 25 #[.val (.ref (w11_MATCH Z)), .val (.ref b2), .val (.int (7 : Int32)), .val (.int (2 : Int32)), .val (.ref (w22_MATCH Z))] [(.ref (w11_MATCH Z)), (.ref (w11_MATCH Z))])) X10 hx rfl rfl rfl (pc0 := 25) (pc' := 28) (same := true) rfl (hb hby d1_25) rfl (decide_eq_true rfl) (by decide) (by decide) k) ?_
  show own_Wp p e below _ T10 (mkF m 28 #[.val (.ref (w11_MATCH Z)), .val (.ref b2), .val (.int (7 : Int32)), .val (.int (2 : Int32)), .val (.ref (w22_MATCH Z))] [])
  refine own_step (fun _ k => XS.aload X10.here hx rfl (hb hby d1_28) rfl rfl k) ?_
  show own_Wp p e below _ T10 (mkF m 30 #[.val (.ref (w11_MATCH Z)), .val (.ref b2), .val (.int (7 : Int32)), .val (.int (2 : Int32)), .val (.ref (w22_MATCH Z))] [(.ref (w22_MATCH Z))])
  obtain ⟨_, T11, L11, X11, hQ11, st11⟩ := own_callS X10 hx hZ hown (hw _ (List.mem_of_getElem? (i := 87) rfl)) (hw _ (List.mem_of_getElem? (i := 88) rfl)) (hw _ (List.mem_of_getElem? (i := 73) rfl)) (hw _ (List.mem_of_getElem? (i := 89) rfl)) (by decide) (rm6_7 l Z a0 hw hA hS hF [] (w22_MATCH Z) T1.heap n0 O1) (W := 0) (by decide) (by decide) [(.ref (w22_MATCH Z))] rfl (lenOf pd10 rfl) (Ls := #[.val (.ref (w11_MATCH Z)), .val (.ref b2), .val (.int (7 : Int32)), .val (.int (2 : Int32)), .val (.ref (w22_MATCH Z))]) (by rw [hml]; rfl) (rest := []) (Nat.le_of_eq rfl) (hb hby d1_30) e10 (by decide) (by decide)
  refine st11 _ ?_
  obtain ⟨b12, rfl, N11q, K11q, y11_0, F11_0, F11_1⟩ := hQ11
  have N11 := Fr.app N1 N11q
  have g11_0 : n0 ≤ b12 := Nat.le_trans (O1.1 ▸ O1.2.1) y11_0
  have ne11_0_0 : b2 ≠ b12 := Nat.ne_of_lt (Nat.lt_of_lt_of_le F1_0.lt y11_0)
  have u11_0 : h0.size ≤ b12 := Nat.le_trans (K1.1) y11_0
  have O11 := O1.keep K11q all0
  have K11 : Keep h0 T11.heap [] := Keep.trans K1 K11q all0
  show own_Wp p e below _ T11 (mkF m 33 #[.val (.ref (w11_MATCH Z)), .val (.ref b2), .val (.int (7 : Int32)), .val (.int (2 : Int32)), .val (.ref (w22_MATCH Z))] [(.ref b12)])
  exact own_retA X11 hx hret rfl rfl hlk (hb hby d1_33) (by decide) (by decide) (⟨b12, rfl, N11, K11, u11_0, F11_0, F11_1⟩)

set_option maxRecDepth 65536 in
set_option maxHeartbeats 40000000 in
theorem rm4_15 (l : Launch) (Z : State) (a0 : Array Value) (hw : ∀ d ∈ tables_1, d.before a0 Z = true) (hA : ∀ d ∈ own_flat narrow_1, d.value a0 Z none Z [] = some true) (hS : ∀ d ∈ jdkStatics_1, d.before a0 Z = true) (hF : Fit Z) (ws : List Jvm.Cond) (px1 : Addr) (h0 : Heap) (n0 : Nat) (O0 : Old Z n0 h0) (P1 : Fld Z h0 px1 "java/util/Optional" "value" "Ljava/lang/Object;" (.ref (w22_MATCH Z))) :
    own_Met l Z (⟨"java/util/Optional", "orElse", "(Ljava/lang/Object;)Ljava/lang/Object;"⟩ : MethodName) (Jvm.Cond.code (⟨"java/util/Optional", "orElse", "(Ljava/lang/Object;)Ljava/lang/Object;"⟩ : MethodName) jdk_32_method_15_code 2 (some (.object "java/lang/Object"))) ws ({ frames := 0, cells := 0, slots := 0, locals := 0 } : Room) #[(.ref px1), .null] h0 (fun v h L => (v = some (.ref (w22_MATCH Z)) ∧ Fr n0 L ∧ h = h0)) := by
  refine own_met (own := "java/util/Optional") (plainFor_of_name pn2) rfl ?_
  intro p e s m below meth c s₁ hx hby hml hown hnm hret hlk hZ e0 X0
  refine own_cast (g' := (mkF m 0 #[.val (.ref px1), .val .null] [])) (by first | (simp [entryFrame, mkF, argsToLocals, Value.category]; done) | rfl) ?_
  refine own_step (fun _ k => XS.aloadN X0.here hx rfl (hb hby d4_0) rfl rfl k) ?_
  show own_Wp p e below _ s₁ (mkF m 1 #[.val (.ref px1), .val .null] [(.ref px1)])
  obtain ⟨T1, X1, e1, st1⟩ := getF X0 hx hZ hown (host := "") (Or.inl (hw _ (List.mem_of_getElem? (i := 81) rfl))) Via.refl e0 P1 (g := (mkF m 1 #[.val (.ref px1), .val .null] [(.ref px1)])) rfl rfl (hb hby d4_1)
  refine own_step st1 ?_
  show own_Wp p e below _ T1 (mkF m 4 #[.val (.ref px1), .val .null] [(.ref (w22_MATCH Z))])
  refine own_step (fun _ k => XS.ifnullNo X1.here hx rfl (hb hby d4_4) rfl k) ?_
  show own_Wp p e below _ T1 (mkF m 7 #[.val (.ref px1), .val .null] [])
  refine own_step (fun _ k => XS.aloadN X1.here hx rfl (hb hby d4_7) rfl rfl k) ?_
  show own_Wp p e below _ T1 (mkF m 8 #[.val (.ref px1), .val .null] [(.ref px1)])
  obtain ⟨T2, X2, e2, st2⟩ := getF X1 hx hZ hown (host := "") (Or.inl (hw _ (List.mem_of_getElem? (i := 81) rfl))) Via.refl e1 P1 (g := (mkF m 8 #[.val (.ref px1), .val .null] [(.ref px1)])) rfl rfl (hb hby d4_8)
  refine own_step st2 ?_
  show own_Wp p e below _ T2 (mkF m 11 #[.val (.ref px1), .val .null] [(.ref (w22_MATCH Z))])
  refine own_step (fun _ k => XS.goto X2.here hx rfl (pc0 := 11) (pc' := 15) rfl (hb hby d4_11) (by decide) (by decide) k) ?_
  show own_Wp p e below _ T2 (mkF m 15 #[.val (.ref px1), .val .null] [(.ref (w22_MATCH Z))])
  exact own_retA X2 hx hret rfl rfl hlk (hb hby d4_15) (by decide) (by decide) (by rw [e2]; exact ⟨rfl, (Fr.nil n0), rfl⟩)

set_option maxRecDepth 65536 in
set_option maxHeartbeats 40000000 in
theorem rm5_16 (l : Launch) (Z : State) (a0 : Array Value) (hw : ∀ d ∈ tables_1, d.before a0 Z = true) (hA : ∀ d ∈ own_flat narrow_1, d.value a0 Z none Z [] = some true) (hS : ∀ d ∈ jdkStatics_1, d.before a0 Z = true) (hF : Fit Z) (ws : List Jvm.Cond) (h0 : Heap) (n0 : Nat) (O0 : Old Z n0 h0) :
    own_Met l Z (⟨"com/example/proviso/proviso/expression/ComparisonOperatorSpelledByPinLaw", "expected", "(Lcom/example/proviso/proviso/expression/Lexer$Kind;)Lcom/example/proviso/proviso/expression/ComparisonOperator;"⟩ : MethodName) (Jvm.Cond.code (⟨"com/example/proviso/proviso/expression/ComparisonOperatorSpelledByPinLaw", "expected", "(Lcom/example/proviso/proviso/expression/Lexer$Kind;)Lcom/example/proviso/proviso/expression/ComparisonOperator;"⟩ : MethodName) method_3_code 1 (some (.object "com/example/proviso/proviso/expression/ComparisonOperator"))) ws ({ frames := 0, cells := 0, slots := 0, locals := 0 } : Room) #[(.ref (w11_MATCH Z))] h0 (fun v h L => (v = some (.ref (w22_MATCH Z)) ∧ Fr n0 L ∧ h = h0)) := by
  refine own_met (own := "com/example/proviso/proviso/expression/ComparisonOperatorSpelledByPinLaw") (plainFor_of_name pn6) rfl ?_
  intro p e s m below meth c s₁ hx hby hml hown hnm hret hlk hZ e0 X0
  refine own_cast (g' := (mkF m 0 #[.val (.ref (w11_MATCH Z))] [])) (by first | (simp [entryFrame, mkF, argsToLocals, Value.category]; done) | rfl) ?_
  refine own_step (fun _ k => XS.aloadN X0.here hx rfl (hb hby d5_0) rfl rfl k) ?_
  show own_Wp p e below _ s₁ (mkF m 1 #[.val (.ref (w11_MATCH Z))] [(.ref (w11_MATCH Z))])
  obtain ⟨T1, X1, e1, st1⟩ := getS2 X0 hx hZ hown (host := "") (Or.inl (hw _ (List.mem_of_getElem? (i := 22) rfl))) Via.refl e0 ((st_w9_EQUAL hw hA hS hF).ext O0.2) (g := (mkF m 1 #[.val (.ref (w11_MATCH Z))] [(.ref (w11_MATCH Z))])) rfl (hb hby d5_1)
  refine own_step st1 ?_
  show own_Wp p e below _ T1 (mkF m 4 #[.val (.ref (w11_MATCH Z))] [(.ref (w9_EQUAL Z)), (.ref (w11_MATCH Z))])
  refine own_step (fun _ k => Jvm.RoadKit.acmp (g := (mkF m 4 #[.val (.ref (w11_MATCH Z))] [(.ref (w9_EQUAL Z)), (.ref (w11_MATCH Z))])) X1 hx rfl rfl rfl (pc0 := 4) (pc' := 11) (same := false) rfl (hb hby d5_4) rfl (decide_eq_false fun q => (Fld.ne (fl6 hw hA hS hF) (fl1 hw hA hS hF) (by decide)) (Value.ref.inj q)) (by decide) (by decide) k) ?_
  show own_Wp p e below _ T1 (mkF m 11 #[.val (.ref (w11_MATCH Z))] [])
  refine own_step (fun _ k => XS.aloadN X1.here hx rfl (hb hby d5_11) rfl rfl k) ?_
  show own_Wp p e below _ T1 (mkF m 12 #[.val (.ref (w11_MATCH Z))] [(.ref (w11_MATCH Z))])
  obtain ⟨T2, X2, e2, st2⟩ := getS2 X1 hx hZ hown (host := "") (Or.inl (hw _ (List.mem_of_getElem? (i := 24) rfl))) Via.refl e1 ((st_w10_NOT_EQUAL hw hA hS hF).ext O0.2) (g := (mkF m 12 #[.val (.ref (w11_MATCH Z))] [(.ref (w11_MATCH Z))])) rfl (hb hby d5_12)
  refine own_step st2 ?_
  show own_Wp p e below _ T2 (mkF m 15 #[.val (.ref (w11_MATCH Z))] [(.ref (w10_NOT_EQUAL Z)), (.ref (w11_MATCH Z))])
  refine own_step (fun _ k => Jvm.RoadKit.acmp (g := (mkF m 15 #[.val (.ref (w11_MATCH Z))] [(.ref (w10_NOT_EQUAL Z)), (.ref (w11_MATCH Z))])) X2 hx rfl rfl rfl (pc0 := 15) (pc' := 22) (same := false) rfl (hb hby d5_15) rfl (decide_eq_false fun q => (Fld.ne (fl6 hw hA hS hF) (fl4 hw hA hS hF) (by decide)) (Value.ref.inj q)) (by decide) (by decide) k) ?_
  show own_Wp p e below _ T2 (mkF m 22 #[.val (.ref (w11_MATCH Z))] [])
  refine own_step (fun _ k => XS.aloadN X2.here hx rfl (hb hby d5_22) rfl rfl k) ?_
  show own_Wp p e below _ T2 (mkF m 23 #[.val (.ref (w11_MATCH Z))] [(.ref (w11_MATCH Z))])
  obtain ⟨T3, X3, e3, st3⟩ := getS2 X2 hx hZ hown (host := "") (Or.inl (hw _ (List.mem_of_getElem? (i := 26) rfl))) Via.refl e2 ((st_w11_MATCH hw hA hS hF).ext O0.2) (g := (mkF m 23 #[.val (.ref (w11_MATCH Z))] [(.ref (w11_MATCH Z))])) rfl (hb hby d5_23)
  refine own_step st3 ?_
  show own_Wp p e below _ T3 (mkF m 26 #[.val (.ref (w11_MATCH Z))] [(.ref (w11_MATCH Z)), (.ref (w11_MATCH Z))])
  refine own_step (fun _ k => Jvm.RoadKit.acmp (g := (mkF m 26 #[.val (.ref (w11_MATCH Z))] [(.ref (w11_MATCH Z)), (.ref (w11_MATCH Z))])) X3 hx rfl rfl rfl (pc0 := 26) (pc' := 29) (same := true) rfl (hb hby d5_26) rfl (decide_eq_true rfl) (by decide) (by decide) k) ?_
  show own_Wp p e below _ T3 (mkF m 29 #[.val (.ref (w11_MATCH Z))] [])
  obtain ⟨T4, X4, e4, st4⟩ := getS2 X3 hx hZ hown (host := "") (Or.inl (hw _ (List.mem_of_getElem? (i := 106) rfl))) Via.refl e3 ((st_w22_MATCH hw hA hS hF).ext O0.2) (g := (mkF m 29 #[.val (.ref (w11_MATCH Z))] [])) rfl (hb hby d5_29)
  refine own_step st4 ?_
  show own_Wp p e below _ T4 (mkF m 32 #[.val (.ref (w11_MATCH Z))] [(.ref (w22_MATCH Z))])
  exact own_retA X4 hx hret rfl rfl hlk (hb hby d5_32) (by decide) (by decide) (by rw [e4]; exact ⟨rfl, (Fr.nil n0), rfl⟩)

set_option maxRecDepth 65536 in
set_option maxHeartbeats 40000000 in
theorem rm1_17 (l : Launch) (Z : State) (a0 : Array Value) (hw : ∀ d ∈ tables_1, d.before a0 Z = true) (hA : ∀ d ∈ own_flat narrow_1, d.value a0 Z none Z [] = some true) (hS : ∀ d ∈ jdkStatics_1, d.before a0 Z = true) (hF : Fit Z) (ws : List Jvm.Cond) (h0 : Heap) (n0 : Nat) (O0 : Old Z n0 h0) :
    own_Met l Z (⟨"com/example/proviso/proviso/expression/ComparisonOperator", "spelledBy", "(Lcom/example/proviso/proviso/expression/Lexer$Kind;)Ljava/util/Optional;"⟩ : MethodName) (Jvm.Cond.code (⟨"com/example/proviso/proviso/expression/ComparisonOperator", "spelledBy", "(Lcom/example/proviso/proviso/expression/Lexer$Kind;)Ljava/util/Optional;"⟩ : MethodName) prog_2_method_4_code 5 (some (.object "java/util/Optional"))) ws ({ frames := 3, cells := 2, slots := 8, locals := 38 } : Room) #[(.ref (w12_LESS_EQUAL Z))] h0 (fun v h L => (∃ (b16 : Addr), v = some (.ref b16) ∧ Fr n0 L ∧ Keep h0 h [] ∧ h0.size ≤ b16 ∧ Exa Z h b16 "java/util/Optional" ∧ Fld Z h b16 "java/util/Optional" "value" "Ljava/lang/Object;" (.ref (w24_LESS_EQUAL Z)))) := by
  refine own_met (own := "com/example/proviso/proviso/expression/ComparisonOperator") (plainFor_of_name pn0) rfl ?_
  intro p e s m below meth c s₁ hx hby hml hown hnm hret hlk hZ e0 X0
  refine own_cast (g' := (mkF m 0 #[.val (.ref (w12_LESS_EQUAL Z)), .unset, .unset, .unset, .unset] [])) (by first | (simp [entryFrame, mkF, argsToLocals, Value.category]; done) | rfl) ?_
  obtain ⟨_, T1, L1, X1, hQ1, st1⟩ := own_callS X0 hx hZ hown (hw _ (List.mem_of_getElem? (i := 47) rfl)) (hw _ (List.mem_of_getElem? (i := 48) rfl)) (hw _ (List.mem_of_getElem? (i := 45) rfl)) (hw _ (List.mem_of_getElem? (i := 49) rfl)) (by decide) (rm2_0 l Z a0 hw hA hS hF [] h0 n0 O0) (W := 0) (by decide) (by decide) [] rfl (lenOf pd1 rfl) (Ls := #[.val (.ref (w12_LESS_EQUAL Z)), .unset, .unset, .unset, .unset]) (by rw [hml]; rfl) (rest := []) (Nat.le_of_eq rfl) (hb hby d1_0) e0 (by decide) (by decide)
  refine st1 _ ?_
  obtain ⟨b2, k3, rfl, N1q, K1q, y1_0, F1_0, F1_1⟩ := hQ1
  have N1 := Fr.app (Fr.nil n0) N1q
  have g1_0 : n0 ≤ b2 := Nat.le_trans (O0.1 ▸ O0.2.1) y1_0
  have u1_0 : h0.size ≤ b2 := Nat.le_trans (Nat.le_refl _) y1_0
  have O1 := O0.keep K1q all0
  have K1 : Keep h0 T1.heap [] := Keep.trans (Keep.refl h0 []) K1q all0
  show own_Wp p e below _ T1 (mkF m 3 #[.val (.ref (w12_LESS_EQUAL Z)), .unset, .unset, .unset, .unset] [(.ref b2)])
  refine own_step (fun _ k => XS.astoreN X1.here hx rfl (hb hby d1_3) rfl rfl (l' := #[.val (.ref (w12_LESS_EQUAL Z)), .val (.ref b2), .unset, .unset, .unset]) rfl k) ?_
  show own_Wp p e below _ T1 (mkF m 4 #[.val (.ref (w12_LESS_EQUAL Z)), .val (.ref b2), .unset, .unset, .unset] [])
  refine own_step (fun _ k => XS.aloadN X1.here hx rfl (hb hby d1_4) rfl rfl k) ?_
  show own_Wp p e below _ T1 (mkF m 5 #[.val (.ref (w12_LESS_EQUAL Z)), .val (.ref b2), .unset, .unset, .unset] [(.ref b2)])
  obtain ⟨c4, r4, q4, t4, u4, y4h, y4g⟩ := id F1_0
  refine own_step (fun _ k => X1.arraylength hx r4.1 (State.isArrayOf_alike hZ.alike r4.2.1) (g := (mkF m 5 #[.val (.ref (w12_LESS_EQUAL Z)), .val (.ref b2), .unset, .unset, .unset] [(.ref b2)])) rfl rfl (hb hby d1_5) _ k) ?_
  rw [len_of t4 u4]
  show own_Wp p e below _ T1 (mkF m 6 #[.val (.ref (w12_LESS_EQUAL Z)), .val (.ref b2), .unset, .unset, .unset] [(.int (7 : Int32))])
  refine own_step (fun _ k => XS.istoreN X1.here hx rfl (hb hby d1_6) rfl (l' := #[.val (.ref (w12_LESS_EQUAL Z)), .val (.ref b2), .val (.int (7 : Int32)), .unset, .unset]) rfl k) ?_
  show own_Wp p e below _ T1 (mkF m 7 #[.val (.ref (w12_LESS_EQUAL Z)), .val (.ref b2), .val (.int (7 : Int32)), .unset, .unset] [])
  refine own_step (fun _ k => XS.iconst X1.here hx rfl (hb hby d1_7) k) ?_
  show own_Wp p e below _ T1 (mkF m 8 #[.val (.ref (w12_LESS_EQUAL Z)), .val (.ref b2), .val (.int (7 : Int32)), .unset, .unset] [(.int (0 : Int32))])
  refine own_step (fun _ k => XS.istoreN X1.here hx rfl (hb hby d1_8) rfl (l' := #[.val (.ref (w12_LESS_EQUAL Z)), .val (.ref b2), .val (.int (7 : Int32)), .val (.int (0 : Int32)), .unset]) rfl k) ?_
  show own_Wp p e below _ T1 (mkF m 9 #[.val (.ref (w12_LESS_EQUAL Z)), .val (.ref b2), .val (.int (7 : Int32)), .val (.int (0 : Int32)), .unset] [])
  refine own_step (fun _ k => XS.iloadN X1.here hx rfl (hb hby d1_9) rfl k) ?_
  show own_Wp p e below _ T1 (mkF m 10 #[.val (.ref (w12_LESS_EQUAL Z)), .val (.ref b2), .val (.int (7 : Int32)), .val (.int (0 : Int32)), .unset] [(.int (0 : Int32))])
  refine own_step (fun _ k => XS.iloadN X1.here hx rfl (hb hby d1_10) rfl k) ?_
  show own_Wp p e below _ T1 (mkF m 11 #[.val (.ref (w12_LESS_EQUAL Z)), .val (.ref b2), .val (.int (7 : Int32)), .val (.int (0 : Int32)), .unset] [(.int (7 : Int32)), (.int (0 : Int32))])
  refine own_step (fun _ k => XS.icmpNo X1.here hx rfl (hb hby d1_11) rfl (by decide) k) ?_
  show own_Wp p e below _ T1 (mkF m 14 #[.val (.ref (w12_LESS_EQUAL Z)), .val (.ref b2), .val (.int (7 : Int32)), .val (.int (0 : Int32)), .unset] [])
  refine own_step (fun _ k => XS.aloadN X1.here hx rfl (hb hby d1_14) rfl rfl k) ?_
  show own_Wp p e below _ T1 (mkF m 15 #[.val (.ref (w12_LESS_EQUAL Z)), .val (.ref b2), .val (.int (7 : Int32)), .val (.int (0 : Int32)), .unset] [(.ref b2)])
  refine own_step (fun _ k => XS.iloadN X1.here hx rfl (hb hby d1_15) rfl k) ?_
  show own_Wp p e below _ T1 (mkF m 16 #[.val (.ref (w12_LESS_EQUAL Z)), .val (.ref b2), .val (.int (7 : Int32)), .val (.int (0 : Int32)), .unset] [(.int (0 : Int32)), (.ref b2)])
  obtain ⟨c5, r5, q5, t5, u5, y5h, y5g⟩ := id F1_0
  have i5 : ¬ ((0 : Int32) < 0 ∨ c5.slots.size ≤ ((0 : Int32)).toNatClampNeg) := inb_of t5 ⟨by decide, by decide⟩
  refine own_step (fun _ k => X1.aaload hx (j := (0 : Int32)) (v := (.ref (w20_EQUAL Z))) r5.1 (State.isArrayOf_alike hZ.alike r5.2.1) rfl r5.2.2 i5 (own_get t5 y5h i5 0 rfl) (g := (mkF m 16 #[.val (.ref (w12_LESS_EQUAL Z)), .val (.ref b2), .val (.int (7 : Int32)), .val (.int (0 : Int32)), .unset] [(.int (0 : Int32)), (.ref b2)])) rfl rfl (hb hby d1_16) _ k) ?_
  show own_Wp p e below _ T1 (mkF m 17 #[.val (.ref (w12_LESS_EQUAL Z)), .val (.ref b2), .val (.int (7 : Int32)), .val (.int (0 : Int32)), .unset] [(.ref (w20_EQUAL Z))])
  refine own_step (fun _ k => XS.astore X1.here hx rfl (hb hby d1_17) rfl rfl (l' := #[.val (.ref (w12_LESS_EQUAL Z)), .val (.ref b2), .val (.int (7 : Int32)), .val (.int (0 : Int32)), .val (.ref (w20_EQUAL Z))]) rfl k) ?_
  show own_Wp p e below _ T1 (mkF m 19 #[.val (.ref (w12_LESS_EQUAL Z)), .val (.ref b2), .val (.int (7 : Int32)), .val (.int (0 : Int32)), .val (.ref (w20_EQUAL Z))] [])
  refine own_step (fun _ k => XS.aload X1.here hx rfl (hb hby d1_19) rfl rfl k) ?_
  show own_Wp p e below _ T1 (mkF m 21 #[.val (.ref (w12_LESS_EQUAL Z)), .val (.ref b2), .val (.int (7 : Int32)), .val (.int (0 : Int32)), .val (.ref (w20_EQUAL Z))] [(.ref (w20_EQUAL Z))])
  obtain ⟨T6, X6, e6, st6⟩ := getF X1 hx hZ hown (host := "") (Or.inl (hw _ (List.mem_of_getElem? (i := 69) rfl))) Via.refl rfl ((fl0 hw hA hS hF).ext O1.2) (g := (mkF m 21 #[.val (.ref (w12_LESS_EQUAL Z)), .val (.ref b2), .val (.int (7 : Int32)), .val (.int (0 : Int32)), .val (.ref (w20_EQUAL Z))] [(.ref (w20_EQUAL Z))])) rfl rfl (hb hby d1_21)
  refine own_step st6 ?_
  show own_Wp p e below _ T6 (mkF m 24 #[.val (.ref (w12_LESS_EQUAL Z)), .val (.ref b2), .val (.int (7 : Int32)), .val (.int (0 : Int32)), .val (.ref (w20_EQUAL Z))] [(.ref (w9_EQUAL Z))])
  refine own_step (fun _ k => XS.aloadN X6.here hx rfl (hb hby d1_24) rfl rfl k) ?_
  show own_Wp p e below _ T6 (mkF m 25 #[.val (.ref (w12_LESS_EQUAL Z)), .val (.ref b2), .val (.int (7 : Int32)), .val (.int (0 : Int32)), .val (.ref (w20_EQUAL Z))] [(.ref (w12_LESS_EQUAL Z)), (.ref (w9_EQUAL Z))])
  refine own_step (fun _ k => Jvm.RoadKit.acmp (g := (mkF m 25 #[.val (.ref (w12_LESS_EQUAL Z)), .val (.ref b2), .val (.int (7 : Int32)), .val (.int (0 : Int32)), .val (.ref (w20_EQUAL Z))] [(.ref (w12_LESS_EQUAL Z)), (.ref (w9_EQUAL Z))])) X6 hx rfl rfl rfl (pc0 := 25) (pc' := 34) (same := false) rfl (hb hby d1_25) rfl (decide_eq_false fun q => (Fld.ne (fl1 hw hA hS hF) (fl10 hw hA hS hF) (by decide)) (Value.ref.inj q)) (by decide) (by decide) k) ?_
  show own_Wp p e below _ T6 (mkF m 34 #[.val (.ref (w12_LESS_EQUAL Z)), .val (.ref b2), .val (.int (7 : Int32)), .val (.int (0 : Int32)), .val (.ref (w20_EQUAL Z))] [])
  refine own_step (fun _ k => XS.iinc X6.here hx rfl (hb hby d1_34) rfl (l' := #[.val (.ref (w12_LESS_EQUAL Z)), .val (.ref b2), .val (.int (7 : Int32)), .val (.int ((0 : Int32) + (1 : Int32))), .val (.ref (w20_EQUAL Z))]) rfl k) ?_
  show own_Wp p e below _ T6 (mkF m 37 #[.val (.ref (w12_LESS_EQUAL Z)), .val (.ref b2), .val (.int (7 : Int32)), .val (.int ((0 : Int32) + (1 : Int32))), .val (.ref (w20_EQUAL Z))] [])
  rw [(by decide : ((0 : Int32) + (1 : Int32)) = (1 : Int32))]
  show own_Wp p e below _ T6 (mkF m 37 #[.val (.ref (w12_LESS_EQUAL Z)), .val (.ref b2), .val (.int (7 : Int32)), .val (.int (1 : Int32)), .val (.ref (w20_EQUAL Z))] [])
  refine own_step (fun _ k => XS.goto X6.here hx rfl (pc0 := 37) (pc' := 9) rfl (hb hby d1_37) (by decide) (by decide) k) ?_
  show own_Wp p e below _ T6 (mkF m 9 #[.val (.ref (w12_LESS_EQUAL Z)), .val (.ref b2), .val (.int (7 : Int32)), .val (.int (1 : Int32)), .val (.ref (w20_EQUAL Z))] [])
  refine own_step (fun _ k => XS.iloadN X6.here hx rfl (hb hby d1_9) rfl k) ?_
  show own_Wp p e below _ T6 (mkF m 10 #[.val (.ref (w12_LESS_EQUAL Z)), .val (.ref b2), .val (.int (7 : Int32)), .val (.int (1 : Int32)), .val (.ref (w20_EQUAL Z))] [(.int (1 : Int32))])
  refine own_step (fun _ k => XS.iloadN X6.here hx rfl (hb hby d1_10) rfl k) ?_
  show own_Wp p e below _ T6 (mkF m 11 #[.val (.ref (w12_LESS_EQUAL Z)), .val (.ref b2), .val (.int (7 : Int32)), .val (.int (1 : Int32)), .val (.ref (w20_EQUAL Z))] [(.int (7 : Int32)), (.int (1 : Int32))])
  refine own_step (fun _ k => XS.icmpNo X6.here hx rfl (hb hby d1_11) rfl (by decide) k) ?_
  show own_Wp p e below _ T6 (mkF m 14 #[.val (.ref (w12_LESS_EQUAL Z)), .val (.ref b2), .val (.int (7 : Int32)), .val (.int (1 : Int32)), .val (.ref (w20_EQUAL Z))] [])
  refine own_step (fun _ k => XS.aloadN X6.here hx rfl (hb hby d1_14) rfl rfl k) ?_
  show own_Wp p e below _ T6 (mkF m 15 #[.val (.ref (w12_LESS_EQUAL Z)), .val (.ref b2), .val (.int (7 : Int32)), .val (.int (1 : Int32)), .val (.ref (w20_EQUAL Z))] [(.ref b2)])
  refine own_step (fun _ k => XS.iloadN X6.here hx rfl (hb hby d1_15) rfl k) ?_
  show own_Wp p e below _ T6 (mkF m 16 #[.val (.ref (w12_LESS_EQUAL Z)), .val (.ref b2), .val (.int (7 : Int32)), .val (.int (1 : Int32)), .val (.ref (w20_EQUAL Z))] [(.int (1 : Int32)), (.ref b2)])
  obtain ⟨c7, r7, q7, t7, u7, y7h, y7g⟩ := id F1_0
  have i7 : ¬ ((1 : Int32) < 0 ∨ c7.slots.size ≤ ((1 : Int32)).toNatClampNeg) := inb_of t7 ⟨by decide, by decide⟩
  refine own_step (fun _ k => X6.aaload hx (j := (1 : Int32)) (v := (.ref (w21_NOT_EQUAL Z))) (by rw [e6]; exact r7.1) (State.isArrayOf_alike hZ.alike r7.2.1) rfl r7.2.2 i7 (own_get t7 y7h i7 1 rfl) (g := (mkF m 16 #[.val (.ref (w12_LESS_EQUAL Z)), .val (.ref b2), .val (.int (7 : Int32)), .val (.int (1 : Int32)), .val (.ref (w20_EQUAL Z))] [(.int (1 : Int32)), (.ref b2)])) rfl rfl (hb hby d1_16) _ k) ?_
  show own_Wp p e below _ T6 (mkF m 17 #[.val (.ref (w12_LESS_EQUAL Z)), .val (.ref b2), .val (.int (7 : Int32)), .val (.int (1 : Int32)), .val (.ref (w20_EQUAL Z))] [(.ref (w21_NOT_EQUAL Z))])
  refine own_step (fun _ k => XS.astore X6.here hx rfl (hb hby d1_17) rfl rfl (l' := #[.val (.ref (w12_LESS_EQUAL Z)), .val (.ref b2), .val (.int (7 : Int32)), .val (.int (1 : Int32)), .val (.ref (w21_NOT_EQUAL Z))]) rfl k) ?_
  show own_Wp p e below _ T6 (mkF m 19 #[.val (.ref (w12_LESS_EQUAL Z)), .val (.ref b2), .val (.int (7 : Int32)), .val (.int (1 : Int32)), .val (.ref (w21_NOT_EQUAL Z))] [])
  refine own_step (fun _ k => XS.aload X6.here hx rfl (hb hby d1_19) rfl rfl k) ?_
  show own_Wp p e below _ T6 (mkF m 21 #[.val (.ref (w12_LESS_EQUAL Z)), .val (.ref b2), .val (.int (7 : Int32)), .val (.int (1 : Int32)), .val (.ref (w21_NOT_EQUAL Z))] [(.ref (w21_NOT_EQUAL Z))])
  obtain ⟨T8, X8, e8, st8⟩ := getF X6 hx hZ hown (host := "") (Or.inl (hw _ (List.mem_of_getElem? (i := 69) rfl))) Via.refl e6 ((fl3 hw hA hS hF).ext O1.2) (g := (mkF m 21 #[.val (.ref (w12_LESS_EQUAL Z)), .val (.ref b2), .val (.int (7 : Int32)), .val (.int (1 : Int32)), .val (.ref (w21_NOT_EQUAL Z))] [(.ref (w21_NOT_EQUAL Z))])) rfl rfl (hb hby d1_21)
  refine own_step st8 ?_
  show own_Wp p e below _ T8 (mkF m 24 #[.val (.ref (w12_LESS_EQUAL Z)), .val (.ref b2), .val (.int (7 : Int32)), .val (.int (1 : Int32)), .val (.ref (w21_NOT_EQUAL Z))] [(.ref (w10_NOT_EQUAL Z))])
  refine own_step (fun _ k => XS.aloadN X8.here hx rfl (hb hby d1_24) rfl rfl k) ?_
  show own_Wp p e below _ T8 (mkF m 25 #[.val (.ref (w12_LESS_EQUAL Z)), .val (.ref b2), .val (.int (7 : Int32)), .val (.int (1 : Int32)), .val (.ref (w21_NOT_EQUAL Z))] [(.ref (w12_LESS_EQUAL Z)), (.ref (w10_NOT_EQUAL Z))])
  refine own_step (fun _ k => Jvm.RoadKit.acmp (g := (mkF m 25 #[.val (.ref (w12_LESS_EQUAL Z)), .val (.ref b2), .val (.int (7 : Int32)), .val (.int (1 : Int32)), .val (.ref (w21_NOT_EQUAL Z))] [(.ref (w12_LESS_EQUAL Z)), (.ref (w10_NOT_EQUAL Z))])) X8 hx rfl rfl rfl (pc0 := 25) (pc' := 34) (same := false) rfl (hb hby d1_25) rfl (decide_eq_false fun q => (Fld.ne (fl4 hw hA hS hF) (fl10 hw hA hS hF) (by decide)) (Value.ref.inj q)) (by decide) (by decide) k) ?_
  show own_Wp p e below _ T8 (mkF m 34 #[.val (.ref (w12_LESS_EQUAL Z)), .val (.ref b2), .val (.int (7 : Int32)), .val (.int (1 : Int32)), .val (.ref (w21_NOT_EQUAL Z))] [])
  refine own_step (fun _ k => XS.iinc X8.here hx rfl (hb hby d1_34) rfl (l' := #[.val (.ref (w12_LESS_EQUAL Z)), .val (.ref b2), .val (.int (7 : Int32)), .val (.int ((1 : Int32) + (1 : Int32))), .val (.ref (w21_NOT_EQUAL Z))]) rfl k) ?_
  show own_Wp p e below _ T8 (mkF m 37 #[.val (.ref (w12_LESS_EQUAL Z)), .val (.ref b2), .val (.int (7 : Int32)), .val (.int ((1 : Int32) + (1 : Int32))), .val (.ref (w21_NOT_EQUAL Z))] [])
  rw [(by decide : ((1 : Int32) + (1 : Int32)) = (2 : Int32))]
  show own_Wp p e below _ T8 (mkF m 37 #[.val (.ref (w12_LESS_EQUAL Z)), .val (.ref b2), .val (.int (7 : Int32)), .val (.int (2 : Int32)), .val (.ref (w21_NOT_EQUAL Z))] [])
  refine own_step (fun _ k => XS.goto X8.here hx rfl (pc0 := 37) (pc' := 9) rfl (hb hby d1_37) (by decide) (by decide) k) ?_
  show own_Wp p e below _ T8 (mkF m 9 #[.val (.ref (w12_LESS_EQUAL Z)), .val (.ref b2), .val (.int (7 : Int32)), .val (.int (2 : Int32)), .val (.ref (w21_NOT_EQUAL Z))] [])
  refine own_step (fun _ k => XS.iloadN X8.here hx rfl (hb hby d1_9) rfl k) ?_
  show own_Wp p e below _ T8 (mkF m 10 #[.val (.ref (w12_LESS_EQUAL Z)), .val (.ref b2), .val (.int (7 : Int32)), .val (.int (2 : Int32)), .val (.ref (w21_NOT_EQUAL Z))] [(.int (2 : Int32))])
  refine own_step (fun _ k => XS.iloadN X8.here hx rfl (hb hby d1_10) rfl k) ?_
  show own_Wp p e below _ T8 (mkF m 11 #[.val (.ref (w12_LESS_EQUAL Z)), .val (.ref b2), .val (.int (7 : Int32)), .val (.int (2 : Int32)), .val (.ref (w21_NOT_EQUAL Z))] [(.int (7 : Int32)), (.int (2 : Int32))])
  refine own_step (fun _ k => XS.icmpNo X8.here hx rfl (hb hby d1_11) rfl (by decide) k) ?_
  show own_Wp p e below _ T8 (mkF m 14 #[.val (.ref (w12_LESS_EQUAL Z)), .val (.ref b2), .val (.int (7 : Int32)), .val (.int (2 : Int32)), .val (.ref (w21_NOT_EQUAL Z))] [])
  refine own_step (fun _ k => XS.aloadN X8.here hx rfl (hb hby d1_14) rfl rfl k) ?_
  show own_Wp p e below _ T8 (mkF m 15 #[.val (.ref (w12_LESS_EQUAL Z)), .val (.ref b2), .val (.int (7 : Int32)), .val (.int (2 : Int32)), .val (.ref (w21_NOT_EQUAL Z))] [(.ref b2)])
  refine own_step (fun _ k => XS.iloadN X8.here hx rfl (hb hby d1_15) rfl k) ?_
  show own_Wp p e below _ T8 (mkF m 16 #[.val (.ref (w12_LESS_EQUAL Z)), .val (.ref b2), .val (.int (7 : Int32)), .val (.int (2 : Int32)), .val (.ref (w21_NOT_EQUAL Z))] [(.int (2 : Int32)), (.ref b2)])
  obtain ⟨c9, r9, q9, t9, u9, y9h, y9g⟩ := id F1_0
  have i9 : ¬ ((2 : Int32) < 0 ∨ c9.slots.size ≤ ((2 : Int32)).toNatClampNeg) := inb_of t9 ⟨by decide, by decide⟩
  refine own_step (fun _ k => X8.aaload hx (j := (2 : Int32)) (v := (.ref (w22_MATCH Z))) (by rw [e8]; exact r9.1) (State.isArrayOf_alike hZ.alike r9.2.1) rfl r9.2.2 i9 (own_get t9 y9h i9 2 rfl) (g := (mkF m 16 #[.val (.ref (w12_LESS_EQUAL Z)), .val (.ref b2), .val (.int (7 : Int32)), .val (.int (2 : Int32)), .val (.ref (w21_NOT_EQUAL Z))] [(.int (2 : Int32)), (.ref b2)])) rfl rfl (hb hby d1_16) _ k) ?_
  show own_Wp p e below _ T8 (mkF m 17 #[.val (.ref (w12_LESS_EQUAL Z)), .val (.ref b2), .val (.int (7 : Int32)), .val (.int (2 : Int32)), .val (.ref (w21_NOT_EQUAL Z))] [(.ref (w22_MATCH Z))])
  refine own_step (fun _ k => XS.astore X8.here hx rfl (hb hby d1_17) rfl rfl (l' := #[.val (.ref (w12_LESS_EQUAL Z)), .val (.ref b2), .val (.int (7 : Int32)), .val (.int (2 : Int32)), .val (.ref (w22_MATCH Z))]) rfl k) ?_
  show own_Wp p e below _ T8 (mkF m 19 #[.val (.ref (w12_LESS_EQUAL Z)), .val (.ref b2), .val (.int (7 : Int32)), .val (.int (2 : Int32)), .val (.ref (w22_MATCH Z))] [])
  refine own_step (fun _ k => XS.aload X8.here hx rfl (hb hby d1_19) rfl rfl k) ?_
  show own_Wp p e below _ T8 (mkF m 21 #[.val (.ref (w12_LESS_EQUAL Z)), .val (.ref b2), .val (.int (7 : Int32)), .val (.int (2 : Int32)), .val (.ref (w22_MATCH Z))] [(.ref (w22_MATCH Z))])
  obtain ⟨T10, X10, e10, st10⟩ := getF X8 hx hZ hown (host := "") (Or.inl (hw _ (List.mem_of_getElem? (i := 69) rfl))) Via.refl e8 ((fl5 hw hA hS hF).ext O1.2) (g := (mkF m 21 #[.val (.ref (w12_LESS_EQUAL Z)), .val (.ref b2), .val (.int (7 : Int32)), .val (.int (2 : Int32)), .val (.ref (w22_MATCH Z))] [(.ref (w22_MATCH Z))])) rfl rfl (hb hby d1_21)
  refine own_step st10 ?_
  show own_Wp p e below _ T10 (mkF m 24 #[.val (.ref (w12_LESS_EQUAL Z)), .val (.ref b2), .val (.int (7 : Int32)), .val (.int (2 : Int32)), .val (.ref (w22_MATCH Z))] [(.ref (w11_MATCH Z))])
  refine own_step (fun _ k => XS.aloadN X10.here hx rfl (hb hby d1_24) rfl rfl k) ?_
  show own_Wp p e below _ T10 (mkF m 25 #[.val (.ref (w12_LESS_EQUAL Z)), .val (.ref b2), .val (.int (7 : Int32)), .val (.int (2 : Int32)), .val (.ref (w22_MATCH Z))] [(.ref (w12_LESS_EQUAL Z)), (.ref (w11_MATCH Z))])
  refine own_step (fun _ k => Jvm.RoadKit.acmp (g := (mkF m 25 #[.val (.ref (w12_LESS_EQUAL Z)), .val (.ref b2), .val (.int (7 : Int32)), .val (.int (2 : Int32)), .val (.ref (w22_MATCH Z))] [(.ref (w12_LESS_EQUAL Z)), (.ref (w11_MATCH Z))])) X10 hx rfl rfl rfl (pc0 := 25) (pc' := 34) (same := false) rfl (hb hby d1_25) rfl (decide_eq_false fun q => (Fld.ne (fl6 hw hA hS hF) (fl10 hw hA hS hF) (by decide)) (Value.ref.inj q)) (by decide) (by decide) k) ?_
  show own_Wp p e below _ T10 (mkF m 34 #[.val (.ref (w12_LESS_EQUAL Z)), .val (.ref b2), .val (.int (7 : Int32)), .val (.int (2 : Int32)), .val (.ref (w22_MATCH Z))] [])
  refine own_step (fun _ k => XS.iinc X10.here hx rfl (hb hby d1_34) rfl (l' := #[.val (.ref (w12_LESS_EQUAL Z)), .val (.ref b2), .val (.int (7 : Int32)), .val (.int ((2 : Int32) + (1 : Int32))), .val (.ref (w22_MATCH Z))]) rfl k) ?_
  show own_Wp p e below _ T10 (mkF m 37 #[.val (.ref (w12_LESS_EQUAL Z)), .val (.ref b2), .val (.int (7 : Int32)), .val (.int ((2 : Int32) + (1 : Int32))), .val (.ref (w22_MATCH Z))] [])
  rw [(by decide : ((2 : Int32) + (1 : Int32)) = (3 : Int32))]
  show own_Wp p e below _ T10 (mkF m 37 #[.val (.ref (w12_LESS_EQUAL Z)), .val (.ref b2), .val (.int (7 : Int32)), .val (.int (3 : Int32)), .val (.ref (w22_MATCH Z))] [])
  refine own_step (fun _ k => XS.goto X10.here hx rfl (pc0 := 37) (pc' := 9) rfl (hb hby d1_37) (by decide) (by decide) k) ?_
  show own_Wp p e below _ T10 (mkF m 9 #[.val (.ref (w12_LESS_EQUAL Z)), .val (.ref b2), .val (.int (7 : Int32)), .val (.int (3 : Int32)), .val (.ref (w22_MATCH Z))] [])
  refine own_step (fun _ k => XS.iloadN X10.here hx rfl (hb hby d1_9) rfl k) ?_
  show own_Wp p e below _ T10 (mkF m 10 #[.val (.ref (w12_LESS_EQUAL Z)), .val (.ref b2), .val (.int (7 : Int32)), .val (.int (3 : Int32)), .val (.ref (w22_MATCH Z))] [(.int (3 : Int32))])
  refine own_step (fun _ k => XS.iloadN X10.here hx rfl (hb hby d1_10) rfl k) ?_
  show own_Wp p e below _ T10 (mkF m 11 #[.val (.ref (w12_LESS_EQUAL Z)), .val (.ref b2), .val (.int (7 : Int32)), .val (.int (3 : Int32)), .val (.ref (w22_MATCH Z))] [(.int (7 : Int32)), (.int (3 : Int32))])
  refine own_step (fun _ k => XS.icmpNo X10.here hx rfl (hb hby d1_11) rfl (by decide) k) ?_
  show own_Wp p e below _ T10 (mkF m 14 #[.val (.ref (w12_LESS_EQUAL Z)), .val (.ref b2), .val (.int (7 : Int32)), .val (.int (3 : Int32)), .val (.ref (w22_MATCH Z))] [])
  refine own_step (fun _ k => XS.aloadN X10.here hx rfl (hb hby d1_14) rfl rfl k) ?_
  show own_Wp p e below _ T10 (mkF m 15 #[.val (.ref (w12_LESS_EQUAL Z)), .val (.ref b2), .val (.int (7 : Int32)), .val (.int (3 : Int32)), .val (.ref (w22_MATCH Z))] [(.ref b2)])
  refine own_step (fun _ k => XS.iloadN X10.here hx rfl (hb hby d1_15) rfl k) ?_
  show own_Wp p e below _ T10 (mkF m 16 #[.val (.ref (w12_LESS_EQUAL Z)), .val (.ref b2), .val (.int (7 : Int32)), .val (.int (3 : Int32)), .val (.ref (w22_MATCH Z))] [(.int (3 : Int32)), (.ref b2)])
  obtain ⟨c11, r11, q11, t11, u11, y11h, y11g⟩ := id F1_0
  have i11 : ¬ ((3 : Int32) < 0 ∨ c11.slots.size ≤ ((3 : Int32)).toNatClampNeg) := inb_of t11 ⟨by decide, by decide⟩
  refine own_step (fun _ k => X10.aaload hx (j := (3 : Int32)) (v := (.ref (w23_LESS Z))) (by rw [e10]; exact r11.1) (State.isArrayOf_alike hZ.alike r11.2.1) rfl r11.2.2 i11 (own_get t11 y11h i11 3 rfl) (g := (mkF m 16 #[.val (.ref (w12_LESS_EQUAL Z)), .val (.ref b2), .val (.int (7 : Int32)), .val (.int (3 : Int32)), .val (.ref (w22_MATCH Z))] [(.int (3 : Int32)), (.ref b2)])) rfl rfl (hb hby d1_16) _ k) ?_
  show own_Wp p e below _ T10 (mkF m 17 #[.val (.ref (w12_LESS_EQUAL Z)), .val (.ref b2), .val (.int (7 : Int32)), .val (.int (3 : Int32)), .val (.ref (w22_MATCH Z))] [(.ref (w23_LESS Z))])
  refine own_step (fun _ k => XS.astore X10.here hx rfl (hb hby d1_17) rfl rfl (l' := #[.val (.ref (w12_LESS_EQUAL Z)), .val (.ref b2), .val (.int (7 : Int32)), .val (.int (3 : Int32)), .val (.ref (w23_LESS Z))]) rfl k) ?_
  show own_Wp p e below _ T10 (mkF m 19 #[.val (.ref (w12_LESS_EQUAL Z)), .val (.ref b2), .val (.int (7 : Int32)), .val (.int (3 : Int32)), .val (.ref (w23_LESS Z))] [])
  refine own_step (fun _ k => XS.aload X10.here hx rfl (hb hby d1_19) rfl rfl k) ?_
  show own_Wp p e below _ T10 (mkF m 21 #[.val (.ref (w12_LESS_EQUAL Z)), .val (.ref b2), .val (.int (7 : Int32)), .val (.int (3 : Int32)), .val (.ref (w23_LESS Z))] [(.ref (w23_LESS Z))])
  obtain ⟨T12, X12, e12, st12⟩ := getF X10 hx hZ hown (host := "") (Or.inl (hw _ (List.mem_of_getElem? (i := 69) rfl))) Via.refl e10 ((fl7 hw hA hS hF).ext O1.2) (g := (mkF m 21 #[.val (.ref (w12_LESS_EQUAL Z)), .val (.ref b2), .val (.int (7 : Int32)), .val (.int (3 : Int32)), .val (.ref (w23_LESS Z))] [(.ref (w23_LESS Z))])) rfl rfl (hb hby d1_21)
  refine own_step st12 ?_
  show own_Wp p e below _ T12 (mkF m 24 #[.val (.ref (w12_LESS_EQUAL Z)), .val (.ref b2), .val (.int (7 : Int32)), .val (.int (3 : Int32)), .val (.ref (w23_LESS Z))] [(.ref (w13_LESS Z))])
  refine own_step (fun _ k => XS.aloadN X12.here hx rfl (hb hby d1_24) rfl rfl k) ?_
  show own_Wp p e below _ T12 (mkF m 25 #[.val (.ref (w12_LESS_EQUAL Z)), .val (.ref b2), .val (.int (7 : Int32)), .val (.int (3 : Int32)), .val (.ref (w23_LESS Z))] [(.ref (w12_LESS_EQUAL Z)), (.ref (w13_LESS Z))])
  refine own_step (fun _ k => Jvm.RoadKit.acmp (g := (mkF m 25 #[.val (.ref (w12_LESS_EQUAL Z)), .val (.ref b2), .val (.int (7 : Int32)), .val (.int (3 : Int32)), .val (.ref (w23_LESS Z))] [(.ref (w12_LESS_EQUAL Z)), (.ref (w13_LESS Z))])) X12 hx rfl rfl rfl (pc0 := 25) (pc' := 34) (same := false) rfl (hb hby d1_25) rfl (decide_eq_false fun q => (Fld.ne (fl8 hw hA hS hF) (fl10 hw hA hS hF) (by decide)) (Value.ref.inj q)) (by decide) (by decide) k) ?_
  show own_Wp p e below _ T12 (mkF m 34 #[.val (.ref (w12_LESS_EQUAL Z)), .val (.ref b2), .val (.int (7 : Int32)), .val (.int (3 : Int32)), .val (.ref (w23_LESS Z))] [])
  refine own_step (fun _ k => XS.iinc X12.here hx rfl (hb hby d1_34) rfl (l' := #[.val (.ref (w12_LESS_EQUAL Z)), .val (.ref b2), .val (.int (7 : Int32)), .val (.int ((3 : Int32) + (1 : Int32))), .val (.ref (w23_LESS Z))]) rfl k) ?_
  show own_Wp p e below _ T12 (mkF m 37 #[.val (.ref (w12_LESS_EQUAL Z)), .val (.ref b2), .val (.int (7 : Int32)), .val (.int ((3 : Int32) + (1 : Int32))), .val (.ref (w23_LESS Z))] [])
  rw [(by decide : ((3 : Int32) + (1 : Int32)) = (4 : Int32))]
  show own_Wp p e below _ T12 (mkF m 37 #[.val (.ref (w12_LESS_EQUAL Z)), .val (.ref b2), .val (.int (7 : Int32)), .val (.int (4 : Int32)), .val (.ref (w23_LESS Z))] [])
  refine own_step (fun _ k => XS.goto X12.here hx rfl (pc0 := 37) (pc' := 9) rfl (hb hby d1_37) (by decide) (by decide) k) ?_
  show own_Wp p e below _ T12 (mkF m 9 #[.val (.ref (w12_LESS_EQUAL Z)), .val (.ref b2), .val (.int (7 : Int32)), .val (.int (4 : Int32)), .val (.ref (w23_LESS Z))] [])
  refine own_step (fun _ k => XS.iloadN X12.here hx rfl (hb hby d1_9) rfl k) ?_
  show own_Wp p e below _ T12 (mkF m 10 #[.val (.ref (w12_LESS_EQUAL Z)), .val (.ref b2), .val (.int (7 : Int32)), .val (.int (4 : Int32)), .val (.ref (w23_LESS Z))] [(.int (4 : Int32))])
  refine own_step (fun _ k => XS.iloadN X12.here hx rfl (hb hby d1_10) rfl k) ?_
  show own_Wp p e below _ T12 (mkF m 11 #[.val (.ref (w12_LESS_EQUAL Z)), .val (.ref b2), .val (.int (7 : Int32)), .val (.int (4 : Int32)), .val (.ref (w23_LESS Z))] [(.int (7 : Int32)), (.int (4 : Int32))])
  refine own_step (fun _ k => XS.icmpNo X12.here hx rfl (hb hby d1_11) rfl (by decide) k) ?_
  show own_Wp p e below _ T12 (mkF m 14 #[.val (.ref (w12_LESS_EQUAL Z)), .val (.ref b2), .val (.int (7 : Int32)), .val (.int (4 : Int32)), .val (.ref (w23_LESS Z))] [])
  refine own_step (fun _ k => XS.aloadN X12.here hx rfl (hb hby d1_14) rfl rfl k) ?_
  show own_Wp p e below _ T12 (mkF m 15 #[.val (.ref (w12_LESS_EQUAL Z)), .val (.ref b2), .val (.int (7 : Int32)), .val (.int (4 : Int32)), .val (.ref (w23_LESS Z))] [(.ref b2)])
  refine own_step (fun _ k => XS.iloadN X12.here hx rfl (hb hby d1_15) rfl k) ?_
  show own_Wp p e below _ T12 (mkF m 16 #[.val (.ref (w12_LESS_EQUAL Z)), .val (.ref b2), .val (.int (7 : Int32)), .val (.int (4 : Int32)), .val (.ref (w23_LESS Z))] [(.int (4 : Int32)), (.ref b2)])
  obtain ⟨c13, r13, q13, t13, u13, y13h, y13g⟩ := id F1_0
  have i13 : ¬ ((4 : Int32) < 0 ∨ c13.slots.size ≤ ((4 : Int32)).toNatClampNeg) := inb_of t13 ⟨by decide, by decide⟩
  refine own_step (fun _ k => X12.aaload hx (j := (4 : Int32)) (v := (.ref (w24_LESS_EQUAL Z))) (by rw [e12]; exact r13.1) (State.isArrayOf_alike hZ.alike r13.2.1) rfl r13.2.2 i13 (own_get t13 y13h i13 4 rfl) (g := (mkF m 16 #[.val (.ref (w12_LESS_EQUAL Z)), .val (.ref b2), .val (.int (7 : Int32)), .val (.int (4 : Int32)), .val (.ref (w23_LESS Z))] [(.int (4 : Int32)), (.ref b2)])) rfl rfl (hb hby d1_16) _ k) ?_
  show own_Wp p e below _ T12 (mkF m 17 #[.val (.ref (w12_LESS_EQUAL Z)), .val (.ref b2), .val (.int (7 : Int32)), .val (.int (4 : Int32)), .val (.ref (w23_LESS Z))] [(.ref (w24_LESS_EQUAL Z))])
  refine own_step (fun _ k => XS.astore X12.here hx rfl (hb hby d1_17) rfl rfl (l' := #[.val (.ref (w12_LESS_EQUAL Z)), .val (.ref b2), .val (.int (7 : Int32)), .val (.int (4 : Int32)), .val (.ref (w24_LESS_EQUAL Z))]) rfl k) ?_
  show own_Wp p e below _ T12 (mkF m 19 #[.val (.ref (w12_LESS_EQUAL Z)), .val (.ref b2), .val (.int (7 : Int32)), .val (.int (4 : Int32)), .val (.ref (w24_LESS_EQUAL Z))] [])
  refine own_step (fun _ k => XS.aload X12.here hx rfl (hb hby d1_19) rfl rfl k) ?_
  show own_Wp p e below _ T12 (mkF m 21 #[.val (.ref (w12_LESS_EQUAL Z)), .val (.ref b2), .val (.int (7 : Int32)), .val (.int (4 : Int32)), .val (.ref (w24_LESS_EQUAL Z))] [(.ref (w24_LESS_EQUAL Z))])
  obtain ⟨T14, X14, e14, st14⟩ := getF X12 hx hZ hown (host := "") (Or.inl (hw _ (List.mem_of_getElem? (i := 69) rfl))) Via.refl e12 ((fl9 hw hA hS hF).ext O1.2) (g := (mkF m 21 #[.val (.ref (w12_LESS_EQUAL Z)), .val (.ref b2), .val (.int (7 : Int32)), .val (.int (4 : Int32)), .val (.ref (w24_LESS_EQUAL Z))] [(.ref (w24_LESS_EQUAL Z))])) rfl rfl (hb hby d1_21)
  refine own_step st14 ?_
  show own_Wp p e below _ T14 (mkF m 24 #[.val (.ref (w12_LESS_EQUAL Z)), .val (.ref b2), .val (.int (7 : Int32)), .val (.int (4 : Int32)), .val (.ref (w24_LESS_EQUAL Z))] [(.ref (w12_LESS_EQUAL Z))])
  refine own_step (fun _ k => XS.aloadN X14.here hx rfl (hb hby d1_24) rfl rfl k) ?_
  show own_Wp p e below _ T14 (mkF m 25 #[.val (.ref (w12_LESS_EQUAL Z)), .val (.ref b2), .val (.int (7 : Int32)), .val (.int (4 : Int32)), .val (.ref (w24_LESS_EQUAL Z))] [(.ref (w12_LESS_EQUAL Z)), (.ref (w12_LESS_EQUAL Z))])
  refine own_step (fun _ k => Jvm.RoadKit.acmp (g := (mkF m 25 #[.val (.ref (w12_LESS_EQUAL Z)), .val (.ref b2), .val (.int (7 : Int32)), .val (.int (4 : Int32)), .val (.ref (w24_LESS_EQUAL Z))] [(.ref (w12_LESS_EQUAL Z)), (.ref (w12_LESS_EQUAL Z))])) X14 hx rfl rfl rfl (pc0 := 25) (pc' := 28) (same := true) rfl (hb hby d1_25) rfl (decide_eq_true rfl) (by decide) (by decide) k) ?_
  show own_Wp p e below _ T14 (mkF m 28 #[.val (.ref (w12_LESS_EQUAL Z)), .val (.ref b2), .val (.int (7 : Int32)), .val (.int (4 : Int32)), .val (.ref (w24_LESS_EQUAL Z))] [])
  refine own_step (fun _ k => XS.aload X14.here hx rfl (hb hby d1_28) rfl rfl k) ?_
  show own_Wp p e below _ T14 (mkF m 30 #[.val (.ref (w12_LESS_EQUAL Z)), .val (.ref b2), .val (.int (7 : Int32)), .val (.int (4 : Int32)), .val (.ref (w24_LESS_EQUAL Z))] [(.ref (w24_LESS_EQUAL Z))])
  obtain ⟨_, T15, L15, X15, hQ15, st15⟩ := own_callS X14 hx hZ hown (hw _ (List.mem_of_getElem? (i := 87) rfl)) (hw _ (List.mem_of_getElem? (i := 88) rfl)) (hw _ (List.mem_of_getElem? (i := 73) rfl)) (hw _ (List.mem_of_getElem? (i := 89) rfl)) (by decide) (rm6_7 l Z a0 hw hA hS hF [] (w24_LESS_EQUAL Z) T1.heap n0 O1) (W := 0) (by decide) (by decide) [(.ref (w24_LESS_EQUAL Z))] rfl (lenOf pd10 rfl) (Ls := #[.val (.ref (w12_LESS_EQUAL Z)), .val (.ref b2), .val (.int (7 : Int32)), .val (.int (4 : Int32)), .val (.ref (w24_LESS_EQUAL Z))]) (by rw [hml]; rfl) (rest := []) (Nat.le_of_eq rfl) (hb hby d1_30) e14 (by decide) (by decide)
  refine st15 _ ?_
  obtain ⟨b16, rfl, N15q, K15q, y15_0, F15_0, F15_1⟩ := hQ15
  have N15 := Fr.app N1 N15q
  have g15_0 : n0 ≤ b16 := Nat.le_trans (O1.1 ▸ O1.2.1) y15_0
  have ne15_0_0 : b2 ≠ b16 := Nat.ne_of_lt (Nat.lt_of_lt_of_le F1_0.lt y15_0)
  have u15_0 : h0.size ≤ b16 := Nat.le_trans (K1.1) y15_0
  have O15 := O1.keep K15q all0
  have K15 : Keep h0 T15.heap [] := Keep.trans K1 K15q all0
  show own_Wp p e below _ T15 (mkF m 33 #[.val (.ref (w12_LESS_EQUAL Z)), .val (.ref b2), .val (.int (7 : Int32)), .val (.int (4 : Int32)), .val (.ref (w24_LESS_EQUAL Z))] [(.ref b16)])
  exact own_retA X15 hx hret rfl rfl hlk (hb hby d1_33) (by decide) (by decide) (⟨b16, rfl, N15, K15, u15_0, F15_0, F15_1⟩)

set_option maxRecDepth 65536 in
set_option maxHeartbeats 40000000 in
theorem rm4_18 (l : Launch) (Z : State) (a0 : Array Value) (hw : ∀ d ∈ tables_1, d.before a0 Z = true) (hA : ∀ d ∈ own_flat narrow_1, d.value a0 Z none Z [] = some true) (hS : ∀ d ∈ jdkStatics_1, d.before a0 Z = true) (hF : Fit Z) (ws : List Jvm.Cond) (px1 : Addr) (h0 : Heap) (n0 : Nat) (O0 : Old Z n0 h0) (P1 : Fld Z h0 px1 "java/util/Optional" "value" "Ljava/lang/Object;" (.ref (w24_LESS_EQUAL Z))) :
    own_Met l Z (⟨"java/util/Optional", "orElse", "(Ljava/lang/Object;)Ljava/lang/Object;"⟩ : MethodName) (Jvm.Cond.code (⟨"java/util/Optional", "orElse", "(Ljava/lang/Object;)Ljava/lang/Object;"⟩ : MethodName) jdk_32_method_15_code 2 (some (.object "java/lang/Object"))) ws ({ frames := 0, cells := 0, slots := 0, locals := 0 } : Room) #[(.ref px1), .null] h0 (fun v h L => (v = some (.ref (w24_LESS_EQUAL Z)) ∧ Fr n0 L ∧ h = h0)) := by
  refine own_met (own := "java/util/Optional") (plainFor_of_name pn2) rfl ?_
  intro p e s m below meth c s₁ hx hby hml hown hnm hret hlk hZ e0 X0
  refine own_cast (g' := (mkF m 0 #[.val (.ref px1), .val .null] [])) (by first | (simp [entryFrame, mkF, argsToLocals, Value.category]; done) | rfl) ?_
  refine own_step (fun _ k => XS.aloadN X0.here hx rfl (hb hby d4_0) rfl rfl k) ?_
  show own_Wp p e below _ s₁ (mkF m 1 #[.val (.ref px1), .val .null] [(.ref px1)])
  obtain ⟨T1, X1, e1, st1⟩ := getF X0 hx hZ hown (host := "") (Or.inl (hw _ (List.mem_of_getElem? (i := 81) rfl))) Via.refl e0 P1 (g := (mkF m 1 #[.val (.ref px1), .val .null] [(.ref px1)])) rfl rfl (hb hby d4_1)
  refine own_step st1 ?_
  show own_Wp p e below _ T1 (mkF m 4 #[.val (.ref px1), .val .null] [(.ref (w24_LESS_EQUAL Z))])
  refine own_step (fun _ k => XS.ifnullNo X1.here hx rfl (hb hby d4_4) rfl k) ?_
  show own_Wp p e below _ T1 (mkF m 7 #[.val (.ref px1), .val .null] [])
  refine own_step (fun _ k => XS.aloadN X1.here hx rfl (hb hby d4_7) rfl rfl k) ?_
  show own_Wp p e below _ T1 (mkF m 8 #[.val (.ref px1), .val .null] [(.ref px1)])
  obtain ⟨T2, X2, e2, st2⟩ := getF X1 hx hZ hown (host := "") (Or.inl (hw _ (List.mem_of_getElem? (i := 81) rfl))) Via.refl e1 P1 (g := (mkF m 8 #[.val (.ref px1), .val .null] [(.ref px1)])) rfl rfl (hb hby d4_8)
  refine own_step st2 ?_
  show own_Wp p e below _ T2 (mkF m 11 #[.val (.ref px1), .val .null] [(.ref (w24_LESS_EQUAL Z))])
  refine own_step (fun _ k => XS.goto X2.here hx rfl (pc0 := 11) (pc' := 15) rfl (hb hby d4_11) (by decide) (by decide) k) ?_
  show own_Wp p e below _ T2 (mkF m 15 #[.val (.ref px1), .val .null] [(.ref (w24_LESS_EQUAL Z))])
  exact own_retA X2 hx hret rfl rfl hlk (hb hby d4_15) (by decide) (by decide) (by rw [e2]; exact ⟨rfl, (Fr.nil n0), rfl⟩)

set_option maxRecDepth 65536 in
set_option maxHeartbeats 40000000 in
theorem rm5_19 (l : Launch) (Z : State) (a0 : Array Value) (hw : ∀ d ∈ tables_1, d.before a0 Z = true) (hA : ∀ d ∈ own_flat narrow_1, d.value a0 Z none Z [] = some true) (hS : ∀ d ∈ jdkStatics_1, d.before a0 Z = true) (hF : Fit Z) (ws : List Jvm.Cond) (h0 : Heap) (n0 : Nat) (O0 : Old Z n0 h0) :
    own_Met l Z (⟨"com/example/proviso/proviso/expression/ComparisonOperatorSpelledByPinLaw", "expected", "(Lcom/example/proviso/proviso/expression/Lexer$Kind;)Lcom/example/proviso/proviso/expression/ComparisonOperator;"⟩ : MethodName) (Jvm.Cond.code (⟨"com/example/proviso/proviso/expression/ComparisonOperatorSpelledByPinLaw", "expected", "(Lcom/example/proviso/proviso/expression/Lexer$Kind;)Lcom/example/proviso/proviso/expression/ComparisonOperator;"⟩ : MethodName) method_3_code 1 (some (.object "com/example/proviso/proviso/expression/ComparisonOperator"))) ws ({ frames := 0, cells := 0, slots := 0, locals := 0 } : Room) #[(.ref (w12_LESS_EQUAL Z))] h0 (fun v h L => (v = some (.ref (w24_LESS_EQUAL Z)) ∧ Fr n0 L ∧ h = h0)) := by
  refine own_met (own := "com/example/proviso/proviso/expression/ComparisonOperatorSpelledByPinLaw") (plainFor_of_name pn6) rfl ?_
  intro p e s m below meth c s₁ hx hby hml hown hnm hret hlk hZ e0 X0
  refine own_cast (g' := (mkF m 0 #[.val (.ref (w12_LESS_EQUAL Z))] [])) (by first | (simp [entryFrame, mkF, argsToLocals, Value.category]; done) | rfl) ?_
  refine own_step (fun _ k => XS.aloadN X0.here hx rfl (hb hby d5_0) rfl rfl k) ?_
  show own_Wp p e below _ s₁ (mkF m 1 #[.val (.ref (w12_LESS_EQUAL Z))] [(.ref (w12_LESS_EQUAL Z))])
  obtain ⟨T1, X1, e1, st1⟩ := getS2 X0 hx hZ hown (host := "") (Or.inl (hw _ (List.mem_of_getElem? (i := 22) rfl))) Via.refl e0 ((st_w9_EQUAL hw hA hS hF).ext O0.2) (g := (mkF m 1 #[.val (.ref (w12_LESS_EQUAL Z))] [(.ref (w12_LESS_EQUAL Z))])) rfl (hb hby d5_1)
  refine own_step st1 ?_
  show own_Wp p e below _ T1 (mkF m 4 #[.val (.ref (w12_LESS_EQUAL Z))] [(.ref (w9_EQUAL Z)), (.ref (w12_LESS_EQUAL Z))])
  refine own_step (fun _ k => Jvm.RoadKit.acmp (g := (mkF m 4 #[.val (.ref (w12_LESS_EQUAL Z))] [(.ref (w9_EQUAL Z)), (.ref (w12_LESS_EQUAL Z))])) X1 hx rfl rfl rfl (pc0 := 4) (pc' := 11) (same := false) rfl (hb hby d5_4) rfl (decide_eq_false fun q => (Fld.ne (fl10 hw hA hS hF) (fl1 hw hA hS hF) (by decide)) (Value.ref.inj q)) (by decide) (by decide) k) ?_
  show own_Wp p e below _ T1 (mkF m 11 #[.val (.ref (w12_LESS_EQUAL Z))] [])
  refine own_step (fun _ k => XS.aloadN X1.here hx rfl (hb hby d5_11) rfl rfl k) ?_
  show own_Wp p e below _ T1 (mkF m 12 #[.val (.ref (w12_LESS_EQUAL Z))] [(.ref (w12_LESS_EQUAL Z))])
  obtain ⟨T2, X2, e2, st2⟩ := getS2 X1 hx hZ hown (host := "") (Or.inl (hw _ (List.mem_of_getElem? (i := 24) rfl))) Via.refl e1 ((st_w10_NOT_EQUAL hw hA hS hF).ext O0.2) (g := (mkF m 12 #[.val (.ref (w12_LESS_EQUAL Z))] [(.ref (w12_LESS_EQUAL Z))])) rfl (hb hby d5_12)
  refine own_step st2 ?_
  show own_Wp p e below _ T2 (mkF m 15 #[.val (.ref (w12_LESS_EQUAL Z))] [(.ref (w10_NOT_EQUAL Z)), (.ref (w12_LESS_EQUAL Z))])
  refine own_step (fun _ k => Jvm.RoadKit.acmp (g := (mkF m 15 #[.val (.ref (w12_LESS_EQUAL Z))] [(.ref (w10_NOT_EQUAL Z)), (.ref (w12_LESS_EQUAL Z))])) X2 hx rfl rfl rfl (pc0 := 15) (pc' := 22) (same := false) rfl (hb hby d5_15) rfl (decide_eq_false fun q => (Fld.ne (fl10 hw hA hS hF) (fl4 hw hA hS hF) (by decide)) (Value.ref.inj q)) (by decide) (by decide) k) ?_
  show own_Wp p e below _ T2 (mkF m 22 #[.val (.ref (w12_LESS_EQUAL Z))] [])
  refine own_step (fun _ k => XS.aloadN X2.here hx rfl (hb hby d5_22) rfl rfl k) ?_
  show own_Wp p e below _ T2 (mkF m 23 #[.val (.ref (w12_LESS_EQUAL Z))] [(.ref (w12_LESS_EQUAL Z))])
  obtain ⟨T3, X3, e3, st3⟩ := getS2 X2 hx hZ hown (host := "") (Or.inl (hw _ (List.mem_of_getElem? (i := 26) rfl))) Via.refl e2 ((st_w11_MATCH hw hA hS hF).ext O0.2) (g := (mkF m 23 #[.val (.ref (w12_LESS_EQUAL Z))] [(.ref (w12_LESS_EQUAL Z))])) rfl (hb hby d5_23)
  refine own_step st3 ?_
  show own_Wp p e below _ T3 (mkF m 26 #[.val (.ref (w12_LESS_EQUAL Z))] [(.ref (w11_MATCH Z)), (.ref (w12_LESS_EQUAL Z))])
  refine own_step (fun _ k => Jvm.RoadKit.acmp (g := (mkF m 26 #[.val (.ref (w12_LESS_EQUAL Z))] [(.ref (w11_MATCH Z)), (.ref (w12_LESS_EQUAL Z))])) X3 hx rfl rfl rfl (pc0 := 26) (pc' := 33) (same := false) rfl (hb hby d5_26) rfl (decide_eq_false fun q => (Fld.ne (fl10 hw hA hS hF) (fl6 hw hA hS hF) (by decide)) (Value.ref.inj q)) (by decide) (by decide) k) ?_
  show own_Wp p e below _ T3 (mkF m 33 #[.val (.ref (w12_LESS_EQUAL Z))] [])
  refine own_step (fun _ k => XS.aloadN X3.here hx rfl (hb hby d5_33) rfl rfl k) ?_
  show own_Wp p e below _ T3 (mkF m 34 #[.val (.ref (w12_LESS_EQUAL Z))] [(.ref (w12_LESS_EQUAL Z))])
  obtain ⟨T4, X4, e4, st4⟩ := getS2 X3 hx hZ hown (host := "") (Or.inl (hw _ (List.mem_of_getElem? (i := 30) rfl))) Via.refl e3 ((st_w13_LESS hw hA hS hF).ext O0.2) (g := (mkF m 34 #[.val (.ref (w12_LESS_EQUAL Z))] [(.ref (w12_LESS_EQUAL Z))])) rfl (hb hby d5_34)
  refine own_step st4 ?_
  show own_Wp p e below _ T4 (mkF m 37 #[.val (.ref (w12_LESS_EQUAL Z))] [(.ref (w13_LESS Z)), (.ref (w12_LESS_EQUAL Z))])
  refine own_step (fun _ k => Jvm.RoadKit.acmp (g := (mkF m 37 #[.val (.ref (w12_LESS_EQUAL Z))] [(.ref (w13_LESS Z)), (.ref (w12_LESS_EQUAL Z))])) X4 hx rfl rfl rfl (pc0 := 37) (pc' := 44) (same := false) rfl (hb hby d5_37) rfl (decide_eq_false fun q => (Fld.ne (fl10 hw hA hS hF) (fl8 hw hA hS hF) (by decide)) (Value.ref.inj q)) (by decide) (by decide) k) ?_
  show own_Wp p e below _ T4 (mkF m 44 #[.val (.ref (w12_LESS_EQUAL Z))] [])
  refine own_step (fun _ k => XS.aloadN X4.here hx rfl (hb hby d5_44) rfl rfl k) ?_
  show own_Wp p e below _ T4 (mkF m 45 #[.val (.ref (w12_LESS_EQUAL Z))] [(.ref (w12_LESS_EQUAL Z))])
  obtain ⟨T5, X5, e5, st5⟩ := getS2 X4 hx hZ hown (host := "") (Or.inl (hw _ (List.mem_of_getElem? (i := 28) rfl))) Via.refl e4 ((st_w12_LESS_EQUAL hw hA hS hF).ext O0.2) (g := (mkF m 45 #[.val (.ref (w12_LESS_EQUAL Z))] [(.ref (w12_LESS_EQUAL Z))])) rfl (hb hby d5_45)
  refine own_step st5 ?_
  show own_Wp p e below _ T5 (mkF m 48 #[.val (.ref (w12_LESS_EQUAL Z))] [(.ref (w12_LESS_EQUAL Z)), (.ref (w12_LESS_EQUAL Z))])
  refine own_step (fun _ k => Jvm.RoadKit.acmp (g := (mkF m 48 #[.val (.ref (w12_LESS_EQUAL Z))] [(.ref (w12_LESS_EQUAL Z)), (.ref (w12_LESS_EQUAL Z))])) X5 hx rfl rfl rfl (pc0 := 48) (pc' := 51) (same := true) rfl (hb hby d5_48) rfl (decide_eq_true rfl) (by decide) (by decide) k) ?_
  show own_Wp p e below _ T5 (mkF m 51 #[.val (.ref (w12_LESS_EQUAL Z))] [])
  obtain ⟨T6, X6, e6, st6⟩ := getS2 X5 hx hZ hown (host := "") (Or.inl (hw _ (List.mem_of_getElem? (i := 110) rfl))) Via.refl e5 ((st_w24_LESS_EQUAL hw hA hS hF).ext O0.2) (g := (mkF m 51 #[.val (.ref (w12_LESS_EQUAL Z))] [])) rfl (hb hby d5_51)
  refine own_step st6 ?_
  show own_Wp p e below _ T6 (mkF m 54 #[.val (.ref (w12_LESS_EQUAL Z))] [(.ref (w24_LESS_EQUAL Z))])
  exact own_retA X6 hx hret rfl rfl hlk (hb hby d5_54) (by decide) (by decide) (by rw [e6]; exact ⟨rfl, (Fr.nil n0), rfl⟩)

set_option maxRecDepth 65536 in
set_option maxHeartbeats 40000000 in
theorem rm1_20 (l : Launch) (Z : State) (a0 : Array Value) (hw : ∀ d ∈ tables_1, d.before a0 Z = true) (hA : ∀ d ∈ own_flat narrow_1, d.value a0 Z none Z [] = some true) (hS : ∀ d ∈ jdkStatics_1, d.before a0 Z = true) (hF : Fit Z) (ws : List Jvm.Cond) (h0 : Heap) (n0 : Nat) (O0 : Old Z n0 h0) :
    own_Met l Z (⟨"com/example/proviso/proviso/expression/ComparisonOperator", "spelledBy", "(Lcom/example/proviso/proviso/expression/Lexer$Kind;)Ljava/util/Optional;"⟩ : MethodName) (Jvm.Cond.code (⟨"com/example/proviso/proviso/expression/ComparisonOperator", "spelledBy", "(Lcom/example/proviso/proviso/expression/Lexer$Kind;)Ljava/util/Optional;"⟩ : MethodName) prog_2_method_4_code 5 (some (.object "java/util/Optional"))) ws ({ frames := 3, cells := 2, slots := 8, locals := 38 } : Room) #[(.ref (w13_LESS Z))] h0 (fun v h L => (∃ (b14 : Addr), v = some (.ref b14) ∧ Fr n0 L ∧ Keep h0 h [] ∧ h0.size ≤ b14 ∧ Exa Z h b14 "java/util/Optional" ∧ Fld Z h b14 "java/util/Optional" "value" "Ljava/lang/Object;" (.ref (w23_LESS Z)))) := by
  refine own_met (own := "com/example/proviso/proviso/expression/ComparisonOperator") (plainFor_of_name pn0) rfl ?_
  intro p e s m below meth c s₁ hx hby hml hown hnm hret hlk hZ e0 X0
  refine own_cast (g' := (mkF m 0 #[.val (.ref (w13_LESS Z)), .unset, .unset, .unset, .unset] [])) (by first | (simp [entryFrame, mkF, argsToLocals, Value.category]; done) | rfl) ?_
  obtain ⟨_, T1, L1, X1, hQ1, st1⟩ := own_callS X0 hx hZ hown (hw _ (List.mem_of_getElem? (i := 47) rfl)) (hw _ (List.mem_of_getElem? (i := 48) rfl)) (hw _ (List.mem_of_getElem? (i := 45) rfl)) (hw _ (List.mem_of_getElem? (i := 49) rfl)) (by decide) (rm2_0 l Z a0 hw hA hS hF [] h0 n0 O0) (W := 0) (by decide) (by decide) [] rfl (lenOf pd1 rfl) (Ls := #[.val (.ref (w13_LESS Z)), .unset, .unset, .unset, .unset]) (by rw [hml]; rfl) (rest := []) (Nat.le_of_eq rfl) (hb hby d1_0) e0 (by decide) (by decide)
  refine st1 _ ?_
  obtain ⟨b2, k3, rfl, N1q, K1q, y1_0, F1_0, F1_1⟩ := hQ1
  have N1 := Fr.app (Fr.nil n0) N1q
  have g1_0 : n0 ≤ b2 := Nat.le_trans (O0.1 ▸ O0.2.1) y1_0
  have u1_0 : h0.size ≤ b2 := Nat.le_trans (Nat.le_refl _) y1_0
  have O1 := O0.keep K1q all0
  have K1 : Keep h0 T1.heap [] := Keep.trans (Keep.refl h0 []) K1q all0
  show own_Wp p e below _ T1 (mkF m 3 #[.val (.ref (w13_LESS Z)), .unset, .unset, .unset, .unset] [(.ref b2)])
  refine own_step (fun _ k => XS.astoreN X1.here hx rfl (hb hby d1_3) rfl rfl (l' := #[.val (.ref (w13_LESS Z)), .val (.ref b2), .unset, .unset, .unset]) rfl k) ?_
  show own_Wp p e below _ T1 (mkF m 4 #[.val (.ref (w13_LESS Z)), .val (.ref b2), .unset, .unset, .unset] [])
  refine own_step (fun _ k => XS.aloadN X1.here hx rfl (hb hby d1_4) rfl rfl k) ?_
  show own_Wp p e below _ T1 (mkF m 5 #[.val (.ref (w13_LESS Z)), .val (.ref b2), .unset, .unset, .unset] [(.ref b2)])
  obtain ⟨c4, r4, q4, t4, u4, y4h, y4g⟩ := id F1_0
  refine own_step (fun _ k => X1.arraylength hx r4.1 (State.isArrayOf_alike hZ.alike r4.2.1) (g := (mkF m 5 #[.val (.ref (w13_LESS Z)), .val (.ref b2), .unset, .unset, .unset] [(.ref b2)])) rfl rfl (hb hby d1_5) _ k) ?_
  rw [len_of t4 u4]
  show own_Wp p e below _ T1 (mkF m 6 #[.val (.ref (w13_LESS Z)), .val (.ref b2), .unset, .unset, .unset] [(.int (7 : Int32))])
  refine own_step (fun _ k => XS.istoreN X1.here hx rfl (hb hby d1_6) rfl (l' := #[.val (.ref (w13_LESS Z)), .val (.ref b2), .val (.int (7 : Int32)), .unset, .unset]) rfl k) ?_
  show own_Wp p e below _ T1 (mkF m 7 #[.val (.ref (w13_LESS Z)), .val (.ref b2), .val (.int (7 : Int32)), .unset, .unset] [])
  refine own_step (fun _ k => XS.iconst X1.here hx rfl (hb hby d1_7) k) ?_
  show own_Wp p e below _ T1 (mkF m 8 #[.val (.ref (w13_LESS Z)), .val (.ref b2), .val (.int (7 : Int32)), .unset, .unset] [(.int (0 : Int32))])
  refine own_step (fun _ k => XS.istoreN X1.here hx rfl (hb hby d1_8) rfl (l' := #[.val (.ref (w13_LESS Z)), .val (.ref b2), .val (.int (7 : Int32)), .val (.int (0 : Int32)), .unset]) rfl k) ?_
  show own_Wp p e below _ T1 (mkF m 9 #[.val (.ref (w13_LESS Z)), .val (.ref b2), .val (.int (7 : Int32)), .val (.int (0 : Int32)), .unset] [])
  refine own_step (fun _ k => XS.iloadN X1.here hx rfl (hb hby d1_9) rfl k) ?_
  show own_Wp p e below _ T1 (mkF m 10 #[.val (.ref (w13_LESS Z)), .val (.ref b2), .val (.int (7 : Int32)), .val (.int (0 : Int32)), .unset] [(.int (0 : Int32))])
  refine own_step (fun _ k => XS.iloadN X1.here hx rfl (hb hby d1_10) rfl k) ?_
  show own_Wp p e below _ T1 (mkF m 11 #[.val (.ref (w13_LESS Z)), .val (.ref b2), .val (.int (7 : Int32)), .val (.int (0 : Int32)), .unset] [(.int (7 : Int32)), (.int (0 : Int32))])
  refine own_step (fun _ k => XS.icmpNo X1.here hx rfl (hb hby d1_11) rfl (by decide) k) ?_
  show own_Wp p e below _ T1 (mkF m 14 #[.val (.ref (w13_LESS Z)), .val (.ref b2), .val (.int (7 : Int32)), .val (.int (0 : Int32)), .unset] [])
  refine own_step (fun _ k => XS.aloadN X1.here hx rfl (hb hby d1_14) rfl rfl k) ?_
  show own_Wp p e below _ T1 (mkF m 15 #[.val (.ref (w13_LESS Z)), .val (.ref b2), .val (.int (7 : Int32)), .val (.int (0 : Int32)), .unset] [(.ref b2)])
  refine own_step (fun _ k => XS.iloadN X1.here hx rfl (hb hby d1_15) rfl k) ?_
  show own_Wp p e below _ T1 (mkF m 16 #[.val (.ref (w13_LESS Z)), .val (.ref b2), .val (.int (7 : Int32)), .val (.int (0 : Int32)), .unset] [(.int (0 : Int32)), (.ref b2)])
  obtain ⟨c5, r5, q5, t5, u5, y5h, y5g⟩ := id F1_0
  have i5 : ¬ ((0 : Int32) < 0 ∨ c5.slots.size ≤ ((0 : Int32)).toNatClampNeg) := inb_of t5 ⟨by decide, by decide⟩
  refine own_step (fun _ k => X1.aaload hx (j := (0 : Int32)) (v := (.ref (w20_EQUAL Z))) r5.1 (State.isArrayOf_alike hZ.alike r5.2.1) rfl r5.2.2 i5 (own_get t5 y5h i5 0 rfl) (g := (mkF m 16 #[.val (.ref (w13_LESS Z)), .val (.ref b2), .val (.int (7 : Int32)), .val (.int (0 : Int32)), .unset] [(.int (0 : Int32)), (.ref b2)])) rfl rfl (hb hby d1_16) _ k) ?_
  show own_Wp p e below _ T1 (mkF m 17 #[.val (.ref (w13_LESS Z)), .val (.ref b2), .val (.int (7 : Int32)), .val (.int (0 : Int32)), .unset] [(.ref (w20_EQUAL Z))])
  refine own_step (fun _ k => XS.astore X1.here hx rfl (hb hby d1_17) rfl rfl (l' := #[.val (.ref (w13_LESS Z)), .val (.ref b2), .val (.int (7 : Int32)), .val (.int (0 : Int32)), .val (.ref (w20_EQUAL Z))]) rfl k) ?_
  show own_Wp p e below _ T1 (mkF m 19 #[.val (.ref (w13_LESS Z)), .val (.ref b2), .val (.int (7 : Int32)), .val (.int (0 : Int32)), .val (.ref (w20_EQUAL Z))] [])
  refine own_step (fun _ k => XS.aload X1.here hx rfl (hb hby d1_19) rfl rfl k) ?_
  show own_Wp p e below _ T1 (mkF m 21 #[.val (.ref (w13_LESS Z)), .val (.ref b2), .val (.int (7 : Int32)), .val (.int (0 : Int32)), .val (.ref (w20_EQUAL Z))] [(.ref (w20_EQUAL Z))])
  obtain ⟨T6, X6, e6, st6⟩ := getF X1 hx hZ hown (host := "") (Or.inl (hw _ (List.mem_of_getElem? (i := 69) rfl))) Via.refl rfl ((fl0 hw hA hS hF).ext O1.2) (g := (mkF m 21 #[.val (.ref (w13_LESS Z)), .val (.ref b2), .val (.int (7 : Int32)), .val (.int (0 : Int32)), .val (.ref (w20_EQUAL Z))] [(.ref (w20_EQUAL Z))])) rfl rfl (hb hby d1_21)
  refine own_step st6 ?_
  show own_Wp p e below _ T6 (mkF m 24 #[.val (.ref (w13_LESS Z)), .val (.ref b2), .val (.int (7 : Int32)), .val (.int (0 : Int32)), .val (.ref (w20_EQUAL Z))] [(.ref (w9_EQUAL Z))])
  refine own_step (fun _ k => XS.aloadN X6.here hx rfl (hb hby d1_24) rfl rfl k) ?_
  show own_Wp p e below _ T6 (mkF m 25 #[.val (.ref (w13_LESS Z)), .val (.ref b2), .val (.int (7 : Int32)), .val (.int (0 : Int32)), .val (.ref (w20_EQUAL Z))] [(.ref (w13_LESS Z)), (.ref (w9_EQUAL Z))])
  refine own_step (fun _ k => Jvm.RoadKit.acmp (g := (mkF m 25 #[.val (.ref (w13_LESS Z)), .val (.ref b2), .val (.int (7 : Int32)), .val (.int (0 : Int32)), .val (.ref (w20_EQUAL Z))] [(.ref (w13_LESS Z)), (.ref (w9_EQUAL Z))])) X6 hx rfl rfl rfl (pc0 := 25) (pc' := 34) (same := false) rfl (hb hby d1_25) rfl (decide_eq_false fun q => (Fld.ne (fl1 hw hA hS hF) (fl8 hw hA hS hF) (by decide)) (Value.ref.inj q)) (by decide) (by decide) k) ?_
  show own_Wp p e below _ T6 (mkF m 34 #[.val (.ref (w13_LESS Z)), .val (.ref b2), .val (.int (7 : Int32)), .val (.int (0 : Int32)), .val (.ref (w20_EQUAL Z))] [])
  refine own_step (fun _ k => XS.iinc X6.here hx rfl (hb hby d1_34) rfl (l' := #[.val (.ref (w13_LESS Z)), .val (.ref b2), .val (.int (7 : Int32)), .val (.int ((0 : Int32) + (1 : Int32))), .val (.ref (w20_EQUAL Z))]) rfl k) ?_
  show own_Wp p e below _ T6 (mkF m 37 #[.val (.ref (w13_LESS Z)), .val (.ref b2), .val (.int (7 : Int32)), .val (.int ((0 : Int32) + (1 : Int32))), .val (.ref (w20_EQUAL Z))] [])
  rw [(by decide : ((0 : Int32) + (1 : Int32)) = (1 : Int32))]
  show own_Wp p e below _ T6 (mkF m 37 #[.val (.ref (w13_LESS Z)), .val (.ref b2), .val (.int (7 : Int32)), .val (.int (1 : Int32)), .val (.ref (w20_EQUAL Z))] [])
  refine own_step (fun _ k => XS.goto X6.here hx rfl (pc0 := 37) (pc' := 9) rfl (hb hby d1_37) (by decide) (by decide) k) ?_
  show own_Wp p e below _ T6 (mkF m 9 #[.val (.ref (w13_LESS Z)), .val (.ref b2), .val (.int (7 : Int32)), .val (.int (1 : Int32)), .val (.ref (w20_EQUAL Z))] [])
  refine own_step (fun _ k => XS.iloadN X6.here hx rfl (hb hby d1_9) rfl k) ?_
  show own_Wp p e below _ T6 (mkF m 10 #[.val (.ref (w13_LESS Z)), .val (.ref b2), .val (.int (7 : Int32)), .val (.int (1 : Int32)), .val (.ref (w20_EQUAL Z))] [(.int (1 : Int32))])
  refine own_step (fun _ k => XS.iloadN X6.here hx rfl (hb hby d1_10) rfl k) ?_
  show own_Wp p e below _ T6 (mkF m 11 #[.val (.ref (w13_LESS Z)), .val (.ref b2), .val (.int (7 : Int32)), .val (.int (1 : Int32)), .val (.ref (w20_EQUAL Z))] [(.int (7 : Int32)), (.int (1 : Int32))])
  refine own_step (fun _ k => XS.icmpNo X6.here hx rfl (hb hby d1_11) rfl (by decide) k) ?_
  show own_Wp p e below _ T6 (mkF m 14 #[.val (.ref (w13_LESS Z)), .val (.ref b2), .val (.int (7 : Int32)), .val (.int (1 : Int32)), .val (.ref (w20_EQUAL Z))] [])
  refine own_step (fun _ k => XS.aloadN X6.here hx rfl (hb hby d1_14) rfl rfl k) ?_
  show own_Wp p e below _ T6 (mkF m 15 #[.val (.ref (w13_LESS Z)), .val (.ref b2), .val (.int (7 : Int32)), .val (.int (1 : Int32)), .val (.ref (w20_EQUAL Z))] [(.ref b2)])
  refine own_step (fun _ k => XS.iloadN X6.here hx rfl (hb hby d1_15) rfl k) ?_
  show own_Wp p e below _ T6 (mkF m 16 #[.val (.ref (w13_LESS Z)), .val (.ref b2), .val (.int (7 : Int32)), .val (.int (1 : Int32)), .val (.ref (w20_EQUAL Z))] [(.int (1 : Int32)), (.ref b2)])
  obtain ⟨c7, r7, q7, t7, u7, y7h, y7g⟩ := id F1_0
  have i7 : ¬ ((1 : Int32) < 0 ∨ c7.slots.size ≤ ((1 : Int32)).toNatClampNeg) := inb_of t7 ⟨by decide, by decide⟩
  refine own_step (fun _ k => X6.aaload hx (j := (1 : Int32)) (v := (.ref (w21_NOT_EQUAL Z))) (by rw [e6]; exact r7.1) (State.isArrayOf_alike hZ.alike r7.2.1) rfl r7.2.2 i7 (own_get t7 y7h i7 1 rfl) (g := (mkF m 16 #[.val (.ref (w13_LESS Z)), .val (.ref b2), .val (.int (7 : Int32)), .val (.int (1 : Int32)), .val (.ref (w20_EQUAL Z))] [(.int (1 : Int32)), (.ref b2)])) rfl rfl (hb hby d1_16) _ k) ?_
  show own_Wp p e below _ T6 (mkF m 17 #[.val (.ref (w13_LESS Z)), .val (.ref b2), .val (.int (7 : Int32)), .val (.int (1 : Int32)), .val (.ref (w20_EQUAL Z))] [(.ref (w21_NOT_EQUAL Z))])
  refine own_step (fun _ k => XS.astore X6.here hx rfl (hb hby d1_17) rfl rfl (l' := #[.val (.ref (w13_LESS Z)), .val (.ref b2), .val (.int (7 : Int32)), .val (.int (1 : Int32)), .val (.ref (w21_NOT_EQUAL Z))]) rfl k) ?_
  show own_Wp p e below _ T6 (mkF m 19 #[.val (.ref (w13_LESS Z)), .val (.ref b2), .val (.int (7 : Int32)), .val (.int (1 : Int32)), .val (.ref (w21_NOT_EQUAL Z))] [])
  refine own_step (fun _ k => XS.aload X6.here hx rfl (hb hby d1_19) rfl rfl k) ?_
  show own_Wp p e below _ T6 (mkF m 21 #[.val (.ref (w13_LESS Z)), .val (.ref b2), .val (.int (7 : Int32)), .val (.int (1 : Int32)), .val (.ref (w21_NOT_EQUAL Z))] [(.ref (w21_NOT_EQUAL Z))])
  obtain ⟨T8, X8, e8, st8⟩ := getF X6 hx hZ hown (host := "") (Or.inl (hw _ (List.mem_of_getElem? (i := 69) rfl))) Via.refl e6 ((fl3 hw hA hS hF).ext O1.2) (g := (mkF m 21 #[.val (.ref (w13_LESS Z)), .val (.ref b2), .val (.int (7 : Int32)), .val (.int (1 : Int32)), .val (.ref (w21_NOT_EQUAL Z))] [(.ref (w21_NOT_EQUAL Z))])) rfl rfl (hb hby d1_21)
  refine own_step st8 ?_
  show own_Wp p e below _ T8 (mkF m 24 #[.val (.ref (w13_LESS Z)), .val (.ref b2), .val (.int (7 : Int32)), .val (.int (1 : Int32)), .val (.ref (w21_NOT_EQUAL Z))] [(.ref (w10_NOT_EQUAL Z))])
  refine own_step (fun _ k => XS.aloadN X8.here hx rfl (hb hby d1_24) rfl rfl k) ?_
  show own_Wp p e below _ T8 (mkF m 25 #[.val (.ref (w13_LESS Z)), .val (.ref b2), .val (.int (7 : Int32)), .val (.int (1 : Int32)), .val (.ref (w21_NOT_EQUAL Z))] [(.ref (w13_LESS Z)), (.ref (w10_NOT_EQUAL Z))])
  refine own_step (fun _ k => Jvm.RoadKit.acmp (g := (mkF m 25 #[.val (.ref (w13_LESS Z)), .val (.ref b2), .val (.int (7 : Int32)), .val (.int (1 : Int32)), .val (.ref (w21_NOT_EQUAL Z))] [(.ref (w13_LESS Z)), (.ref (w10_NOT_EQUAL Z))])) X8 hx rfl rfl rfl (pc0 := 25) (pc' := 34) (same := false) rfl (hb hby d1_25) rfl (decide_eq_false fun q => (Fld.ne (fl4 hw hA hS hF) (fl8 hw hA hS hF) (by decide)) (Value.ref.inj q)) (by decide) (by decide) k) ?_
  show own_Wp p e below _ T8 (mkF m 34 #[.val (.ref (w13_LESS Z)), .val (.ref b2), .val (.int (7 : Int32)), .val (.int (1 : Int32)), .val (.ref (w21_NOT_EQUAL Z))] [])
  refine own_step (fun _ k => XS.iinc X8.here hx rfl (hb hby d1_34) rfl (l' := #[.val (.ref (w13_LESS Z)), .val (.ref b2), .val (.int (7 : Int32)), .val (.int ((1 : Int32) + (1 : Int32))), .val (.ref (w21_NOT_EQUAL Z))]) rfl k) ?_
  show own_Wp p e below _ T8 (mkF m 37 #[.val (.ref (w13_LESS Z)), .val (.ref b2), .val (.int (7 : Int32)), .val (.int ((1 : Int32) + (1 : Int32))), .val (.ref (w21_NOT_EQUAL Z))] [])
  rw [(by decide : ((1 : Int32) + (1 : Int32)) = (2 : Int32))]
  show own_Wp p e below _ T8 (mkF m 37 #[.val (.ref (w13_LESS Z)), .val (.ref b2), .val (.int (7 : Int32)), .val (.int (2 : Int32)), .val (.ref (w21_NOT_EQUAL Z))] [])
  refine own_step (fun _ k => XS.goto X8.here hx rfl (pc0 := 37) (pc' := 9) rfl (hb hby d1_37) (by decide) (by decide) k) ?_
  show own_Wp p e below _ T8 (mkF m 9 #[.val (.ref (w13_LESS Z)), .val (.ref b2), .val (.int (7 : Int32)), .val (.int (2 : Int32)), .val (.ref (w21_NOT_EQUAL Z))] [])
  refine own_step (fun _ k => XS.iloadN X8.here hx rfl (hb hby d1_9) rfl k) ?_
  show own_Wp p e below _ T8 (mkF m 10 #[.val (.ref (w13_LESS Z)), .val (.ref b2), .val (.int (7 : Int32)), .val (.int (2 : Int32)), .val (.ref (w21_NOT_EQUAL Z))] [(.int (2 : Int32))])
  refine own_step (fun _ k => XS.iloadN X8.here hx rfl (hb hby d1_10) rfl k) ?_
  show own_Wp p e below _ T8 (mkF m 11 #[.val (.ref (w13_LESS Z)), .val (.ref b2), .val (.int (7 : Int32)), .val (.int (2 : Int32)), .val (.ref (w21_NOT_EQUAL Z))] [(.int (7 : Int32)), (.int (2 : Int32))])
  refine own_step (fun _ k => XS.icmpNo X8.here hx rfl (hb hby d1_11) rfl (by decide) k) ?_
  show own_Wp p e below _ T8 (mkF m 14 #[.val (.ref (w13_LESS Z)), .val (.ref b2), .val (.int (7 : Int32)), .val (.int (2 : Int32)), .val (.ref (w21_NOT_EQUAL Z))] [])
  refine own_step (fun _ k => XS.aloadN X8.here hx rfl (hb hby d1_14) rfl rfl k) ?_
  show own_Wp p e below _ T8 (mkF m 15 #[.val (.ref (w13_LESS Z)), .val (.ref b2), .val (.int (7 : Int32)), .val (.int (2 : Int32)), .val (.ref (w21_NOT_EQUAL Z))] [(.ref b2)])
  refine own_step (fun _ k => XS.iloadN X8.here hx rfl (hb hby d1_15) rfl k) ?_
  show own_Wp p e below _ T8 (mkF m 16 #[.val (.ref (w13_LESS Z)), .val (.ref b2), .val (.int (7 : Int32)), .val (.int (2 : Int32)), .val (.ref (w21_NOT_EQUAL Z))] [(.int (2 : Int32)), (.ref b2)])
  obtain ⟨c9, r9, q9, t9, u9, y9h, y9g⟩ := id F1_0
  have i9 : ¬ ((2 : Int32) < 0 ∨ c9.slots.size ≤ ((2 : Int32)).toNatClampNeg) := inb_of t9 ⟨by decide, by decide⟩
  refine own_step (fun _ k => X8.aaload hx (j := (2 : Int32)) (v := (.ref (w22_MATCH Z))) (by rw [e8]; exact r9.1) (State.isArrayOf_alike hZ.alike r9.2.1) rfl r9.2.2 i9 (own_get t9 y9h i9 2 rfl) (g := (mkF m 16 #[.val (.ref (w13_LESS Z)), .val (.ref b2), .val (.int (7 : Int32)), .val (.int (2 : Int32)), .val (.ref (w21_NOT_EQUAL Z))] [(.int (2 : Int32)), (.ref b2)])) rfl rfl (hb hby d1_16) _ k) ?_
  show own_Wp p e below _ T8 (mkF m 17 #[.val (.ref (w13_LESS Z)), .val (.ref b2), .val (.int (7 : Int32)), .val (.int (2 : Int32)), .val (.ref (w21_NOT_EQUAL Z))] [(.ref (w22_MATCH Z))])
  refine own_step (fun _ k => XS.astore X8.here hx rfl (hb hby d1_17) rfl rfl (l' := #[.val (.ref (w13_LESS Z)), .val (.ref b2), .val (.int (7 : Int32)), .val (.int (2 : Int32)), .val (.ref (w22_MATCH Z))]) rfl k) ?_
  show own_Wp p e below _ T8 (mkF m 19 #[.val (.ref (w13_LESS Z)), .val (.ref b2), .val (.int (7 : Int32)), .val (.int (2 : Int32)), .val (.ref (w22_MATCH Z))] [])
  refine own_step (fun _ k => XS.aload X8.here hx rfl (hb hby d1_19) rfl rfl k) ?_
  show own_Wp p e below _ T8 (mkF m 21 #[.val (.ref (w13_LESS Z)), .val (.ref b2), .val (.int (7 : Int32)), .val (.int (2 : Int32)), .val (.ref (w22_MATCH Z))] [(.ref (w22_MATCH Z))])
  obtain ⟨T10, X10, e10, st10⟩ := getF X8 hx hZ hown (host := "") (Or.inl (hw _ (List.mem_of_getElem? (i := 69) rfl))) Via.refl e8 ((fl5 hw hA hS hF).ext O1.2) (g := (mkF m 21 #[.val (.ref (w13_LESS Z)), .val (.ref b2), .val (.int (7 : Int32)), .val (.int (2 : Int32)), .val (.ref (w22_MATCH Z))] [(.ref (w22_MATCH Z))])) rfl rfl (hb hby d1_21)
  refine own_step st10 ?_
  show own_Wp p e below _ T10 (mkF m 24 #[.val (.ref (w13_LESS Z)), .val (.ref b2), .val (.int (7 : Int32)), .val (.int (2 : Int32)), .val (.ref (w22_MATCH Z))] [(.ref (w11_MATCH Z))])
  refine own_step (fun _ k => XS.aloadN X10.here hx rfl (hb hby d1_24) rfl rfl k) ?_
  show own_Wp p e below _ T10 (mkF m 25 #[.val (.ref (w13_LESS Z)), .val (.ref b2), .val (.int (7 : Int32)), .val (.int (2 : Int32)), .val (.ref (w22_MATCH Z))] [(.ref (w13_LESS Z)), (.ref (w11_MATCH Z))])
  refine own_step (fun _ k => Jvm.RoadKit.acmp (g := (mkF m 25 #[.val (.ref (w13_LESS Z)), .val (.ref b2), .val (.int (7 : Int32)), .val (.int (2 : Int32)), .val (.ref (w22_MATCH Z))] [(.ref (w13_LESS Z)), (.ref (w11_MATCH Z))])) X10 hx rfl rfl rfl (pc0 := 25) (pc' := 34) (same := false) rfl (hb hby d1_25) rfl (decide_eq_false fun q => (Fld.ne (fl6 hw hA hS hF) (fl8 hw hA hS hF) (by decide)) (Value.ref.inj q)) (by decide) (by decide) k) ?_
  show own_Wp p e below _ T10 (mkF m 34 #[.val (.ref (w13_LESS Z)), .val (.ref b2), .val (.int (7 : Int32)), .val (.int (2 : Int32)), .val (.ref (w22_MATCH Z))] [])
  refine own_step (fun _ k => XS.iinc X10.here hx rfl (hb hby d1_34) rfl (l' := #[.val (.ref (w13_LESS Z)), .val (.ref b2), .val (.int (7 : Int32)), .val (.int ((2 : Int32) + (1 : Int32))), .val (.ref (w22_MATCH Z))]) rfl k) ?_
  show own_Wp p e below _ T10 (mkF m 37 #[.val (.ref (w13_LESS Z)), .val (.ref b2), .val (.int (7 : Int32)), .val (.int ((2 : Int32) + (1 : Int32))), .val (.ref (w22_MATCH Z))] [])
  rw [(by decide : ((2 : Int32) + (1 : Int32)) = (3 : Int32))]
  show own_Wp p e below _ T10 (mkF m 37 #[.val (.ref (w13_LESS Z)), .val (.ref b2), .val (.int (7 : Int32)), .val (.int (3 : Int32)), .val (.ref (w22_MATCH Z))] [])
  refine own_step (fun _ k => XS.goto X10.here hx rfl (pc0 := 37) (pc' := 9) rfl (hb hby d1_37) (by decide) (by decide) k) ?_
  show own_Wp p e below _ T10 (mkF m 9 #[.val (.ref (w13_LESS Z)), .val (.ref b2), .val (.int (7 : Int32)), .val (.int (3 : Int32)), .val (.ref (w22_MATCH Z))] [])
  refine own_step (fun _ k => XS.iloadN X10.here hx rfl (hb hby d1_9) rfl k) ?_
  show own_Wp p e below _ T10 (mkF m 10 #[.val (.ref (w13_LESS Z)), .val (.ref b2), .val (.int (7 : Int32)), .val (.int (3 : Int32)), .val (.ref (w22_MATCH Z))] [(.int (3 : Int32))])
  refine own_step (fun _ k => XS.iloadN X10.here hx rfl (hb hby d1_10) rfl k) ?_
  show own_Wp p e below _ T10 (mkF m 11 #[.val (.ref (w13_LESS Z)), .val (.ref b2), .val (.int (7 : Int32)), .val (.int (3 : Int32)), .val (.ref (w22_MATCH Z))] [(.int (7 : Int32)), (.int (3 : Int32))])
  refine own_step (fun _ k => XS.icmpNo X10.here hx rfl (hb hby d1_11) rfl (by decide) k) ?_
  show own_Wp p e below _ T10 (mkF m 14 #[.val (.ref (w13_LESS Z)), .val (.ref b2), .val (.int (7 : Int32)), .val (.int (3 : Int32)), .val (.ref (w22_MATCH Z))] [])
  refine own_step (fun _ k => XS.aloadN X10.here hx rfl (hb hby d1_14) rfl rfl k) ?_
  show own_Wp p e below _ T10 (mkF m 15 #[.val (.ref (w13_LESS Z)), .val (.ref b2), .val (.int (7 : Int32)), .val (.int (3 : Int32)), .val (.ref (w22_MATCH Z))] [(.ref b2)])
  refine own_step (fun _ k => XS.iloadN X10.here hx rfl (hb hby d1_15) rfl k) ?_
  show own_Wp p e below _ T10 (mkF m 16 #[.val (.ref (w13_LESS Z)), .val (.ref b2), .val (.int (7 : Int32)), .val (.int (3 : Int32)), .val (.ref (w22_MATCH Z))] [(.int (3 : Int32)), (.ref b2)])
  obtain ⟨c11, r11, q11, t11, u11, y11h, y11g⟩ := id F1_0
  have i11 : ¬ ((3 : Int32) < 0 ∨ c11.slots.size ≤ ((3 : Int32)).toNatClampNeg) := inb_of t11 ⟨by decide, by decide⟩
  refine own_step (fun _ k => X10.aaload hx (j := (3 : Int32)) (v := (.ref (w23_LESS Z))) (by rw [e10]; exact r11.1) (State.isArrayOf_alike hZ.alike r11.2.1) rfl r11.2.2 i11 (own_get t11 y11h i11 3 rfl) (g := (mkF m 16 #[.val (.ref (w13_LESS Z)), .val (.ref b2), .val (.int (7 : Int32)), .val (.int (3 : Int32)), .val (.ref (w22_MATCH Z))] [(.int (3 : Int32)), (.ref b2)])) rfl rfl (hb hby d1_16) _ k) ?_
  show own_Wp p e below _ T10 (mkF m 17 #[.val (.ref (w13_LESS Z)), .val (.ref b2), .val (.int (7 : Int32)), .val (.int (3 : Int32)), .val (.ref (w22_MATCH Z))] [(.ref (w23_LESS Z))])
  refine own_step (fun _ k => XS.astore X10.here hx rfl (hb hby d1_17) rfl rfl (l' := #[.val (.ref (w13_LESS Z)), .val (.ref b2), .val (.int (7 : Int32)), .val (.int (3 : Int32)), .val (.ref (w23_LESS Z))]) rfl k) ?_
  show own_Wp p e below _ T10 (mkF m 19 #[.val (.ref (w13_LESS Z)), .val (.ref b2), .val (.int (7 : Int32)), .val (.int (3 : Int32)), .val (.ref (w23_LESS Z))] [])
  refine own_step (fun _ k => XS.aload X10.here hx rfl (hb hby d1_19) rfl rfl k) ?_
  show own_Wp p e below _ T10 (mkF m 21 #[.val (.ref (w13_LESS Z)), .val (.ref b2), .val (.int (7 : Int32)), .val (.int (3 : Int32)), .val (.ref (w23_LESS Z))] [(.ref (w23_LESS Z))])
  obtain ⟨T12, X12, e12, st12⟩ := getF X10 hx hZ hown (host := "") (Or.inl (hw _ (List.mem_of_getElem? (i := 69) rfl))) Via.refl e10 ((fl7 hw hA hS hF).ext O1.2) (g := (mkF m 21 #[.val (.ref (w13_LESS Z)), .val (.ref b2), .val (.int (7 : Int32)), .val (.int (3 : Int32)), .val (.ref (w23_LESS Z))] [(.ref (w23_LESS Z))])) rfl rfl (hb hby d1_21)
  refine own_step st12 ?_
  show own_Wp p e below _ T12 (mkF m 24 #[.val (.ref (w13_LESS Z)), .val (.ref b2), .val (.int (7 : Int32)), .val (.int (3 : Int32)), .val (.ref (w23_LESS Z))] [(.ref (w13_LESS Z))])
  refine own_step (fun _ k => XS.aloadN X12.here hx rfl (hb hby d1_24) rfl rfl k) ?_
  show own_Wp p e below _ T12 (mkF m 25 #[.val (.ref (w13_LESS Z)), .val (.ref b2), .val (.int (7 : Int32)), .val (.int (3 : Int32)), .val (.ref (w23_LESS Z))] [(.ref (w13_LESS Z)), (.ref (w13_LESS Z))])
  refine own_step (fun _ k => Jvm.RoadKit.acmp (g := (mkF m 25 #[.val (.ref (w13_LESS Z)), .val (.ref b2), .val (.int (7 : Int32)), .val (.int (3 : Int32)), .val (.ref (w23_LESS Z))] [(.ref (w13_LESS Z)), (.ref (w13_LESS Z))])) X12 hx rfl rfl rfl (pc0 := 25) (pc' := 28) (same := true) rfl (hb hby d1_25) rfl (decide_eq_true rfl) (by decide) (by decide) k) ?_
  show own_Wp p e below _ T12 (mkF m 28 #[.val (.ref (w13_LESS Z)), .val (.ref b2), .val (.int (7 : Int32)), .val (.int (3 : Int32)), .val (.ref (w23_LESS Z))] [])
  refine own_step (fun _ k => XS.aload X12.here hx rfl (hb hby d1_28) rfl rfl k) ?_
  show own_Wp p e below _ T12 (mkF m 30 #[.val (.ref (w13_LESS Z)), .val (.ref b2), .val (.int (7 : Int32)), .val (.int (3 : Int32)), .val (.ref (w23_LESS Z))] [(.ref (w23_LESS Z))])
  obtain ⟨_, T13, L13, X13, hQ13, st13⟩ := own_callS X12 hx hZ hown (hw _ (List.mem_of_getElem? (i := 87) rfl)) (hw _ (List.mem_of_getElem? (i := 88) rfl)) (hw _ (List.mem_of_getElem? (i := 73) rfl)) (hw _ (List.mem_of_getElem? (i := 89) rfl)) (by decide) (rm6_7 l Z a0 hw hA hS hF [] (w23_LESS Z) T1.heap n0 O1) (W := 0) (by decide) (by decide) [(.ref (w23_LESS Z))] rfl (lenOf pd10 rfl) (Ls := #[.val (.ref (w13_LESS Z)), .val (.ref b2), .val (.int (7 : Int32)), .val (.int (3 : Int32)), .val (.ref (w23_LESS Z))]) (by rw [hml]; rfl) (rest := []) (Nat.le_of_eq rfl) (hb hby d1_30) e12 (by decide) (by decide)
  refine st13 _ ?_
  obtain ⟨b14, rfl, N13q, K13q, y13_0, F13_0, F13_1⟩ := hQ13
  have N13 := Fr.app N1 N13q
  have g13_0 : n0 ≤ b14 := Nat.le_trans (O1.1 ▸ O1.2.1) y13_0
  have ne13_0_0 : b2 ≠ b14 := Nat.ne_of_lt (Nat.lt_of_lt_of_le F1_0.lt y13_0)
  have u13_0 : h0.size ≤ b14 := Nat.le_trans (K1.1) y13_0
  have O13 := O1.keep K13q all0
  have K13 : Keep h0 T13.heap [] := Keep.trans K1 K13q all0
  show own_Wp p e below _ T13 (mkF m 33 #[.val (.ref (w13_LESS Z)), .val (.ref b2), .val (.int (7 : Int32)), .val (.int (3 : Int32)), .val (.ref (w23_LESS Z))] [(.ref b14)])
  exact own_retA X13 hx hret rfl rfl hlk (hb hby d1_33) (by decide) (by decide) (⟨b14, rfl, N13, K13, u13_0, F13_0, F13_1⟩)

set_option maxRecDepth 65536 in
set_option maxHeartbeats 40000000 in
theorem rm4_21 (l : Launch) (Z : State) (a0 : Array Value) (hw : ∀ d ∈ tables_1, d.before a0 Z = true) (hA : ∀ d ∈ own_flat narrow_1, d.value a0 Z none Z [] = some true) (hS : ∀ d ∈ jdkStatics_1, d.before a0 Z = true) (hF : Fit Z) (ws : List Jvm.Cond) (px1 : Addr) (h0 : Heap) (n0 : Nat) (O0 : Old Z n0 h0) (P1 : Fld Z h0 px1 "java/util/Optional" "value" "Ljava/lang/Object;" (.ref (w23_LESS Z))) :
    own_Met l Z (⟨"java/util/Optional", "orElse", "(Ljava/lang/Object;)Ljava/lang/Object;"⟩ : MethodName) (Jvm.Cond.code (⟨"java/util/Optional", "orElse", "(Ljava/lang/Object;)Ljava/lang/Object;"⟩ : MethodName) jdk_32_method_15_code 2 (some (.object "java/lang/Object"))) ws ({ frames := 0, cells := 0, slots := 0, locals := 0 } : Room) #[(.ref px1), .null] h0 (fun v h L => (v = some (.ref (w23_LESS Z)) ∧ Fr n0 L ∧ h = h0)) := by
  refine own_met (own := "java/util/Optional") (plainFor_of_name pn2) rfl ?_
  intro p e s m below meth c s₁ hx hby hml hown hnm hret hlk hZ e0 X0
  refine own_cast (g' := (mkF m 0 #[.val (.ref px1), .val .null] [])) (by first | (simp [entryFrame, mkF, argsToLocals, Value.category]; done) | rfl) ?_
  refine own_step (fun _ k => XS.aloadN X0.here hx rfl (hb hby d4_0) rfl rfl k) ?_
  show own_Wp p e below _ s₁ (mkF m 1 #[.val (.ref px1), .val .null] [(.ref px1)])
  obtain ⟨T1, X1, e1, st1⟩ := getF X0 hx hZ hown (host := "") (Or.inl (hw _ (List.mem_of_getElem? (i := 81) rfl))) Via.refl e0 P1 (g := (mkF m 1 #[.val (.ref px1), .val .null] [(.ref px1)])) rfl rfl (hb hby d4_1)
  refine own_step st1 ?_
  show own_Wp p e below _ T1 (mkF m 4 #[.val (.ref px1), .val .null] [(.ref (w23_LESS Z))])
  refine own_step (fun _ k => XS.ifnullNo X1.here hx rfl (hb hby d4_4) rfl k) ?_
  show own_Wp p e below _ T1 (mkF m 7 #[.val (.ref px1), .val .null] [])
  refine own_step (fun _ k => XS.aloadN X1.here hx rfl (hb hby d4_7) rfl rfl k) ?_
  show own_Wp p e below _ T1 (mkF m 8 #[.val (.ref px1), .val .null] [(.ref px1)])
  obtain ⟨T2, X2, e2, st2⟩ := getF X1 hx hZ hown (host := "") (Or.inl (hw _ (List.mem_of_getElem? (i := 81) rfl))) Via.refl e1 P1 (g := (mkF m 8 #[.val (.ref px1), .val .null] [(.ref px1)])) rfl rfl (hb hby d4_8)
  refine own_step st2 ?_
  show own_Wp p e below _ T2 (mkF m 11 #[.val (.ref px1), .val .null] [(.ref (w23_LESS Z))])
  refine own_step (fun _ k => XS.goto X2.here hx rfl (pc0 := 11) (pc' := 15) rfl (hb hby d4_11) (by decide) (by decide) k) ?_
  show own_Wp p e below _ T2 (mkF m 15 #[.val (.ref px1), .val .null] [(.ref (w23_LESS Z))])
  exact own_retA X2 hx hret rfl rfl hlk (hb hby d4_15) (by decide) (by decide) (by rw [e2]; exact ⟨rfl, (Fr.nil n0), rfl⟩)

set_option maxRecDepth 65536 in
set_option maxHeartbeats 40000000 in
theorem rm5_22 (l : Launch) (Z : State) (a0 : Array Value) (hw : ∀ d ∈ tables_1, d.before a0 Z = true) (hA : ∀ d ∈ own_flat narrow_1, d.value a0 Z none Z [] = some true) (hS : ∀ d ∈ jdkStatics_1, d.before a0 Z = true) (hF : Fit Z) (ws : List Jvm.Cond) (h0 : Heap) (n0 : Nat) (O0 : Old Z n0 h0) :
    own_Met l Z (⟨"com/example/proviso/proviso/expression/ComparisonOperatorSpelledByPinLaw", "expected", "(Lcom/example/proviso/proviso/expression/Lexer$Kind;)Lcom/example/proviso/proviso/expression/ComparisonOperator;"⟩ : MethodName) (Jvm.Cond.code (⟨"com/example/proviso/proviso/expression/ComparisonOperatorSpelledByPinLaw", "expected", "(Lcom/example/proviso/proviso/expression/Lexer$Kind;)Lcom/example/proviso/proviso/expression/ComparisonOperator;"⟩ : MethodName) method_3_code 1 (some (.object "com/example/proviso/proviso/expression/ComparisonOperator"))) ws ({ frames := 0, cells := 0, slots := 0, locals := 0 } : Room) #[(.ref (w13_LESS Z))] h0 (fun v h L => (v = some (.ref (w23_LESS Z)) ∧ Fr n0 L ∧ h = h0)) := by
  refine own_met (own := "com/example/proviso/proviso/expression/ComparisonOperatorSpelledByPinLaw") (plainFor_of_name pn6) rfl ?_
  intro p e s m below meth c s₁ hx hby hml hown hnm hret hlk hZ e0 X0
  refine own_cast (g' := (mkF m 0 #[.val (.ref (w13_LESS Z))] [])) (by first | (simp [entryFrame, mkF, argsToLocals, Value.category]; done) | rfl) ?_
  refine own_step (fun _ k => XS.aloadN X0.here hx rfl (hb hby d5_0) rfl rfl k) ?_
  show own_Wp p e below _ s₁ (mkF m 1 #[.val (.ref (w13_LESS Z))] [(.ref (w13_LESS Z))])
  obtain ⟨T1, X1, e1, st1⟩ := getS2 X0 hx hZ hown (host := "") (Or.inl (hw _ (List.mem_of_getElem? (i := 22) rfl))) Via.refl e0 ((st_w9_EQUAL hw hA hS hF).ext O0.2) (g := (mkF m 1 #[.val (.ref (w13_LESS Z))] [(.ref (w13_LESS Z))])) rfl (hb hby d5_1)
  refine own_step st1 ?_
  show own_Wp p e below _ T1 (mkF m 4 #[.val (.ref (w13_LESS Z))] [(.ref (w9_EQUAL Z)), (.ref (w13_LESS Z))])
  refine own_step (fun _ k => Jvm.RoadKit.acmp (g := (mkF m 4 #[.val (.ref (w13_LESS Z))] [(.ref (w9_EQUAL Z)), (.ref (w13_LESS Z))])) X1 hx rfl rfl rfl (pc0 := 4) (pc' := 11) (same := false) rfl (hb hby d5_4) rfl (decide_eq_false fun q => (Fld.ne (fl8 hw hA hS hF) (fl1 hw hA hS hF) (by decide)) (Value.ref.inj q)) (by decide) (by decide) k) ?_
  show own_Wp p e below _ T1 (mkF m 11 #[.val (.ref (w13_LESS Z))] [])
  refine own_step (fun _ k => XS.aloadN X1.here hx rfl (hb hby d5_11) rfl rfl k) ?_
  show own_Wp p e below _ T1 (mkF m 12 #[.val (.ref (w13_LESS Z))] [(.ref (w13_LESS Z))])
  obtain ⟨T2, X2, e2, st2⟩ := getS2 X1 hx hZ hown (host := "") (Or.inl (hw _ (List.mem_of_getElem? (i := 24) rfl))) Via.refl e1 ((st_w10_NOT_EQUAL hw hA hS hF).ext O0.2) (g := (mkF m 12 #[.val (.ref (w13_LESS Z))] [(.ref (w13_LESS Z))])) rfl (hb hby d5_12)
  refine own_step st2 ?_
  show own_Wp p e below _ T2 (mkF m 15 #[.val (.ref (w13_LESS Z))] [(.ref (w10_NOT_EQUAL Z)), (.ref (w13_LESS Z))])
  refine own_step (fun _ k => Jvm.RoadKit.acmp (g := (mkF m 15 #[.val (.ref (w13_LESS Z))] [(.ref (w10_NOT_EQUAL Z)), (.ref (w13_LESS Z))])) X2 hx rfl rfl rfl (pc0 := 15) (pc' := 22) (same := false) rfl (hb hby d5_15) rfl (decide_eq_false fun q => (Fld.ne (fl8 hw hA hS hF) (fl4 hw hA hS hF) (by decide)) (Value.ref.inj q)) (by decide) (by decide) k) ?_
  show own_Wp p e below _ T2 (mkF m 22 #[.val (.ref (w13_LESS Z))] [])
  refine own_step (fun _ k => XS.aloadN X2.here hx rfl (hb hby d5_22) rfl rfl k) ?_
  show own_Wp p e below _ T2 (mkF m 23 #[.val (.ref (w13_LESS Z))] [(.ref (w13_LESS Z))])
  obtain ⟨T3, X3, e3, st3⟩ := getS2 X2 hx hZ hown (host := "") (Or.inl (hw _ (List.mem_of_getElem? (i := 26) rfl))) Via.refl e2 ((st_w11_MATCH hw hA hS hF).ext O0.2) (g := (mkF m 23 #[.val (.ref (w13_LESS Z))] [(.ref (w13_LESS Z))])) rfl (hb hby d5_23)
  refine own_step st3 ?_
  show own_Wp p e below _ T3 (mkF m 26 #[.val (.ref (w13_LESS Z))] [(.ref (w11_MATCH Z)), (.ref (w13_LESS Z))])
  refine own_step (fun _ k => Jvm.RoadKit.acmp (g := (mkF m 26 #[.val (.ref (w13_LESS Z))] [(.ref (w11_MATCH Z)), (.ref (w13_LESS Z))])) X3 hx rfl rfl rfl (pc0 := 26) (pc' := 33) (same := false) rfl (hb hby d5_26) rfl (decide_eq_false fun q => (Fld.ne (fl8 hw hA hS hF) (fl6 hw hA hS hF) (by decide)) (Value.ref.inj q)) (by decide) (by decide) k) ?_
  show own_Wp p e below _ T3 (mkF m 33 #[.val (.ref (w13_LESS Z))] [])
  refine own_step (fun _ k => XS.aloadN X3.here hx rfl (hb hby d5_33) rfl rfl k) ?_
  show own_Wp p e below _ T3 (mkF m 34 #[.val (.ref (w13_LESS Z))] [(.ref (w13_LESS Z))])
  obtain ⟨T4, X4, e4, st4⟩ := getS2 X3 hx hZ hown (host := "") (Or.inl (hw _ (List.mem_of_getElem? (i := 30) rfl))) Via.refl e3 ((st_w13_LESS hw hA hS hF).ext O0.2) (g := (mkF m 34 #[.val (.ref (w13_LESS Z))] [(.ref (w13_LESS Z))])) rfl (hb hby d5_34)
  refine own_step st4 ?_
  show own_Wp p e below _ T4 (mkF m 37 #[.val (.ref (w13_LESS Z))] [(.ref (w13_LESS Z)), (.ref (w13_LESS Z))])
  refine own_step (fun _ k => Jvm.RoadKit.acmp (g := (mkF m 37 #[.val (.ref (w13_LESS Z))] [(.ref (w13_LESS Z)), (.ref (w13_LESS Z))])) X4 hx rfl rfl rfl (pc0 := 37) (pc' := 40) (same := true) rfl (hb hby d5_37) rfl (decide_eq_true rfl) (by decide) (by decide) k) ?_
  show own_Wp p e below _ T4 (mkF m 40 #[.val (.ref (w13_LESS Z))] [])
  obtain ⟨T5, X5, e5, st5⟩ := getS2 X4 hx hZ hown (host := "") (Or.inl (hw _ (List.mem_of_getElem? (i := 111) rfl))) Via.refl e4 ((st_w23_LESS hw hA hS hF).ext O0.2) (g := (mkF m 40 #[.val (.ref (w13_LESS Z))] [])) rfl (hb hby d5_40)
  refine own_step st5 ?_
  show own_Wp p e below _ T5 (mkF m 43 #[.val (.ref (w13_LESS Z))] [(.ref (w23_LESS Z))])
  exact own_retA X5 hx hret rfl rfl hlk (hb hby d5_43) (by decide) (by decide) (by rw [e5]; exact ⟨rfl, (Fr.nil n0), rfl⟩)

set_option maxRecDepth 65536 in
set_option maxHeartbeats 40000000 in
theorem rm1_23 (l : Launch) (Z : State) (a0 : Array Value) (hw : ∀ d ∈ tables_1, d.before a0 Z = true) (hA : ∀ d ∈ own_flat narrow_1, d.value a0 Z none Z [] = some true) (hS : ∀ d ∈ jdkStatics_1, d.before a0 Z = true) (hF : Fit Z) (ws : List Jvm.Cond) (h0 : Heap) (n0 : Nat) (O0 : Old Z n0 h0) :
    own_Met l Z (⟨"com/example/proviso/proviso/expression/ComparisonOperator", "spelledBy", "(Lcom/example/proviso/proviso/expression/Lexer$Kind;)Ljava/util/Optional;"⟩ : MethodName) (Jvm.Cond.code (⟨"com/example/proviso/proviso/expression/ComparisonOperator", "spelledBy", "(Lcom/example/proviso/proviso/expression/Lexer$Kind;)Ljava/util/Optional;"⟩ : MethodName) prog_2_method_4_code 5 (some (.object "java/util/Optional"))) ws ({ frames := 3, cells := 2, slots := 8, locals := 38 } : Room) #[(.ref (w14_GREATER_EQUAL Z))] h0 (fun v h L => (∃ (b20 : Addr), v = some (.ref b20) ∧ Fr n0 L ∧ Keep h0 h [] ∧ h0.size ≤ b20 ∧ Exa Z h b20 "java/util/Optional" ∧ Fld Z h b20 "java/util/Optional" "value" "Ljava/lang/Object;" (.ref (w26_GREATER_EQUAL Z)))) := by
  refine own_met (own := "com/example/proviso/proviso/expression/ComparisonOperator") (plainFor_of_name pn0) rfl ?_
  intro p e s m below meth c s₁ hx hby hml hown hnm hret hlk hZ e0 X0
  refine own_cast (g' := (mkF m 0 #[.val (.ref (w14_GREATER_EQUAL Z)), .unset, .unset, .unset, .unset] [])) (by first | (simp [entryFrame, mkF, argsToLocals, Value.category]; done) | rfl) ?_
  obtain ⟨_, T1, L1, X1, hQ1, st1⟩ := own_callS X0 hx hZ hown (hw _ (List.mem_of_getElem? (i := 47) rfl)) (hw _ (List.mem_of_getElem? (i := 48) rfl)) (hw _ (List.mem_of_getElem? (i := 45) rfl)) (hw _ (List.mem_of_getElem? (i := 49) rfl)) (by decide) (rm2_0 l Z a0 hw hA hS hF [] h0 n0 O0) (W := 0) (by decide) (by decide) [] rfl (lenOf pd1 rfl) (Ls := #[.val (.ref (w14_GREATER_EQUAL Z)), .unset, .unset, .unset, .unset]) (by rw [hml]; rfl) (rest := []) (Nat.le_of_eq rfl) (hb hby d1_0) e0 (by decide) (by decide)
  refine st1 _ ?_
  obtain ⟨b2, k3, rfl, N1q, K1q, y1_0, F1_0, F1_1⟩ := hQ1
  have N1 := Fr.app (Fr.nil n0) N1q
  have g1_0 : n0 ≤ b2 := Nat.le_trans (O0.1 ▸ O0.2.1) y1_0
  have u1_0 : h0.size ≤ b2 := Nat.le_trans (Nat.le_refl _) y1_0
  have O1 := O0.keep K1q all0
  have K1 : Keep h0 T1.heap [] := Keep.trans (Keep.refl h0 []) K1q all0
  show own_Wp p e below _ T1 (mkF m 3 #[.val (.ref (w14_GREATER_EQUAL Z)), .unset, .unset, .unset, .unset] [(.ref b2)])
  refine own_step (fun _ k => XS.astoreN X1.here hx rfl (hb hby d1_3) rfl rfl (l' := #[.val (.ref (w14_GREATER_EQUAL Z)), .val (.ref b2), .unset, .unset, .unset]) rfl k) ?_
  show own_Wp p e below _ T1 (mkF m 4 #[.val (.ref (w14_GREATER_EQUAL Z)), .val (.ref b2), .unset, .unset, .unset] [])
  refine own_step (fun _ k => XS.aloadN X1.here hx rfl (hb hby d1_4) rfl rfl k) ?_
  show own_Wp p e below _ T1 (mkF m 5 #[.val (.ref (w14_GREATER_EQUAL Z)), .val (.ref b2), .unset, .unset, .unset] [(.ref b2)])
  obtain ⟨c4, r4, q4, t4, u4, y4h, y4g⟩ := id F1_0
  refine own_step (fun _ k => X1.arraylength hx r4.1 (State.isArrayOf_alike hZ.alike r4.2.1) (g := (mkF m 5 #[.val (.ref (w14_GREATER_EQUAL Z)), .val (.ref b2), .unset, .unset, .unset] [(.ref b2)])) rfl rfl (hb hby d1_5) _ k) ?_
  rw [len_of t4 u4]
  show own_Wp p e below _ T1 (mkF m 6 #[.val (.ref (w14_GREATER_EQUAL Z)), .val (.ref b2), .unset, .unset, .unset] [(.int (7 : Int32))])
  refine own_step (fun _ k => XS.istoreN X1.here hx rfl (hb hby d1_6) rfl (l' := #[.val (.ref (w14_GREATER_EQUAL Z)), .val (.ref b2), .val (.int (7 : Int32)), .unset, .unset]) rfl k) ?_
  show own_Wp p e below _ T1 (mkF m 7 #[.val (.ref (w14_GREATER_EQUAL Z)), .val (.ref b2), .val (.int (7 : Int32)), .unset, .unset] [])
  refine own_step (fun _ k => XS.iconst X1.here hx rfl (hb hby d1_7) k) ?_
  show own_Wp p e below _ T1 (mkF m 8 #[.val (.ref (w14_GREATER_EQUAL Z)), .val (.ref b2), .val (.int (7 : Int32)), .unset, .unset] [(.int (0 : Int32))])
  refine own_step (fun _ k => XS.istoreN X1.here hx rfl (hb hby d1_8) rfl (l' := #[.val (.ref (w14_GREATER_EQUAL Z)), .val (.ref b2), .val (.int (7 : Int32)), .val (.int (0 : Int32)), .unset]) rfl k) ?_
  show own_Wp p e below _ T1 (mkF m 9 #[.val (.ref (w14_GREATER_EQUAL Z)), .val (.ref b2), .val (.int (7 : Int32)), .val (.int (0 : Int32)), .unset] [])
  refine own_step (fun _ k => XS.iloadN X1.here hx rfl (hb hby d1_9) rfl k) ?_
  show own_Wp p e below _ T1 (mkF m 10 #[.val (.ref (w14_GREATER_EQUAL Z)), .val (.ref b2), .val (.int (7 : Int32)), .val (.int (0 : Int32)), .unset] [(.int (0 : Int32))])
  refine own_step (fun _ k => XS.iloadN X1.here hx rfl (hb hby d1_10) rfl k) ?_
  show own_Wp p e below _ T1 (mkF m 11 #[.val (.ref (w14_GREATER_EQUAL Z)), .val (.ref b2), .val (.int (7 : Int32)), .val (.int (0 : Int32)), .unset] [(.int (7 : Int32)), (.int (0 : Int32))])
  refine own_step (fun _ k => XS.icmpNo X1.here hx rfl (hb hby d1_11) rfl (by decide) k) ?_
  show own_Wp p e below _ T1 (mkF m 14 #[.val (.ref (w14_GREATER_EQUAL Z)), .val (.ref b2), .val (.int (7 : Int32)), .val (.int (0 : Int32)), .unset] [])
  refine own_step (fun _ k => XS.aloadN X1.here hx rfl (hb hby d1_14) rfl rfl k) ?_
  show own_Wp p e below _ T1 (mkF m 15 #[.val (.ref (w14_GREATER_EQUAL Z)), .val (.ref b2), .val (.int (7 : Int32)), .val (.int (0 : Int32)), .unset] [(.ref b2)])
  refine own_step (fun _ k => XS.iloadN X1.here hx rfl (hb hby d1_15) rfl k) ?_
  show own_Wp p e below _ T1 (mkF m 16 #[.val (.ref (w14_GREATER_EQUAL Z)), .val (.ref b2), .val (.int (7 : Int32)), .val (.int (0 : Int32)), .unset] [(.int (0 : Int32)), (.ref b2)])
  obtain ⟨c5, r5, q5, t5, u5, y5h, y5g⟩ := id F1_0
  have i5 : ¬ ((0 : Int32) < 0 ∨ c5.slots.size ≤ ((0 : Int32)).toNatClampNeg) := inb_of t5 ⟨by decide, by decide⟩
  refine own_step (fun _ k => X1.aaload hx (j := (0 : Int32)) (v := (.ref (w20_EQUAL Z))) r5.1 (State.isArrayOf_alike hZ.alike r5.2.1) rfl r5.2.2 i5 (own_get t5 y5h i5 0 rfl) (g := (mkF m 16 #[.val (.ref (w14_GREATER_EQUAL Z)), .val (.ref b2), .val (.int (7 : Int32)), .val (.int (0 : Int32)), .unset] [(.int (0 : Int32)), (.ref b2)])) rfl rfl (hb hby d1_16) _ k) ?_
  show own_Wp p e below _ T1 (mkF m 17 #[.val (.ref (w14_GREATER_EQUAL Z)), .val (.ref b2), .val (.int (7 : Int32)), .val (.int (0 : Int32)), .unset] [(.ref (w20_EQUAL Z))])
  refine own_step (fun _ k => XS.astore X1.here hx rfl (hb hby d1_17) rfl rfl (l' := #[.val (.ref (w14_GREATER_EQUAL Z)), .val (.ref b2), .val (.int (7 : Int32)), .val (.int (0 : Int32)), .val (.ref (w20_EQUAL Z))]) rfl k) ?_
  show own_Wp p e below _ T1 (mkF m 19 #[.val (.ref (w14_GREATER_EQUAL Z)), .val (.ref b2), .val (.int (7 : Int32)), .val (.int (0 : Int32)), .val (.ref (w20_EQUAL Z))] [])
  refine own_step (fun _ k => XS.aload X1.here hx rfl (hb hby d1_19) rfl rfl k) ?_
  show own_Wp p e below _ T1 (mkF m 21 #[.val (.ref (w14_GREATER_EQUAL Z)), .val (.ref b2), .val (.int (7 : Int32)), .val (.int (0 : Int32)), .val (.ref (w20_EQUAL Z))] [(.ref (w20_EQUAL Z))])
  obtain ⟨T6, X6, e6, st6⟩ := getF X1 hx hZ hown (host := "") (Or.inl (hw _ (List.mem_of_getElem? (i := 69) rfl))) Via.refl rfl ((fl0 hw hA hS hF).ext O1.2) (g := (mkF m 21 #[.val (.ref (w14_GREATER_EQUAL Z)), .val (.ref b2), .val (.int (7 : Int32)), .val (.int (0 : Int32)), .val (.ref (w20_EQUAL Z))] [(.ref (w20_EQUAL Z))])) rfl rfl (hb hby d1_21)
  refine own_step st6 ?_
  show own_Wp p e below _ T6 (mkF m 24 #[.val (.ref (w14_GREATER_EQUAL Z)), .val (.ref b2), .val (.int (7 : Int32)), .val (.int (0 : Int32)), .val (.ref (w20_EQUAL Z))] [(.ref (w9_EQUAL Z))])
  refine own_step (fun _ k => XS.aloadN X6.here hx rfl (hb hby d1_24) rfl rfl k) ?_
  show own_Wp p e below _ T6 (mkF m 25 #[.val (.ref (w14_GREATER_EQUAL Z)), .val (.ref b2), .val (.int (7 : Int32)), .val (.int (0 : Int32)), .val (.ref (w20_EQUAL Z))] [(.ref (w14_GREATER_EQUAL Z)), (.ref (w9_EQUAL Z))])
  refine own_step (fun _ k => Jvm.RoadKit.acmp (g := (mkF m 25 #[.val (.ref (w14_GREATER_EQUAL Z)), .val (.ref b2), .val (.int (7 : Int32)), .val (.int (0 : Int32)), .val (.ref (w20_EQUAL Z))] [(.ref (w14_GREATER_EQUAL Z)), (.ref (w9_EQUAL Z))])) X6 hx rfl rfl rfl (pc0 := 25) (pc' := 34) (same := false) rfl (hb hby d1_25) rfl (decide_eq_false fun q => (Fld.ne (fl1 hw hA hS hF) (fl14 hw hA hS hF) (by decide)) (Value.ref.inj q)) (by decide) (by decide) k) ?_
  show own_Wp p e below _ T6 (mkF m 34 #[.val (.ref (w14_GREATER_EQUAL Z)), .val (.ref b2), .val (.int (7 : Int32)), .val (.int (0 : Int32)), .val (.ref (w20_EQUAL Z))] [])
  refine own_step (fun _ k => XS.iinc X6.here hx rfl (hb hby d1_34) rfl (l' := #[.val (.ref (w14_GREATER_EQUAL Z)), .val (.ref b2), .val (.int (7 : Int32)), .val (.int ((0 : Int32) + (1 : Int32))), .val (.ref (w20_EQUAL Z))]) rfl k) ?_
  show own_Wp p e below _ T6 (mkF m 37 #[.val (.ref (w14_GREATER_EQUAL Z)), .val (.ref b2), .val (.int (7 : Int32)), .val (.int ((0 : Int32) + (1 : Int32))), .val (.ref (w20_EQUAL Z))] [])
  rw [(by decide : ((0 : Int32) + (1 : Int32)) = (1 : Int32))]
  show own_Wp p e below _ T6 (mkF m 37 #[.val (.ref (w14_GREATER_EQUAL Z)), .val (.ref b2), .val (.int (7 : Int32)), .val (.int (1 : Int32)), .val (.ref (w20_EQUAL Z))] [])
  refine own_step (fun _ k => XS.goto X6.here hx rfl (pc0 := 37) (pc' := 9) rfl (hb hby d1_37) (by decide) (by decide) k) ?_
  show own_Wp p e below _ T6 (mkF m 9 #[.val (.ref (w14_GREATER_EQUAL Z)), .val (.ref b2), .val (.int (7 : Int32)), .val (.int (1 : Int32)), .val (.ref (w20_EQUAL Z))] [])
  refine own_step (fun _ k => XS.iloadN X6.here hx rfl (hb hby d1_9) rfl k) ?_
  show own_Wp p e below _ T6 (mkF m 10 #[.val (.ref (w14_GREATER_EQUAL Z)), .val (.ref b2), .val (.int (7 : Int32)), .val (.int (1 : Int32)), .val (.ref (w20_EQUAL Z))] [(.int (1 : Int32))])
  refine own_step (fun _ k => XS.iloadN X6.here hx rfl (hb hby d1_10) rfl k) ?_
  show own_Wp p e below _ T6 (mkF m 11 #[.val (.ref (w14_GREATER_EQUAL Z)), .val (.ref b2), .val (.int (7 : Int32)), .val (.int (1 : Int32)), .val (.ref (w20_EQUAL Z))] [(.int (7 : Int32)), (.int (1 : Int32))])
  refine own_step (fun _ k => XS.icmpNo X6.here hx rfl (hb hby d1_11) rfl (by decide) k) ?_
  show own_Wp p e below _ T6 (mkF m 14 #[.val (.ref (w14_GREATER_EQUAL Z)), .val (.ref b2), .val (.int (7 : Int32)), .val (.int (1 : Int32)), .val (.ref (w20_EQUAL Z))] [])
  refine own_step (fun _ k => XS.aloadN X6.here hx rfl (hb hby d1_14) rfl rfl k) ?_
  show own_Wp p e below _ T6 (mkF m 15 #[.val (.ref (w14_GREATER_EQUAL Z)), .val (.ref b2), .val (.int (7 : Int32)), .val (.int (1 : Int32)), .val (.ref (w20_EQUAL Z))] [(.ref b2)])
  refine own_step (fun _ k => XS.iloadN X6.here hx rfl (hb hby d1_15) rfl k) ?_
  show own_Wp p e below _ T6 (mkF m 16 #[.val (.ref (w14_GREATER_EQUAL Z)), .val (.ref b2), .val (.int (7 : Int32)), .val (.int (1 : Int32)), .val (.ref (w20_EQUAL Z))] [(.int (1 : Int32)), (.ref b2)])
  obtain ⟨c7, r7, q7, t7, u7, y7h, y7g⟩ := id F1_0
  have i7 : ¬ ((1 : Int32) < 0 ∨ c7.slots.size ≤ ((1 : Int32)).toNatClampNeg) := inb_of t7 ⟨by decide, by decide⟩
  refine own_step (fun _ k => X6.aaload hx (j := (1 : Int32)) (v := (.ref (w21_NOT_EQUAL Z))) (by rw [e6]; exact r7.1) (State.isArrayOf_alike hZ.alike r7.2.1) rfl r7.2.2 i7 (own_get t7 y7h i7 1 rfl) (g := (mkF m 16 #[.val (.ref (w14_GREATER_EQUAL Z)), .val (.ref b2), .val (.int (7 : Int32)), .val (.int (1 : Int32)), .val (.ref (w20_EQUAL Z))] [(.int (1 : Int32)), (.ref b2)])) rfl rfl (hb hby d1_16) _ k) ?_
  show own_Wp p e below _ T6 (mkF m 17 #[.val (.ref (w14_GREATER_EQUAL Z)), .val (.ref b2), .val (.int (7 : Int32)), .val (.int (1 : Int32)), .val (.ref (w20_EQUAL Z))] [(.ref (w21_NOT_EQUAL Z))])
  refine own_step (fun _ k => XS.astore X6.here hx rfl (hb hby d1_17) rfl rfl (l' := #[.val (.ref (w14_GREATER_EQUAL Z)), .val (.ref b2), .val (.int (7 : Int32)), .val (.int (1 : Int32)), .val (.ref (w21_NOT_EQUAL Z))]) rfl k) ?_
  show own_Wp p e below _ T6 (mkF m 19 #[.val (.ref (w14_GREATER_EQUAL Z)), .val (.ref b2), .val (.int (7 : Int32)), .val (.int (1 : Int32)), .val (.ref (w21_NOT_EQUAL Z))] [])
  refine own_step (fun _ k => XS.aload X6.here hx rfl (hb hby d1_19) rfl rfl k) ?_
  show own_Wp p e below _ T6 (mkF m 21 #[.val (.ref (w14_GREATER_EQUAL Z)), .val (.ref b2), .val (.int (7 : Int32)), .val (.int (1 : Int32)), .val (.ref (w21_NOT_EQUAL Z))] [(.ref (w21_NOT_EQUAL Z))])
  obtain ⟨T8, X8, e8, st8⟩ := getF X6 hx hZ hown (host := "") (Or.inl (hw _ (List.mem_of_getElem? (i := 69) rfl))) Via.refl e6 ((fl3 hw hA hS hF).ext O1.2) (g := (mkF m 21 #[.val (.ref (w14_GREATER_EQUAL Z)), .val (.ref b2), .val (.int (7 : Int32)), .val (.int (1 : Int32)), .val (.ref (w21_NOT_EQUAL Z))] [(.ref (w21_NOT_EQUAL Z))])) rfl rfl (hb hby d1_21)
  refine own_step st8 ?_
  show own_Wp p e below _ T8 (mkF m 24 #[.val (.ref (w14_GREATER_EQUAL Z)), .val (.ref b2), .val (.int (7 : Int32)), .val (.int (1 : Int32)), .val (.ref (w21_NOT_EQUAL Z))] [(.ref (w10_NOT_EQUAL Z))])
  refine own_step (fun _ k => XS.aloadN X8.here hx rfl (hb hby d1_24) rfl rfl k) ?_
  show own_Wp p e below _ T8 (mkF m 25 #[.val (.ref (w14_GREATER_EQUAL Z)), .val (.ref b2), .val (.int (7 : Int32)), .val (.int (1 : Int32)), .val (.ref (w21_NOT_EQUAL Z))] [(.ref (w14_GREATER_EQUAL Z)), (.ref (w10_NOT_EQUAL Z))])
  refine own_step (fun _ k => Jvm.RoadKit.acmp (g := (mkF m 25 #[.val (.ref (w14_GREATER_EQUAL Z)), .val (.ref b2), .val (.int (7 : Int32)), .val (.int (1 : Int32)), .val (.ref (w21_NOT_EQUAL Z))] [(.ref (w14_GREATER_EQUAL Z)), (.ref (w10_NOT_EQUAL Z))])) X8 hx rfl rfl rfl (pc0 := 25) (pc' := 34) (same := false) rfl (hb hby d1_25) rfl (decide_eq_false fun q => (Fld.ne (fl4 hw hA hS hF) (fl14 hw hA hS hF) (by decide)) (Value.ref.inj q)) (by decide) (by decide) k) ?_
  show own_Wp p e below _ T8 (mkF m 34 #[.val (.ref (w14_GREATER_EQUAL Z)), .val (.ref b2), .val (.int (7 : Int32)), .val (.int (1 : Int32)), .val (.ref (w21_NOT_EQUAL Z))] [])
  refine own_step (fun _ k => XS.iinc X8.here hx rfl (hb hby d1_34) rfl (l' := #[.val (.ref (w14_GREATER_EQUAL Z)), .val (.ref b2), .val (.int (7 : Int32)), .val (.int ((1 : Int32) + (1 : Int32))), .val (.ref (w21_NOT_EQUAL Z))]) rfl k) ?_
  show own_Wp p e below _ T8 (mkF m 37 #[.val (.ref (w14_GREATER_EQUAL Z)), .val (.ref b2), .val (.int (7 : Int32)), .val (.int ((1 : Int32) + (1 : Int32))), .val (.ref (w21_NOT_EQUAL Z))] [])
  rw [(by decide : ((1 : Int32) + (1 : Int32)) = (2 : Int32))]
  show own_Wp p e below _ T8 (mkF m 37 #[.val (.ref (w14_GREATER_EQUAL Z)), .val (.ref b2), .val (.int (7 : Int32)), .val (.int (2 : Int32)), .val (.ref (w21_NOT_EQUAL Z))] [])
  refine own_step (fun _ k => XS.goto X8.here hx rfl (pc0 := 37) (pc' := 9) rfl (hb hby d1_37) (by decide) (by decide) k) ?_
  show own_Wp p e below _ T8 (mkF m 9 #[.val (.ref (w14_GREATER_EQUAL Z)), .val (.ref b2), .val (.int (7 : Int32)), .val (.int (2 : Int32)), .val (.ref (w21_NOT_EQUAL Z))] [])
  refine own_step (fun _ k => XS.iloadN X8.here hx rfl (hb hby d1_9) rfl k) ?_
  show own_Wp p e below _ T8 (mkF m 10 #[.val (.ref (w14_GREATER_EQUAL Z)), .val (.ref b2), .val (.int (7 : Int32)), .val (.int (2 : Int32)), .val (.ref (w21_NOT_EQUAL Z))] [(.int (2 : Int32))])
  refine own_step (fun _ k => XS.iloadN X8.here hx rfl (hb hby d1_10) rfl k) ?_
  show own_Wp p e below _ T8 (mkF m 11 #[.val (.ref (w14_GREATER_EQUAL Z)), .val (.ref b2), .val (.int (7 : Int32)), .val (.int (2 : Int32)), .val (.ref (w21_NOT_EQUAL Z))] [(.int (7 : Int32)), (.int (2 : Int32))])
  refine own_step (fun _ k => XS.icmpNo X8.here hx rfl (hb hby d1_11) rfl (by decide) k) ?_
  show own_Wp p e below _ T8 (mkF m 14 #[.val (.ref (w14_GREATER_EQUAL Z)), .val (.ref b2), .val (.int (7 : Int32)), .val (.int (2 : Int32)), .val (.ref (w21_NOT_EQUAL Z))] [])
  refine own_step (fun _ k => XS.aloadN X8.here hx rfl (hb hby d1_14) rfl rfl k) ?_
  show own_Wp p e below _ T8 (mkF m 15 #[.val (.ref (w14_GREATER_EQUAL Z)), .val (.ref b2), .val (.int (7 : Int32)), .val (.int (2 : Int32)), .val (.ref (w21_NOT_EQUAL Z))] [(.ref b2)])
  refine own_step (fun _ k => XS.iloadN X8.here hx rfl (hb hby d1_15) rfl k) ?_
  show own_Wp p e below _ T8 (mkF m 16 #[.val (.ref (w14_GREATER_EQUAL Z)), .val (.ref b2), .val (.int (7 : Int32)), .val (.int (2 : Int32)), .val (.ref (w21_NOT_EQUAL Z))] [(.int (2 : Int32)), (.ref b2)])
  obtain ⟨c9, r9, q9, t9, u9, y9h, y9g⟩ := id F1_0
  have i9 : ¬ ((2 : Int32) < 0 ∨ c9.slots.size ≤ ((2 : Int32)).toNatClampNeg) := inb_of t9 ⟨by decide, by decide⟩
  refine own_step (fun _ k => X8.aaload hx (j := (2 : Int32)) (v := (.ref (w22_MATCH Z))) (by rw [e8]; exact r9.1) (State.isArrayOf_alike hZ.alike r9.2.1) rfl r9.2.2 i9 (own_get t9 y9h i9 2 rfl) (g := (mkF m 16 #[.val (.ref (w14_GREATER_EQUAL Z)), .val (.ref b2), .val (.int (7 : Int32)), .val (.int (2 : Int32)), .val (.ref (w21_NOT_EQUAL Z))] [(.int (2 : Int32)), (.ref b2)])) rfl rfl (hb hby d1_16) _ k) ?_
  show own_Wp p e below _ T8 (mkF m 17 #[.val (.ref (w14_GREATER_EQUAL Z)), .val (.ref b2), .val (.int (7 : Int32)), .val (.int (2 : Int32)), .val (.ref (w21_NOT_EQUAL Z))] [(.ref (w22_MATCH Z))])
  refine own_step (fun _ k => XS.astore X8.here hx rfl (hb hby d1_17) rfl rfl (l' := #[.val (.ref (w14_GREATER_EQUAL Z)), .val (.ref b2), .val (.int (7 : Int32)), .val (.int (2 : Int32)), .val (.ref (w22_MATCH Z))]) rfl k) ?_
  show own_Wp p e below _ T8 (mkF m 19 #[.val (.ref (w14_GREATER_EQUAL Z)), .val (.ref b2), .val (.int (7 : Int32)), .val (.int (2 : Int32)), .val (.ref (w22_MATCH Z))] [])
  refine own_step (fun _ k => XS.aload X8.here hx rfl (hb hby d1_19) rfl rfl k) ?_
  show own_Wp p e below _ T8 (mkF m 21 #[.val (.ref (w14_GREATER_EQUAL Z)), .val (.ref b2), .val (.int (7 : Int32)), .val (.int (2 : Int32)), .val (.ref (w22_MATCH Z))] [(.ref (w22_MATCH Z))])
  obtain ⟨T10, X10, e10, st10⟩ := getF X8 hx hZ hown (host := "") (Or.inl (hw _ (List.mem_of_getElem? (i := 69) rfl))) Via.refl e8 ((fl5 hw hA hS hF).ext O1.2) (g := (mkF m 21 #[.val (.ref (w14_GREATER_EQUAL Z)), .val (.ref b2), .val (.int (7 : Int32)), .val (.int (2 : Int32)), .val (.ref (w22_MATCH Z))] [(.ref (w22_MATCH Z))])) rfl rfl (hb hby d1_21)
  refine own_step st10 ?_
  show own_Wp p e below _ T10 (mkF m 24 #[.val (.ref (w14_GREATER_EQUAL Z)), .val (.ref b2), .val (.int (7 : Int32)), .val (.int (2 : Int32)), .val (.ref (w22_MATCH Z))] [(.ref (w11_MATCH Z))])
  refine own_step (fun _ k => XS.aloadN X10.here hx rfl (hb hby d1_24) rfl rfl k) ?_
  show own_Wp p e below _ T10 (mkF m 25 #[.val (.ref (w14_GREATER_EQUAL Z)), .val (.ref b2), .val (.int (7 : Int32)), .val (.int (2 : Int32)), .val (.ref (w22_MATCH Z))] [(.ref (w14_GREATER_EQUAL Z)), (.ref (w11_MATCH Z))])
  refine own_step (fun _ k => Jvm.RoadKit.acmp (g := (mkF m 25 #[.val (.ref (w14_GREATER_EQUAL Z)), .val (.ref b2), .val (.int (7 : Int32)), .val (.int (2 : Int32)), .val (.ref (w22_MATCH Z))] [(.ref (w14_GREATER_EQUAL Z)), (.ref (w11_MATCH Z))])) X10 hx rfl rfl rfl (pc0 := 25) (pc' := 34) (same := false) rfl (hb hby d1_25) rfl (decide_eq_false fun q => (Fld.ne (fl6 hw hA hS hF) (fl14 hw hA hS hF) (by decide)) (Value.ref.inj q)) (by decide) (by decide) k) ?_
  show own_Wp p e below _ T10 (mkF m 34 #[.val (.ref (w14_GREATER_EQUAL Z)), .val (.ref b2), .val (.int (7 : Int32)), .val (.int (2 : Int32)), .val (.ref (w22_MATCH Z))] [])
  refine own_step (fun _ k => XS.iinc X10.here hx rfl (hb hby d1_34) rfl (l' := #[.val (.ref (w14_GREATER_EQUAL Z)), .val (.ref b2), .val (.int (7 : Int32)), .val (.int ((2 : Int32) + (1 : Int32))), .val (.ref (w22_MATCH Z))]) rfl k) ?_
  show own_Wp p e below _ T10 (mkF m 37 #[.val (.ref (w14_GREATER_EQUAL Z)), .val (.ref b2), .val (.int (7 : Int32)), .val (.int ((2 : Int32) + (1 : Int32))), .val (.ref (w22_MATCH Z))] [])
  rw [(by decide : ((2 : Int32) + (1 : Int32)) = (3 : Int32))]
  show own_Wp p e below _ T10 (mkF m 37 #[.val (.ref (w14_GREATER_EQUAL Z)), .val (.ref b2), .val (.int (7 : Int32)), .val (.int (3 : Int32)), .val (.ref (w22_MATCH Z))] [])
  refine own_step (fun _ k => XS.goto X10.here hx rfl (pc0 := 37) (pc' := 9) rfl (hb hby d1_37) (by decide) (by decide) k) ?_
  show own_Wp p e below _ T10 (mkF m 9 #[.val (.ref (w14_GREATER_EQUAL Z)), .val (.ref b2), .val (.int (7 : Int32)), .val (.int (3 : Int32)), .val (.ref (w22_MATCH Z))] [])
  refine own_step (fun _ k => XS.iloadN X10.here hx rfl (hb hby d1_9) rfl k) ?_
  show own_Wp p e below _ T10 (mkF m 10 #[.val (.ref (w14_GREATER_EQUAL Z)), .val (.ref b2), .val (.int (7 : Int32)), .val (.int (3 : Int32)), .val (.ref (w22_MATCH Z))] [(.int (3 : Int32))])
  refine own_step (fun _ k => XS.iloadN X10.here hx rfl (hb hby d1_10) rfl k) ?_
  show own_Wp p e below _ T10 (mkF m 11 #[.val (.ref (w14_GREATER_EQUAL Z)), .val (.ref b2), .val (.int (7 : Int32)), .val (.int (3 : Int32)), .val (.ref (w22_MATCH Z))] [(.int (7 : Int32)), (.int (3 : Int32))])
  refine own_step (fun _ k => XS.icmpNo X10.here hx rfl (hb hby d1_11) rfl (by decide) k) ?_
  show own_Wp p e below _ T10 (mkF m 14 #[.val (.ref (w14_GREATER_EQUAL Z)), .val (.ref b2), .val (.int (7 : Int32)), .val (.int (3 : Int32)), .val (.ref (w22_MATCH Z))] [])
  refine own_step (fun _ k => XS.aloadN X10.here hx rfl (hb hby d1_14) rfl rfl k) ?_
  show own_Wp p e below _ T10 (mkF m 15 #[.val (.ref (w14_GREATER_EQUAL Z)), .val (.ref b2), .val (.int (7 : Int32)), .val (.int (3 : Int32)), .val (.ref (w22_MATCH Z))] [(.ref b2)])
  refine own_step (fun _ k => XS.iloadN X10.here hx rfl (hb hby d1_15) rfl k) ?_
  show own_Wp p e below _ T10 (mkF m 16 #[.val (.ref (w14_GREATER_EQUAL Z)), .val (.ref b2), .val (.int (7 : Int32)), .val (.int (3 : Int32)), .val (.ref (w22_MATCH Z))] [(.int (3 : Int32)), (.ref b2)])
  obtain ⟨c11, r11, q11, t11, u11, y11h, y11g⟩ := id F1_0
  have i11 : ¬ ((3 : Int32) < 0 ∨ c11.slots.size ≤ ((3 : Int32)).toNatClampNeg) := inb_of t11 ⟨by decide, by decide⟩
  refine own_step (fun _ k => X10.aaload hx (j := (3 : Int32)) (v := (.ref (w23_LESS Z))) (by rw [e10]; exact r11.1) (State.isArrayOf_alike hZ.alike r11.2.1) rfl r11.2.2 i11 (own_get t11 y11h i11 3 rfl) (g := (mkF m 16 #[.val (.ref (w14_GREATER_EQUAL Z)), .val (.ref b2), .val (.int (7 : Int32)), .val (.int (3 : Int32)), .val (.ref (w22_MATCH Z))] [(.int (3 : Int32)), (.ref b2)])) rfl rfl (hb hby d1_16) _ k) ?_
  show own_Wp p e below _ T10 (mkF m 17 #[.val (.ref (w14_GREATER_EQUAL Z)), .val (.ref b2), .val (.int (7 : Int32)), .val (.int (3 : Int32)), .val (.ref (w22_MATCH Z))] [(.ref (w23_LESS Z))])
  refine own_step (fun _ k => XS.astore X10.here hx rfl (hb hby d1_17) rfl rfl (l' := #[.val (.ref (w14_GREATER_EQUAL Z)), .val (.ref b2), .val (.int (7 : Int32)), .val (.int (3 : Int32)), .val (.ref (w23_LESS Z))]) rfl k) ?_
  show own_Wp p e below _ T10 (mkF m 19 #[.val (.ref (w14_GREATER_EQUAL Z)), .val (.ref b2), .val (.int (7 : Int32)), .val (.int (3 : Int32)), .val (.ref (w23_LESS Z))] [])
  refine own_step (fun _ k => XS.aload X10.here hx rfl (hb hby d1_19) rfl rfl k) ?_
  show own_Wp p e below _ T10 (mkF m 21 #[.val (.ref (w14_GREATER_EQUAL Z)), .val (.ref b2), .val (.int (7 : Int32)), .val (.int (3 : Int32)), .val (.ref (w23_LESS Z))] [(.ref (w23_LESS Z))])
  obtain ⟨T12, X12, e12, st12⟩ := getF X10 hx hZ hown (host := "") (Or.inl (hw _ (List.mem_of_getElem? (i := 69) rfl))) Via.refl e10 ((fl7 hw hA hS hF).ext O1.2) (g := (mkF m 21 #[.val (.ref (w14_GREATER_EQUAL Z)), .val (.ref b2), .val (.int (7 : Int32)), .val (.int (3 : Int32)), .val (.ref (w23_LESS Z))] [(.ref (w23_LESS Z))])) rfl rfl (hb hby d1_21)
  refine own_step st12 ?_
  show own_Wp p e below _ T12 (mkF m 24 #[.val (.ref (w14_GREATER_EQUAL Z)), .val (.ref b2), .val (.int (7 : Int32)), .val (.int (3 : Int32)), .val (.ref (w23_LESS Z))] [(.ref (w13_LESS Z))])
  refine own_step (fun _ k => XS.aloadN X12.here hx rfl (hb hby d1_24) rfl rfl k) ?_
  show own_Wp p e below _ T12 (mkF m 25 #[.val (.ref (w14_GREATER_EQUAL Z)), .val (.ref b2), .val (.int (7 : Int32)), .val (.int (3 : Int32)), .val (.ref (w23_LESS Z))] [(.ref (w14_GREATER_EQUAL Z)), (.ref (w13_LESS Z))])
  refine own_step (fun _ k => Jvm.RoadKit.acmp (g := (mkF m 25 #[.val (.ref (w14_GREATER_EQUAL Z)), .val (.ref b2), .val (.int (7 : Int32)), .val (.int (3 : Int32)), .val (.ref (w23_LESS Z))] [(.ref (w14_GREATER_EQUAL Z)), (.ref (w13_LESS Z))])) X12 hx rfl rfl rfl (pc0 := 25) (pc' := 34) (same := false) rfl (hb hby d1_25) rfl (decide_eq_false fun q => (Fld.ne (fl8 hw hA hS hF) (fl14 hw hA hS hF) (by decide)) (Value.ref.inj q)) (by decide) (by decide) k) ?_
  show own_Wp p e below _ T12 (mkF m 34 #[.val (.ref (w14_GREATER_EQUAL Z)), .val (.ref b2), .val (.int (7 : Int32)), .val (.int (3 : Int32)), .val (.ref (w23_LESS Z))] [])
  refine own_step (fun _ k => XS.iinc X12.here hx rfl (hb hby d1_34) rfl (l' := #[.val (.ref (w14_GREATER_EQUAL Z)), .val (.ref b2), .val (.int (7 : Int32)), .val (.int ((3 : Int32) + (1 : Int32))), .val (.ref (w23_LESS Z))]) rfl k) ?_
  show own_Wp p e below _ T12 (mkF m 37 #[.val (.ref (w14_GREATER_EQUAL Z)), .val (.ref b2), .val (.int (7 : Int32)), .val (.int ((3 : Int32) + (1 : Int32))), .val (.ref (w23_LESS Z))] [])
  rw [(by decide : ((3 : Int32) + (1 : Int32)) = (4 : Int32))]
  show own_Wp p e below _ T12 (mkF m 37 #[.val (.ref (w14_GREATER_EQUAL Z)), .val (.ref b2), .val (.int (7 : Int32)), .val (.int (4 : Int32)), .val (.ref (w23_LESS Z))] [])
  refine own_step (fun _ k => XS.goto X12.here hx rfl (pc0 := 37) (pc' := 9) rfl (hb hby d1_37) (by decide) (by decide) k) ?_
  show own_Wp p e below _ T12 (mkF m 9 #[.val (.ref (w14_GREATER_EQUAL Z)), .val (.ref b2), .val (.int (7 : Int32)), .val (.int (4 : Int32)), .val (.ref (w23_LESS Z))] [])
  refine own_step (fun _ k => XS.iloadN X12.here hx rfl (hb hby d1_9) rfl k) ?_
  show own_Wp p e below _ T12 (mkF m 10 #[.val (.ref (w14_GREATER_EQUAL Z)), .val (.ref b2), .val (.int (7 : Int32)), .val (.int (4 : Int32)), .val (.ref (w23_LESS Z))] [(.int (4 : Int32))])
  refine own_step (fun _ k => XS.iloadN X12.here hx rfl (hb hby d1_10) rfl k) ?_
  show own_Wp p e below _ T12 (mkF m 11 #[.val (.ref (w14_GREATER_EQUAL Z)), .val (.ref b2), .val (.int (7 : Int32)), .val (.int (4 : Int32)), .val (.ref (w23_LESS Z))] [(.int (7 : Int32)), (.int (4 : Int32))])
  refine own_step (fun _ k => XS.icmpNo X12.here hx rfl (hb hby d1_11) rfl (by decide) k) ?_
  show own_Wp p e below _ T12 (mkF m 14 #[.val (.ref (w14_GREATER_EQUAL Z)), .val (.ref b2), .val (.int (7 : Int32)), .val (.int (4 : Int32)), .val (.ref (w23_LESS Z))] [])
  refine own_step (fun _ k => XS.aloadN X12.here hx rfl (hb hby d1_14) rfl rfl k) ?_
  show own_Wp p e below _ T12 (mkF m 15 #[.val (.ref (w14_GREATER_EQUAL Z)), .val (.ref b2), .val (.int (7 : Int32)), .val (.int (4 : Int32)), .val (.ref (w23_LESS Z))] [(.ref b2)])
  refine own_step (fun _ k => XS.iloadN X12.here hx rfl (hb hby d1_15) rfl k) ?_
  show own_Wp p e below _ T12 (mkF m 16 #[.val (.ref (w14_GREATER_EQUAL Z)), .val (.ref b2), .val (.int (7 : Int32)), .val (.int (4 : Int32)), .val (.ref (w23_LESS Z))] [(.int (4 : Int32)), (.ref b2)])
  obtain ⟨c13, r13, q13, t13, u13, y13h, y13g⟩ := id F1_0
  have i13 : ¬ ((4 : Int32) < 0 ∨ c13.slots.size ≤ ((4 : Int32)).toNatClampNeg) := inb_of t13 ⟨by decide, by decide⟩
  refine own_step (fun _ k => X12.aaload hx (j := (4 : Int32)) (v := (.ref (w24_LESS_EQUAL Z))) (by rw [e12]; exact r13.1) (State.isArrayOf_alike hZ.alike r13.2.1) rfl r13.2.2 i13 (own_get t13 y13h i13 4 rfl) (g := (mkF m 16 #[.val (.ref (w14_GREATER_EQUAL Z)), .val (.ref b2), .val (.int (7 : Int32)), .val (.int (4 : Int32)), .val (.ref (w23_LESS Z))] [(.int (4 : Int32)), (.ref b2)])) rfl rfl (hb hby d1_16) _ k) ?_
  show own_Wp p e below _ T12 (mkF m 17 #[.val (.ref (w14_GREATER_EQUAL Z)), .val (.ref b2), .val (.int (7 : Int32)), .val (.int (4 : Int32)), .val (.ref (w23_LESS Z))] [(.ref (w24_LESS_EQUAL Z))])
  refine own_step (fun _ k => XS.astore X12.here hx rfl (hb hby d1_17) rfl rfl (l' := #[.val (.ref (w14_GREATER_EQUAL Z)), .val (.ref b2), .val (.int (7 : Int32)), .val (.int (4 : Int32)), .val (.ref (w24_LESS_EQUAL Z))]) rfl k) ?_
  show own_Wp p e below _ T12 (mkF m 19 #[.val (.ref (w14_GREATER_EQUAL Z)), .val (.ref b2), .val (.int (7 : Int32)), .val (.int (4 : Int32)), .val (.ref (w24_LESS_EQUAL Z))] [])
  refine own_step (fun _ k => XS.aload X12.here hx rfl (hb hby d1_19) rfl rfl k) ?_
  show own_Wp p e below _ T12 (mkF m 21 #[.val (.ref (w14_GREATER_EQUAL Z)), .val (.ref b2), .val (.int (7 : Int32)), .val (.int (4 : Int32)), .val (.ref (w24_LESS_EQUAL Z))] [(.ref (w24_LESS_EQUAL Z))])
  obtain ⟨T14, X14, e14, st14⟩ := getF X12 hx hZ hown (host := "") (Or.inl (hw _ (List.mem_of_getElem? (i := 69) rfl))) Via.refl e12 ((fl9 hw hA hS hF).ext O1.2) (g := (mkF m 21 #[.val (.ref (w14_GREATER_EQUAL Z)), .val (.ref b2), .val (.int (7 : Int32)), .val (.int (4 : Int32)), .val (.ref (w24_LESS_EQUAL Z))] [(.ref (w24_LESS_EQUAL Z))])) rfl rfl (hb hby d1_21)
  refine own_step st14 ?_
  show own_Wp p e below _ T14 (mkF m 24 #[.val (.ref (w14_GREATER_EQUAL Z)), .val (.ref b2), .val (.int (7 : Int32)), .val (.int (4 : Int32)), .val (.ref (w24_LESS_EQUAL Z))] [(.ref (w12_LESS_EQUAL Z))])
  refine own_step (fun _ k => XS.aloadN X14.here hx rfl (hb hby d1_24) rfl rfl k) ?_
  show own_Wp p e below _ T14 (mkF m 25 #[.val (.ref (w14_GREATER_EQUAL Z)), .val (.ref b2), .val (.int (7 : Int32)), .val (.int (4 : Int32)), .val (.ref (w24_LESS_EQUAL Z))] [(.ref (w14_GREATER_EQUAL Z)), (.ref (w12_LESS_EQUAL Z))])
  refine own_step (fun _ k => Jvm.RoadKit.acmp (g := (mkF m 25 #[.val (.ref (w14_GREATER_EQUAL Z)), .val (.ref b2), .val (.int (7 : Int32)), .val (.int (4 : Int32)), .val (.ref (w24_LESS_EQUAL Z))] [(.ref (w14_GREATER_EQUAL Z)), (.ref (w12_LESS_EQUAL Z))])) X14 hx rfl rfl rfl (pc0 := 25) (pc' := 34) (same := false) rfl (hb hby d1_25) rfl (decide_eq_false fun q => (Fld.ne (fl10 hw hA hS hF) (fl14 hw hA hS hF) (by decide)) (Value.ref.inj q)) (by decide) (by decide) k) ?_
  show own_Wp p e below _ T14 (mkF m 34 #[.val (.ref (w14_GREATER_EQUAL Z)), .val (.ref b2), .val (.int (7 : Int32)), .val (.int (4 : Int32)), .val (.ref (w24_LESS_EQUAL Z))] [])
  refine own_step (fun _ k => XS.iinc X14.here hx rfl (hb hby d1_34) rfl (l' := #[.val (.ref (w14_GREATER_EQUAL Z)), .val (.ref b2), .val (.int (7 : Int32)), .val (.int ((4 : Int32) + (1 : Int32))), .val (.ref (w24_LESS_EQUAL Z))]) rfl k) ?_
  show own_Wp p e below _ T14 (mkF m 37 #[.val (.ref (w14_GREATER_EQUAL Z)), .val (.ref b2), .val (.int (7 : Int32)), .val (.int ((4 : Int32) + (1 : Int32))), .val (.ref (w24_LESS_EQUAL Z))] [])
  rw [(by decide : ((4 : Int32) + (1 : Int32)) = (5 : Int32))]
  show own_Wp p e below _ T14 (mkF m 37 #[.val (.ref (w14_GREATER_EQUAL Z)), .val (.ref b2), .val (.int (7 : Int32)), .val (.int (5 : Int32)), .val (.ref (w24_LESS_EQUAL Z))] [])
  refine own_step (fun _ k => XS.goto X14.here hx rfl (pc0 := 37) (pc' := 9) rfl (hb hby d1_37) (by decide) (by decide) k) ?_
  show own_Wp p e below _ T14 (mkF m 9 #[.val (.ref (w14_GREATER_EQUAL Z)), .val (.ref b2), .val (.int (7 : Int32)), .val (.int (5 : Int32)), .val (.ref (w24_LESS_EQUAL Z))] [])
  refine own_step (fun _ k => XS.iloadN X14.here hx rfl (hb hby d1_9) rfl k) ?_
  show own_Wp p e below _ T14 (mkF m 10 #[.val (.ref (w14_GREATER_EQUAL Z)), .val (.ref b2), .val (.int (7 : Int32)), .val (.int (5 : Int32)), .val (.ref (w24_LESS_EQUAL Z))] [(.int (5 : Int32))])
  refine own_step (fun _ k => XS.iloadN X14.here hx rfl (hb hby d1_10) rfl k) ?_
  show own_Wp p e below _ T14 (mkF m 11 #[.val (.ref (w14_GREATER_EQUAL Z)), .val (.ref b2), .val (.int (7 : Int32)), .val (.int (5 : Int32)), .val (.ref (w24_LESS_EQUAL Z))] [(.int (7 : Int32)), (.int (5 : Int32))])
  refine own_step (fun _ k => XS.icmpNo X14.here hx rfl (hb hby d1_11) rfl (by decide) k) ?_
  show own_Wp p e below _ T14 (mkF m 14 #[.val (.ref (w14_GREATER_EQUAL Z)), .val (.ref b2), .val (.int (7 : Int32)), .val (.int (5 : Int32)), .val (.ref (w24_LESS_EQUAL Z))] [])
  refine own_step (fun _ k => XS.aloadN X14.here hx rfl (hb hby d1_14) rfl rfl k) ?_
  show own_Wp p e below _ T14 (mkF m 15 #[.val (.ref (w14_GREATER_EQUAL Z)), .val (.ref b2), .val (.int (7 : Int32)), .val (.int (5 : Int32)), .val (.ref (w24_LESS_EQUAL Z))] [(.ref b2)])
  refine own_step (fun _ k => XS.iloadN X14.here hx rfl (hb hby d1_15) rfl k) ?_
  show own_Wp p e below _ T14 (mkF m 16 #[.val (.ref (w14_GREATER_EQUAL Z)), .val (.ref b2), .val (.int (7 : Int32)), .val (.int (5 : Int32)), .val (.ref (w24_LESS_EQUAL Z))] [(.int (5 : Int32)), (.ref b2)])
  obtain ⟨c15, r15, q15, t15, u15, y15h, y15g⟩ := id F1_0
  have i15 : ¬ ((5 : Int32) < 0 ∨ c15.slots.size ≤ ((5 : Int32)).toNatClampNeg) := inb_of t15 ⟨by decide, by decide⟩
  refine own_step (fun _ k => X14.aaload hx (j := (5 : Int32)) (v := (.ref (w25_GREATER Z))) (by rw [e14]; exact r15.1) (State.isArrayOf_alike hZ.alike r15.2.1) rfl r15.2.2 i15 (own_get t15 y15h i15 5 rfl) (g := (mkF m 16 #[.val (.ref (w14_GREATER_EQUAL Z)), .val (.ref b2), .val (.int (7 : Int32)), .val (.int (5 : Int32)), .val (.ref (w24_LESS_EQUAL Z))] [(.int (5 : Int32)), (.ref b2)])) rfl rfl (hb hby d1_16) _ k) ?_
  show own_Wp p e below _ T14 (mkF m 17 #[.val (.ref (w14_GREATER_EQUAL Z)), .val (.ref b2), .val (.int (7 : Int32)), .val (.int (5 : Int32)), .val (.ref (w24_LESS_EQUAL Z))] [(.ref (w25_GREATER Z))])
  refine own_step (fun _ k => XS.astore X14.here hx rfl (hb hby d1_17) rfl rfl (l' := #[.val (.ref (w14_GREATER_EQUAL Z)), .val (.ref b2), .val (.int (7 : Int32)), .val (.int (5 : Int32)), .val (.ref (w25_GREATER Z))]) rfl k) ?_
  show own_Wp p e below _ T14 (mkF m 19 #[.val (.ref (w14_GREATER_EQUAL Z)), .val (.ref b2), .val (.int (7 : Int32)), .val (.int (5 : Int32)), .val (.ref (w25_GREATER Z))] [])
  refine own_step (fun _ k => XS.aload X14.here hx rfl (hb hby d1_19) rfl rfl k) ?_
  show own_Wp p e below _ T14 (mkF m 21 #[.val (.ref (w14_GREATER_EQUAL Z)), .val (.ref b2), .val (.int (7 : Int32)), .val (.int (5 : Int32)), .val (.ref (w25_GREATER Z))] [(.ref (w25_GREATER Z))])
  obtain ⟨T16, X16, e16, st16⟩ := getF X14 hx hZ hown (host := "") (Or.inl (hw _ (List.mem_of_getElem? (i := 69) rfl))) Via.refl e14 ((fl11 hw hA hS hF).ext O1.2) (g := (mkF m 21 #[.val (.ref (w14_GREATER_EQUAL Z)), .val (.ref b2), .val (.int (7 : Int32)), .val (.int (5 : Int32)), .val (.ref (w25_GREATER Z))] [(.ref (w25_GREATER Z))])) rfl rfl (hb hby d1_21)
  refine own_step st16 ?_
  show own_Wp p e below _ T16 (mkF m 24 #[.val (.ref (w14_GREATER_EQUAL Z)), .val (.ref b2), .val (.int (7 : Int32)), .val (.int (5 : Int32)), .val (.ref (w25_GREATER Z))] [(.ref (w15_GREATER Z))])
  refine own_step (fun _ k => XS.aloadN X16.here hx rfl (hb hby d1_24) rfl rfl k) ?_
  show own_Wp p e below _ T16 (mkF m 25 #[.val (.ref (w14_GREATER_EQUAL Z)), .val (.ref b2), .val (.int (7 : Int32)), .val (.int (5 : Int32)), .val (.ref (w25_GREATER Z))] [(.ref (w14_GREATER_EQUAL Z)), (.ref (w15_GREATER Z))])
  refine own_step (fun _ k => Jvm.RoadKit.acmp (g := (mkF m 25 #[.val (.ref (w14_GREATER_EQUAL Z)), .val (.ref b2), .val (.int (7 : Int32)), .val (.int (5 : Int32)), .val (.ref (w25_GREATER Z))] [(.ref (w14_GREATER_EQUAL Z)), (.ref (w15_GREATER Z))])) X16 hx rfl rfl rfl (pc0 := 25) (pc' := 34) (same := false) rfl (hb hby d1_25) rfl (decide_eq_false fun q => (Fld.ne (fl12 hw hA hS hF) (fl14 hw hA hS hF) (by decide)) (Value.ref.inj q)) (by decide) (by decide) k) ?_
  show own_Wp p e below _ T16 (mkF m 34 #[.val (.ref (w14_GREATER_EQUAL Z)), .val (.ref b2), .val (.int (7 : Int32)), .val (.int (5 : Int32)), .val (.ref (w25_GREATER Z))] [])
  refine own_step (fun _ k => XS.iinc X16.here hx rfl (hb hby d1_34) rfl (l' := #[.val (.ref (w14_GREATER_EQUAL Z)), .val (.ref b2), .val (.int (7 : Int32)), .val (.int ((5 : Int32) + (1 : Int32))), .val (.ref (w25_GREATER Z))]) rfl k) ?_
  show own_Wp p e below _ T16 (mkF m 37 #[.val (.ref (w14_GREATER_EQUAL Z)), .val (.ref b2), .val (.int (7 : Int32)), .val (.int ((5 : Int32) + (1 : Int32))), .val (.ref (w25_GREATER Z))] [])
  rw [(by decide : ((5 : Int32) + (1 : Int32)) = (6 : Int32))]
  show own_Wp p e below _ T16 (mkF m 37 #[.val (.ref (w14_GREATER_EQUAL Z)), .val (.ref b2), .val (.int (7 : Int32)), .val (.int (6 : Int32)), .val (.ref (w25_GREATER Z))] [])
  refine own_step (fun _ k => XS.goto X16.here hx rfl (pc0 := 37) (pc' := 9) rfl (hb hby d1_37) (by decide) (by decide) k) ?_
  show own_Wp p e below _ T16 (mkF m 9 #[.val (.ref (w14_GREATER_EQUAL Z)), .val (.ref b2), .val (.int (7 : Int32)), .val (.int (6 : Int32)), .val (.ref (w25_GREATER Z))] [])
  refine own_step (fun _ k => XS.iloadN X16.here hx rfl (hb hby d1_9) rfl k) ?_
  show own_Wp p e below _ T16 (mkF m 10 #[.val (.ref (w14_GREATER_EQUAL Z)), .val (.ref b2), .val (.int (7 : Int32)), .val (.int (6 : Int32)), .val (.ref (w25_GREATER Z))] [(.int (6 : Int32))])
  refine own_step (fun _ k => XS.iloadN X16.here hx rfl (hb hby d1_10) rfl k) ?_
  show own_Wp p e below _ T16 (mkF m 11 #[.val (.ref (w14_GREATER_EQUAL Z)), .val (.ref b2), .val (.int (7 : Int32)), .val (.int (6 : Int32)), .val (.ref (w25_GREATER Z))] [(.int (7 : Int32)), (.int (6 : Int32))])
  refine own_step (fun _ k => XS.icmpNo X16.here hx rfl (hb hby d1_11) rfl (by decide) k) ?_
  show own_Wp p e below _ T16 (mkF m 14 #[.val (.ref (w14_GREATER_EQUAL Z)), .val (.ref b2), .val (.int (7 : Int32)), .val (.int (6 : Int32)), .val (.ref (w25_GREATER Z))] [])
  refine own_step (fun _ k => XS.aloadN X16.here hx rfl (hb hby d1_14) rfl rfl k) ?_
  show own_Wp p e below _ T16 (mkF m 15 #[.val (.ref (w14_GREATER_EQUAL Z)), .val (.ref b2), .val (.int (7 : Int32)), .val (.int (6 : Int32)), .val (.ref (w25_GREATER Z))] [(.ref b2)])
  refine own_step (fun _ k => XS.iloadN X16.here hx rfl (hb hby d1_15) rfl k) ?_
  show own_Wp p e below _ T16 (mkF m 16 #[.val (.ref (w14_GREATER_EQUAL Z)), .val (.ref b2), .val (.int (7 : Int32)), .val (.int (6 : Int32)), .val (.ref (w25_GREATER Z))] [(.int (6 : Int32)), (.ref b2)])
  obtain ⟨c17, r17, q17, t17, u17, y17h, y17g⟩ := id F1_0
  have i17 : ¬ ((6 : Int32) < 0 ∨ c17.slots.size ≤ ((6 : Int32)).toNatClampNeg) := inb_of t17 ⟨by decide, by decide⟩
  refine own_step (fun _ k => X16.aaload hx (j := (6 : Int32)) (v := (.ref (w26_GREATER_EQUAL Z))) (by rw [e16]; exact r17.1) (State.isArrayOf_alike hZ.alike r17.2.1) rfl r17.2.2 i17 (own_get t17 y17h i17 6 rfl) (g := (mkF m 16 #[.val (.ref (w14_GREATER_EQUAL Z)), .val (.ref b2), .val (.int (7 : Int32)), .val (.int (6 : Int32)), .val (.ref (w25_GREATER Z))] [(.int (6 : Int32)), (.ref b2)])) rfl rfl (hb hby d1_16) _ k) ?_
  show own_Wp p e below _ T16 (mkF m 17 #[.val (.ref (w14_GREATER_EQUAL Z)), .val (.ref b2), .val (.int (7 : Int32)), .val (.int (6 : Int32)), .val (.ref (w25_GREATER Z))] [(.ref (w26_GREATER_EQUAL Z))])
  refine own_step (fun _ k => XS.astore X16.here hx rfl (hb hby d1_17) rfl rfl (l' := #[.val (.ref (w14_GREATER_EQUAL Z)), .val (.ref b2), .val (.int (7 : Int32)), .val (.int (6 : Int32)), .val (.ref (w26_GREATER_EQUAL Z))]) rfl k) ?_
  show own_Wp p e below _ T16 (mkF m 19 #[.val (.ref (w14_GREATER_EQUAL Z)), .val (.ref b2), .val (.int (7 : Int32)), .val (.int (6 : Int32)), .val (.ref (w26_GREATER_EQUAL Z))] [])
  refine own_step (fun _ k => XS.aload X16.here hx rfl (hb hby d1_19) rfl rfl k) ?_
  show own_Wp p e below _ T16 (mkF m 21 #[.val (.ref (w14_GREATER_EQUAL Z)), .val (.ref b2), .val (.int (7 : Int32)), .val (.int (6 : Int32)), .val (.ref (w26_GREATER_EQUAL Z))] [(.ref (w26_GREATER_EQUAL Z))])
  obtain ⟨T18, X18, e18, st18⟩ := getF X16 hx hZ hown (host := "") (Or.inl (hw _ (List.mem_of_getElem? (i := 69) rfl))) Via.refl e16 ((fl13 hw hA hS hF).ext O1.2) (g := (mkF m 21 #[.val (.ref (w14_GREATER_EQUAL Z)), .val (.ref b2), .val (.int (7 : Int32)), .val (.int (6 : Int32)), .val (.ref (w26_GREATER_EQUAL Z))] [(.ref (w26_GREATER_EQUAL Z))])) rfl rfl (hb hby d1_21)
  refine own_step st18 ?_
  show own_Wp p e below _ T18 (mkF m 24 #[.val (.ref (w14_GREATER_EQUAL Z)), .val (.ref b2), .val (.int (7 : Int32)), .val (.int (6 : Int32)), .val (.ref (w26_GREATER_EQUAL Z))] [(.ref (w14_GREATER_EQUAL Z))])
  refine own_step (fun _ k => XS.aloadN X18.here hx rfl (hb hby d1_24) rfl rfl k) ?_
  show own_Wp p e below _ T18 (mkF m 25 #[.val (.ref (w14_GREATER_EQUAL Z)), .val (.ref b2), .val (.int (7 : Int32)), .val (.int (6 : Int32)), .val (.ref (w26_GREATER_EQUAL Z))] [(.ref (w14_GREATER_EQUAL Z)), (.ref (w14_GREATER_EQUAL Z))])
  refine own_step (fun _ k => Jvm.RoadKit.acmp (g := (mkF m 25 #[.val (.ref (w14_GREATER_EQUAL Z)), .val (.ref b2), .val (.int (7 : Int32)), .val (.int (6 : Int32)), .val (.ref (w26_GREATER_EQUAL Z))] [(.ref (w14_GREATER_EQUAL Z)), (.ref (w14_GREATER_EQUAL Z))])) X18 hx rfl rfl rfl (pc0 := 25) (pc' := 28) (same := true) rfl (hb hby d1_25) rfl (decide_eq_true rfl) (by decide) (by decide) k) ?_
  show own_Wp p e below _ T18 (mkF m 28 #[.val (.ref (w14_GREATER_EQUAL Z)), .val (.ref b2), .val (.int (7 : Int32)), .val (.int (6 : Int32)), .val (.ref (w26_GREATER_EQUAL Z))] [])
  refine own_step (fun _ k => XS.aload X18.here hx rfl (hb hby d1_28) rfl rfl k) ?_
  show own_Wp p e below _ T18 (mkF m 30 #[.val (.ref (w14_GREATER_EQUAL Z)), .val (.ref b2), .val (.int (7 : Int32)), .val (.int (6 : Int32)), .val (.ref (w26_GREATER_EQUAL Z))] [(.ref (w26_GREATER_EQUAL Z))])
  obtain ⟨_, T19, L19, X19, hQ19, st19⟩ := own_callS X18 hx hZ hown (hw _ (List.mem_of_getElem? (i := 87) rfl)) (hw _ (List.mem_of_getElem? (i := 88) rfl)) (hw _ (List.mem_of_getElem? (i := 73) rfl)) (hw _ (List.mem_of_getElem? (i := 89) rfl)) (by decide) (rm6_7 l Z a0 hw hA hS hF [] (w26_GREATER_EQUAL Z) T1.heap n0 O1) (W := 0) (by decide) (by decide) [(.ref (w26_GREATER_EQUAL Z))] rfl (lenOf pd10 rfl) (Ls := #[.val (.ref (w14_GREATER_EQUAL Z)), .val (.ref b2), .val (.int (7 : Int32)), .val (.int (6 : Int32)), .val (.ref (w26_GREATER_EQUAL Z))]) (by rw [hml]; rfl) (rest := []) (Nat.le_of_eq rfl) (hb hby d1_30) e18 (by decide) (by decide)
  refine st19 _ ?_
  obtain ⟨b20, rfl, N19q, K19q, y19_0, F19_0, F19_1⟩ := hQ19
  have N19 := Fr.app N1 N19q
  have g19_0 : n0 ≤ b20 := Nat.le_trans (O1.1 ▸ O1.2.1) y19_0
  have ne19_0_0 : b2 ≠ b20 := Nat.ne_of_lt (Nat.lt_of_lt_of_le F1_0.lt y19_0)
  have u19_0 : h0.size ≤ b20 := Nat.le_trans (K1.1) y19_0
  have O19 := O1.keep K19q all0
  have K19 : Keep h0 T19.heap [] := Keep.trans K1 K19q all0
  show own_Wp p e below _ T19 (mkF m 33 #[.val (.ref (w14_GREATER_EQUAL Z)), .val (.ref b2), .val (.int (7 : Int32)), .val (.int (6 : Int32)), .val (.ref (w26_GREATER_EQUAL Z))] [(.ref b20)])
  exact own_retA X19 hx hret rfl rfl hlk (hb hby d1_33) (by decide) (by decide) (⟨b20, rfl, N19, K19, u19_0, F19_0, F19_1⟩)

set_option maxRecDepth 65536 in
set_option maxHeartbeats 40000000 in
theorem rm4_24 (l : Launch) (Z : State) (a0 : Array Value) (hw : ∀ d ∈ tables_1, d.before a0 Z = true) (hA : ∀ d ∈ own_flat narrow_1, d.value a0 Z none Z [] = some true) (hS : ∀ d ∈ jdkStatics_1, d.before a0 Z = true) (hF : Fit Z) (ws : List Jvm.Cond) (px1 : Addr) (h0 : Heap) (n0 : Nat) (O0 : Old Z n0 h0) (P1 : Fld Z h0 px1 "java/util/Optional" "value" "Ljava/lang/Object;" (.ref (w26_GREATER_EQUAL Z))) :
    own_Met l Z (⟨"java/util/Optional", "orElse", "(Ljava/lang/Object;)Ljava/lang/Object;"⟩ : MethodName) (Jvm.Cond.code (⟨"java/util/Optional", "orElse", "(Ljava/lang/Object;)Ljava/lang/Object;"⟩ : MethodName) jdk_32_method_15_code 2 (some (.object "java/lang/Object"))) ws ({ frames := 0, cells := 0, slots := 0, locals := 0 } : Room) #[(.ref px1), .null] h0 (fun v h L => (v = some (.ref (w26_GREATER_EQUAL Z)) ∧ Fr n0 L ∧ h = h0)) := by
  refine own_met (own := "java/util/Optional") (plainFor_of_name pn2) rfl ?_
  intro p e s m below meth c s₁ hx hby hml hown hnm hret hlk hZ e0 X0
  refine own_cast (g' := (mkF m 0 #[.val (.ref px1), .val .null] [])) (by first | (simp [entryFrame, mkF, argsToLocals, Value.category]; done) | rfl) ?_
  refine own_step (fun _ k => XS.aloadN X0.here hx rfl (hb hby d4_0) rfl rfl k) ?_
  show own_Wp p e below _ s₁ (mkF m 1 #[.val (.ref px1), .val .null] [(.ref px1)])
  obtain ⟨T1, X1, e1, st1⟩ := getF X0 hx hZ hown (host := "") (Or.inl (hw _ (List.mem_of_getElem? (i := 81) rfl))) Via.refl e0 P1 (g := (mkF m 1 #[.val (.ref px1), .val .null] [(.ref px1)])) rfl rfl (hb hby d4_1)
  refine own_step st1 ?_
  show own_Wp p e below _ T1 (mkF m 4 #[.val (.ref px1), .val .null] [(.ref (w26_GREATER_EQUAL Z))])
  refine own_step (fun _ k => XS.ifnullNo X1.here hx rfl (hb hby d4_4) rfl k) ?_
  show own_Wp p e below _ T1 (mkF m 7 #[.val (.ref px1), .val .null] [])
  refine own_step (fun _ k => XS.aloadN X1.here hx rfl (hb hby d4_7) rfl rfl k) ?_
  show own_Wp p e below _ T1 (mkF m 8 #[.val (.ref px1), .val .null] [(.ref px1)])
  obtain ⟨T2, X2, e2, st2⟩ := getF X1 hx hZ hown (host := "") (Or.inl (hw _ (List.mem_of_getElem? (i := 81) rfl))) Via.refl e1 P1 (g := (mkF m 8 #[.val (.ref px1), .val .null] [(.ref px1)])) rfl rfl (hb hby d4_8)
  refine own_step st2 ?_
  show own_Wp p e below _ T2 (mkF m 11 #[.val (.ref px1), .val .null] [(.ref (w26_GREATER_EQUAL Z))])
  refine own_step (fun _ k => XS.goto X2.here hx rfl (pc0 := 11) (pc' := 15) rfl (hb hby d4_11) (by decide) (by decide) k) ?_
  show own_Wp p e below _ T2 (mkF m 15 #[.val (.ref px1), .val .null] [(.ref (w26_GREATER_EQUAL Z))])
  exact own_retA X2 hx hret rfl rfl hlk (hb hby d4_15) (by decide) (by decide) (by rw [e2]; exact ⟨rfl, (Fr.nil n0), rfl⟩)

set_option maxRecDepth 65536 in
set_option maxHeartbeats 40000000 in
theorem rm5_25 (l : Launch) (Z : State) (a0 : Array Value) (hw : ∀ d ∈ tables_1, d.before a0 Z = true) (hA : ∀ d ∈ own_flat narrow_1, d.value a0 Z none Z [] = some true) (hS : ∀ d ∈ jdkStatics_1, d.before a0 Z = true) (hF : Fit Z) (ws : List Jvm.Cond) (h0 : Heap) (n0 : Nat) (O0 : Old Z n0 h0) :
    own_Met l Z (⟨"com/example/proviso/proviso/expression/ComparisonOperatorSpelledByPinLaw", "expected", "(Lcom/example/proviso/proviso/expression/Lexer$Kind;)Lcom/example/proviso/proviso/expression/ComparisonOperator;"⟩ : MethodName) (Jvm.Cond.code (⟨"com/example/proviso/proviso/expression/ComparisonOperatorSpelledByPinLaw", "expected", "(Lcom/example/proviso/proviso/expression/Lexer$Kind;)Lcom/example/proviso/proviso/expression/ComparisonOperator;"⟩ : MethodName) method_3_code 1 (some (.object "com/example/proviso/proviso/expression/ComparisonOperator"))) ws ({ frames := 0, cells := 0, slots := 0, locals := 0 } : Room) #[(.ref (w14_GREATER_EQUAL Z))] h0 (fun v h L => (v = some (.ref (w26_GREATER_EQUAL Z)) ∧ Fr n0 L ∧ h = h0)) := by
  refine own_met (own := "com/example/proviso/proviso/expression/ComparisonOperatorSpelledByPinLaw") (plainFor_of_name pn6) rfl ?_
  intro p e s m below meth c s₁ hx hby hml hown hnm hret hlk hZ e0 X0
  refine own_cast (g' := (mkF m 0 #[.val (.ref (w14_GREATER_EQUAL Z))] [])) (by first | (simp [entryFrame, mkF, argsToLocals, Value.category]; done) | rfl) ?_
  refine own_step (fun _ k => XS.aloadN X0.here hx rfl (hb hby d5_0) rfl rfl k) ?_
  show own_Wp p e below _ s₁ (mkF m 1 #[.val (.ref (w14_GREATER_EQUAL Z))] [(.ref (w14_GREATER_EQUAL Z))])
  obtain ⟨T1, X1, e1, st1⟩ := getS2 X0 hx hZ hown (host := "") (Or.inl (hw _ (List.mem_of_getElem? (i := 22) rfl))) Via.refl e0 ((st_w9_EQUAL hw hA hS hF).ext O0.2) (g := (mkF m 1 #[.val (.ref (w14_GREATER_EQUAL Z))] [(.ref (w14_GREATER_EQUAL Z))])) rfl (hb hby d5_1)
  refine own_step st1 ?_
  show own_Wp p e below _ T1 (mkF m 4 #[.val (.ref (w14_GREATER_EQUAL Z))] [(.ref (w9_EQUAL Z)), (.ref (w14_GREATER_EQUAL Z))])
  refine own_step (fun _ k => Jvm.RoadKit.acmp (g := (mkF m 4 #[.val (.ref (w14_GREATER_EQUAL Z))] [(.ref (w9_EQUAL Z)), (.ref (w14_GREATER_EQUAL Z))])) X1 hx rfl rfl rfl (pc0 := 4) (pc' := 11) (same := false) rfl (hb hby d5_4) rfl (decide_eq_false fun q => (Fld.ne (fl14 hw hA hS hF) (fl1 hw hA hS hF) (by decide)) (Value.ref.inj q)) (by decide) (by decide) k) ?_
  show own_Wp p e below _ T1 (mkF m 11 #[.val (.ref (w14_GREATER_EQUAL Z))] [])
  refine own_step (fun _ k => XS.aloadN X1.here hx rfl (hb hby d5_11) rfl rfl k) ?_
  show own_Wp p e below _ T1 (mkF m 12 #[.val (.ref (w14_GREATER_EQUAL Z))] [(.ref (w14_GREATER_EQUAL Z))])
  obtain ⟨T2, X2, e2, st2⟩ := getS2 X1 hx hZ hown (host := "") (Or.inl (hw _ (List.mem_of_getElem? (i := 24) rfl))) Via.refl e1 ((st_w10_NOT_EQUAL hw hA hS hF).ext O0.2) (g := (mkF m 12 #[.val (.ref (w14_GREATER_EQUAL Z))] [(.ref (w14_GREATER_EQUAL Z))])) rfl (hb hby d5_12)
  refine own_step st2 ?_
  show own_Wp p e below _ T2 (mkF m 15 #[.val (.ref (w14_GREATER_EQUAL Z))] [(.ref (w10_NOT_EQUAL Z)), (.ref (w14_GREATER_EQUAL Z))])
  refine own_step (fun _ k => Jvm.RoadKit.acmp (g := (mkF m 15 #[.val (.ref (w14_GREATER_EQUAL Z))] [(.ref (w10_NOT_EQUAL Z)), (.ref (w14_GREATER_EQUAL Z))])) X2 hx rfl rfl rfl (pc0 := 15) (pc' := 22) (same := false) rfl (hb hby d5_15) rfl (decide_eq_false fun q => (Fld.ne (fl14 hw hA hS hF) (fl4 hw hA hS hF) (by decide)) (Value.ref.inj q)) (by decide) (by decide) k) ?_
  show own_Wp p e below _ T2 (mkF m 22 #[.val (.ref (w14_GREATER_EQUAL Z))] [])
  refine own_step (fun _ k => XS.aloadN X2.here hx rfl (hb hby d5_22) rfl rfl k) ?_
  show own_Wp p e below _ T2 (mkF m 23 #[.val (.ref (w14_GREATER_EQUAL Z))] [(.ref (w14_GREATER_EQUAL Z))])
  obtain ⟨T3, X3, e3, st3⟩ := getS2 X2 hx hZ hown (host := "") (Or.inl (hw _ (List.mem_of_getElem? (i := 26) rfl))) Via.refl e2 ((st_w11_MATCH hw hA hS hF).ext O0.2) (g := (mkF m 23 #[.val (.ref (w14_GREATER_EQUAL Z))] [(.ref (w14_GREATER_EQUAL Z))])) rfl (hb hby d5_23)
  refine own_step st3 ?_
  show own_Wp p e below _ T3 (mkF m 26 #[.val (.ref (w14_GREATER_EQUAL Z))] [(.ref (w11_MATCH Z)), (.ref (w14_GREATER_EQUAL Z))])
  refine own_step (fun _ k => Jvm.RoadKit.acmp (g := (mkF m 26 #[.val (.ref (w14_GREATER_EQUAL Z))] [(.ref (w11_MATCH Z)), (.ref (w14_GREATER_EQUAL Z))])) X3 hx rfl rfl rfl (pc0 := 26) (pc' := 33) (same := false) rfl (hb hby d5_26) rfl (decide_eq_false fun q => (Fld.ne (fl14 hw hA hS hF) (fl6 hw hA hS hF) (by decide)) (Value.ref.inj q)) (by decide) (by decide) k) ?_
  show own_Wp p e below _ T3 (mkF m 33 #[.val (.ref (w14_GREATER_EQUAL Z))] [])
  refine own_step (fun _ k => XS.aloadN X3.here hx rfl (hb hby d5_33) rfl rfl k) ?_
  show own_Wp p e below _ T3 (mkF m 34 #[.val (.ref (w14_GREATER_EQUAL Z))] [(.ref (w14_GREATER_EQUAL Z))])
  obtain ⟨T4, X4, e4, st4⟩ := getS2 X3 hx hZ hown (host := "") (Or.inl (hw _ (List.mem_of_getElem? (i := 30) rfl))) Via.refl e3 ((st_w13_LESS hw hA hS hF).ext O0.2) (g := (mkF m 34 #[.val (.ref (w14_GREATER_EQUAL Z))] [(.ref (w14_GREATER_EQUAL Z))])) rfl (hb hby d5_34)
  refine own_step st4 ?_
  show own_Wp p e below _ T4 (mkF m 37 #[.val (.ref (w14_GREATER_EQUAL Z))] [(.ref (w13_LESS Z)), (.ref (w14_GREATER_EQUAL Z))])
  refine own_step (fun _ k => Jvm.RoadKit.acmp (g := (mkF m 37 #[.val (.ref (w14_GREATER_EQUAL Z))] [(.ref (w13_LESS Z)), (.ref (w14_GREATER_EQUAL Z))])) X4 hx rfl rfl rfl (pc0 := 37) (pc' := 44) (same := false) rfl (hb hby d5_37) rfl (decide_eq_false fun q => (Fld.ne (fl14 hw hA hS hF) (fl8 hw hA hS hF) (by decide)) (Value.ref.inj q)) (by decide) (by decide) k) ?_
  show own_Wp p e below _ T4 (mkF m 44 #[.val (.ref (w14_GREATER_EQUAL Z))] [])
  refine own_step (fun _ k => XS.aloadN X4.here hx rfl (hb hby d5_44) rfl rfl k) ?_
  show own_Wp p e below _ T4 (mkF m 45 #[.val (.ref (w14_GREATER_EQUAL Z))] [(.ref (w14_GREATER_EQUAL Z))])
  obtain ⟨T5, X5, e5, st5⟩ := getS2 X4 hx hZ hown (host := "") (Or.inl (hw _ (List.mem_of_getElem? (i := 28) rfl))) Via.refl e4 ((st_w12_LESS_EQUAL hw hA hS hF).ext O0.2) (g := (mkF m 45 #[.val (.ref (w14_GREATER_EQUAL Z))] [(.ref (w14_GREATER_EQUAL Z))])) rfl (hb hby d5_45)
  refine own_step st5 ?_
  show own_Wp p e below _ T5 (mkF m 48 #[.val (.ref (w14_GREATER_EQUAL Z))] [(.ref (w12_LESS_EQUAL Z)), (.ref (w14_GREATER_EQUAL Z))])
  refine own_step (fun _ k => Jvm.RoadKit.acmp (g := (mkF m 48 #[.val (.ref (w14_GREATER_EQUAL Z))] [(.ref (w12_LESS_EQUAL Z)), (.ref (w14_GREATER_EQUAL Z))])) X5 hx rfl rfl rfl (pc0 := 48) (pc' := 55) (same := false) rfl (hb hby d5_48) rfl (decide_eq_false fun q => (Fld.ne (fl14 hw hA hS hF) (fl10 hw hA hS hF) (by decide)) (Value.ref.inj q)) (by decide) (by decide) k) ?_
  show own_Wp p e below _ T5 (mkF m 55 #[.val (.ref (w14_GREATER_EQUAL Z))] [])
  refine own_step (fun _ k => XS.aloadN X5.here hx rfl (hb hby d5_55) rfl rfl k) ?_
  show own_Wp p e below _ T5 (mkF m 56 #[.val (.ref (w14_GREATER_EQUAL Z))] [(.ref (w14_GREATER_EQUAL Z))])
  obtain ⟨T6, X6, e6, st6⟩ := getS2 X5 hx hZ hown (host := "") (Or.inl (hw _ (List.mem_of_getElem? (i := 34) rfl))) Via.refl e5 ((st_w15_GREATER hw hA hS hF).ext O0.2) (g := (mkF m 56 #[.val (.ref (w14_GREATER_EQUAL Z))] [(.ref (w14_GREATER_EQUAL Z))])) rfl (hb hby d5_56)
  refine own_step st6 ?_
  show own_Wp p e below _ T6 (mkF m 59 #[.val (.ref (w14_GREATER_EQUAL Z))] [(.ref (w15_GREATER Z)), (.ref (w14_GREATER_EQUAL Z))])
  refine own_step (fun _ k => Jvm.RoadKit.acmp (g := (mkF m 59 #[.val (.ref (w14_GREATER_EQUAL Z))] [(.ref (w15_GREATER Z)), (.ref (w14_GREATER_EQUAL Z))])) X6 hx rfl rfl rfl (pc0 := 59) (pc' := 66) (same := false) rfl (hb hby d5_59) rfl (decide_eq_false fun q => (Fld.ne (fl14 hw hA hS hF) (fl12 hw hA hS hF) (by decide)) (Value.ref.inj q)) (by decide) (by decide) k) ?_
  show own_Wp p e below _ T6 (mkF m 66 #[.val (.ref (w14_GREATER_EQUAL Z))] [])
  refine own_step (fun _ k => XS.aloadN X6.here hx rfl (hb hby d5_66) rfl rfl k) ?_
  show own_Wp p e below _ T6 (mkF m 67 #[.val (.ref (w14_GREATER_EQUAL Z))] [(.ref (w14_GREATER_EQUAL Z))])
  obtain ⟨T7, X7, e7, st7⟩ := getS2 X6 hx hZ hown (host := "") (Or.inl (hw _ (List.mem_of_getElem? (i := 32) rfl))) Via.refl e6 ((st_w14_GREATER_EQUAL hw hA hS hF).ext O0.2) (g := (mkF m 67 #[.val (.ref (w14_GREATER_EQUAL Z))] [(.ref (w14_GREATER_EQUAL Z))])) rfl (hb hby d5_67)
  refine own_step st7 ?_
  show own_Wp p e below _ T7 (mkF m 70 #[.val (.ref (w14_GREATER_EQUAL Z))] [(.ref (w14_GREATER_EQUAL Z)), (.ref (w14_GREATER_EQUAL Z))])
  refine own_step (fun _ k => Jvm.RoadKit.acmp (g := (mkF m 70 #[.val (.ref (w14_GREATER_EQUAL Z))] [(.ref (w14_GREATER_EQUAL Z)), (.ref (w14_GREATER_EQUAL Z))])) X7 hx rfl rfl rfl (pc0 := 70) (pc' := 73) (same := true) rfl (hb hby d5_70) rfl (decide_eq_true rfl) (by decide) (by decide) k) ?_
  show own_Wp p e below _ T7 (mkF m 73 #[.val (.ref (w14_GREATER_EQUAL Z))] [])
  obtain ⟨T8, X8, e8, st8⟩ := getS2 X7 hx hZ hown (host := "") (Or.inl (hw _ (List.mem_of_getElem? (i := 108) rfl))) Via.refl e7 ((st_w26_GREATER_EQUAL hw hA hS hF).ext O0.2) (g := (mkF m 73 #[.val (.ref (w14_GREATER_EQUAL Z))] [])) rfl (hb hby d5_73)
  refine own_step st8 ?_
  show own_Wp p e below _ T8 (mkF m 76 #[.val (.ref (w14_GREATER_EQUAL Z))] [(.ref (w26_GREATER_EQUAL Z))])
  exact own_retA X8 hx hret rfl rfl hlk (hb hby d5_76) (by decide) (by decide) (by rw [e8]; exact ⟨rfl, (Fr.nil n0), rfl⟩)

set_option maxRecDepth 65536 in
set_option maxHeartbeats 40000000 in
theorem rm1_26 (l : Launch) (Z : State) (a0 : Array Value) (hw : ∀ d ∈ tables_1, d.before a0 Z = true) (hA : ∀ d ∈ own_flat narrow_1, d.value a0 Z none Z [] = some true) (hS : ∀ d ∈ jdkStatics_1, d.before a0 Z = true) (hF : Fit Z) (ws : List Jvm.Cond) (h0 : Heap) (n0 : Nat) (O0 : Old Z n0 h0) :
    own_Met l Z (⟨"com/example/proviso/proviso/expression/ComparisonOperator", "spelledBy", "(Lcom/example/proviso/proviso/expression/Lexer$Kind;)Ljava/util/Optional;"⟩ : MethodName) (Jvm.Cond.code (⟨"com/example/proviso/proviso/expression/ComparisonOperator", "spelledBy", "(Lcom/example/proviso/proviso/expression/Lexer$Kind;)Ljava/util/Optional;"⟩ : MethodName) prog_2_method_4_code 5 (some (.object "java/util/Optional"))) ws ({ frames := 3, cells := 2, slots := 8, locals := 38 } : Room) #[(.ref (w15_GREATER Z))] h0 (fun v h L => (∃ (b18 : Addr), v = some (.ref b18) ∧ Fr n0 L ∧ Keep h0 h [] ∧ h0.size ≤ b18 ∧ Exa Z h b18 "java/util/Optional" ∧ Fld Z h b18 "java/util/Optional" "value" "Ljava/lang/Object;" (.ref (w25_GREATER Z)))) := by
  refine own_met (own := "com/example/proviso/proviso/expression/ComparisonOperator") (plainFor_of_name pn0) rfl ?_
  intro p e s m below meth c s₁ hx hby hml hown hnm hret hlk hZ e0 X0
  refine own_cast (g' := (mkF m 0 #[.val (.ref (w15_GREATER Z)), .unset, .unset, .unset, .unset] [])) (by first | (simp [entryFrame, mkF, argsToLocals, Value.category]; done) | rfl) ?_
  obtain ⟨_, T1, L1, X1, hQ1, st1⟩ := own_callS X0 hx hZ hown (hw _ (List.mem_of_getElem? (i := 47) rfl)) (hw _ (List.mem_of_getElem? (i := 48) rfl)) (hw _ (List.mem_of_getElem? (i := 45) rfl)) (hw _ (List.mem_of_getElem? (i := 49) rfl)) (by decide) (rm2_0 l Z a0 hw hA hS hF [] h0 n0 O0) (W := 0) (by decide) (by decide) [] rfl (lenOf pd1 rfl) (Ls := #[.val (.ref (w15_GREATER Z)), .unset, .unset, .unset, .unset]) (by rw [hml]; rfl) (rest := []) (Nat.le_of_eq rfl) (hb hby d1_0) e0 (by decide) (by decide)
  refine st1 _ ?_
  obtain ⟨b2, k3, rfl, N1q, K1q, y1_0, F1_0, F1_1⟩ := hQ1
  have N1 := Fr.app (Fr.nil n0) N1q
  have g1_0 : n0 ≤ b2 := Nat.le_trans (O0.1 ▸ O0.2.1) y1_0
  have u1_0 : h0.size ≤ b2 := Nat.le_trans (Nat.le_refl _) y1_0
  have O1 := O0.keep K1q all0
  have K1 : Keep h0 T1.heap [] := Keep.trans (Keep.refl h0 []) K1q all0
  show own_Wp p e below _ T1 (mkF m 3 #[.val (.ref (w15_GREATER Z)), .unset, .unset, .unset, .unset] [(.ref b2)])
  refine own_step (fun _ k => XS.astoreN X1.here hx rfl (hb hby d1_3) rfl rfl (l' := #[.val (.ref (w15_GREATER Z)), .val (.ref b2), .unset, .unset, .unset]) rfl k) ?_
  show own_Wp p e below _ T1 (mkF m 4 #[.val (.ref (w15_GREATER Z)), .val (.ref b2), .unset, .unset, .unset] [])
  refine own_step (fun _ k => XS.aloadN X1.here hx rfl (hb hby d1_4) rfl rfl k) ?_
  show own_Wp p e below _ T1 (mkF m 5 #[.val (.ref (w15_GREATER Z)), .val (.ref b2), .unset, .unset, .unset] [(.ref b2)])
  obtain ⟨c4, r4, q4, t4, u4, y4h, y4g⟩ := id F1_0
  refine own_step (fun _ k => X1.arraylength hx r4.1 (State.isArrayOf_alike hZ.alike r4.2.1) (g := (mkF m 5 #[.val (.ref (w15_GREATER Z)), .val (.ref b2), .unset, .unset, .unset] [(.ref b2)])) rfl rfl (hb hby d1_5) _ k) ?_
  rw [len_of t4 u4]
  show own_Wp p e below _ T1 (mkF m 6 #[.val (.ref (w15_GREATER Z)), .val (.ref b2), .unset, .unset, .unset] [(.int (7 : Int32))])
  refine own_step (fun _ k => XS.istoreN X1.here hx rfl (hb hby d1_6) rfl (l' := #[.val (.ref (w15_GREATER Z)), .val (.ref b2), .val (.int (7 : Int32)), .unset, .unset]) rfl k) ?_
  show own_Wp p e below _ T1 (mkF m 7 #[.val (.ref (w15_GREATER Z)), .val (.ref b2), .val (.int (7 : Int32)), .unset, .unset] [])
  refine own_step (fun _ k => XS.iconst X1.here hx rfl (hb hby d1_7) k) ?_
  show own_Wp p e below _ T1 (mkF m 8 #[.val (.ref (w15_GREATER Z)), .val (.ref b2), .val (.int (7 : Int32)), .unset, .unset] [(.int (0 : Int32))])
  refine own_step (fun _ k => XS.istoreN X1.here hx rfl (hb hby d1_8) rfl (l' := #[.val (.ref (w15_GREATER Z)), .val (.ref b2), .val (.int (7 : Int32)), .val (.int (0 : Int32)), .unset]) rfl k) ?_
  show own_Wp p e below _ T1 (mkF m 9 #[.val (.ref (w15_GREATER Z)), .val (.ref b2), .val (.int (7 : Int32)), .val (.int (0 : Int32)), .unset] [])
  refine own_step (fun _ k => XS.iloadN X1.here hx rfl (hb hby d1_9) rfl k) ?_
  show own_Wp p e below _ T1 (mkF m 10 #[.val (.ref (w15_GREATER Z)), .val (.ref b2), .val (.int (7 : Int32)), .val (.int (0 : Int32)), .unset] [(.int (0 : Int32))])
  refine own_step (fun _ k => XS.iloadN X1.here hx rfl (hb hby d1_10) rfl k) ?_
  show own_Wp p e below _ T1 (mkF m 11 #[.val (.ref (w15_GREATER Z)), .val (.ref b2), .val (.int (7 : Int32)), .val (.int (0 : Int32)), .unset] [(.int (7 : Int32)), (.int (0 : Int32))])
  refine own_step (fun _ k => XS.icmpNo X1.here hx rfl (hb hby d1_11) rfl (by decide) k) ?_
  show own_Wp p e below _ T1 (mkF m 14 #[.val (.ref (w15_GREATER Z)), .val (.ref b2), .val (.int (7 : Int32)), .val (.int (0 : Int32)), .unset] [])
  refine own_step (fun _ k => XS.aloadN X1.here hx rfl (hb hby d1_14) rfl rfl k) ?_
  show own_Wp p e below _ T1 (mkF m 15 #[.val (.ref (w15_GREATER Z)), .val (.ref b2), .val (.int (7 : Int32)), .val (.int (0 : Int32)), .unset] [(.ref b2)])
  refine own_step (fun _ k => XS.iloadN X1.here hx rfl (hb hby d1_15) rfl k) ?_
  show own_Wp p e below _ T1 (mkF m 16 #[.val (.ref (w15_GREATER Z)), .val (.ref b2), .val (.int (7 : Int32)), .val (.int (0 : Int32)), .unset] [(.int (0 : Int32)), (.ref b2)])
  obtain ⟨c5, r5, q5, t5, u5, y5h, y5g⟩ := id F1_0
  have i5 : ¬ ((0 : Int32) < 0 ∨ c5.slots.size ≤ ((0 : Int32)).toNatClampNeg) := inb_of t5 ⟨by decide, by decide⟩
  refine own_step (fun _ k => X1.aaload hx (j := (0 : Int32)) (v := (.ref (w20_EQUAL Z))) r5.1 (State.isArrayOf_alike hZ.alike r5.2.1) rfl r5.2.2 i5 (own_get t5 y5h i5 0 rfl) (g := (mkF m 16 #[.val (.ref (w15_GREATER Z)), .val (.ref b2), .val (.int (7 : Int32)), .val (.int (0 : Int32)), .unset] [(.int (0 : Int32)), (.ref b2)])) rfl rfl (hb hby d1_16) _ k) ?_
  show own_Wp p e below _ T1 (mkF m 17 #[.val (.ref (w15_GREATER Z)), .val (.ref b2), .val (.int (7 : Int32)), .val (.int (0 : Int32)), .unset] [(.ref (w20_EQUAL Z))])
  refine own_step (fun _ k => XS.astore X1.here hx rfl (hb hby d1_17) rfl rfl (l' := #[.val (.ref (w15_GREATER Z)), .val (.ref b2), .val (.int (7 : Int32)), .val (.int (0 : Int32)), .val (.ref (w20_EQUAL Z))]) rfl k) ?_
  show own_Wp p e below _ T1 (mkF m 19 #[.val (.ref (w15_GREATER Z)), .val (.ref b2), .val (.int (7 : Int32)), .val (.int (0 : Int32)), .val (.ref (w20_EQUAL Z))] [])
  refine own_step (fun _ k => XS.aload X1.here hx rfl (hb hby d1_19) rfl rfl k) ?_
  show own_Wp p e below _ T1 (mkF m 21 #[.val (.ref (w15_GREATER Z)), .val (.ref b2), .val (.int (7 : Int32)), .val (.int (0 : Int32)), .val (.ref (w20_EQUAL Z))] [(.ref (w20_EQUAL Z))])
  obtain ⟨T6, X6, e6, st6⟩ := getF X1 hx hZ hown (host := "") (Or.inl (hw _ (List.mem_of_getElem? (i := 69) rfl))) Via.refl rfl ((fl0 hw hA hS hF).ext O1.2) (g := (mkF m 21 #[.val (.ref (w15_GREATER Z)), .val (.ref b2), .val (.int (7 : Int32)), .val (.int (0 : Int32)), .val (.ref (w20_EQUAL Z))] [(.ref (w20_EQUAL Z))])) rfl rfl (hb hby d1_21)
  refine own_step st6 ?_
  show own_Wp p e below _ T6 (mkF m 24 #[.val (.ref (w15_GREATER Z)), .val (.ref b2), .val (.int (7 : Int32)), .val (.int (0 : Int32)), .val (.ref (w20_EQUAL Z))] [(.ref (w9_EQUAL Z))])
  refine own_step (fun _ k => XS.aloadN X6.here hx rfl (hb hby d1_24) rfl rfl k) ?_
  show own_Wp p e below _ T6 (mkF m 25 #[.val (.ref (w15_GREATER Z)), .val (.ref b2), .val (.int (7 : Int32)), .val (.int (0 : Int32)), .val (.ref (w20_EQUAL Z))] [(.ref (w15_GREATER Z)), (.ref (w9_EQUAL Z))])
  refine own_step (fun _ k => Jvm.RoadKit.acmp (g := (mkF m 25 #[.val (.ref (w15_GREATER Z)), .val (.ref b2), .val (.int (7 : Int32)), .val (.int (0 : Int32)), .val (.ref (w20_EQUAL Z))] [(.ref (w15_GREATER Z)), (.ref (w9_EQUAL Z))])) X6 hx rfl rfl rfl (pc0 := 25) (pc' := 34) (same := false) rfl (hb hby d1_25) rfl (decide_eq_false fun q => (Fld.ne (fl1 hw hA hS hF) (fl12 hw hA hS hF) (by decide)) (Value.ref.inj q)) (by decide) (by decide) k) ?_
  show own_Wp p e below _ T6 (mkF m 34 #[.val (.ref (w15_GREATER Z)), .val (.ref b2), .val (.int (7 : Int32)), .val (.int (0 : Int32)), .val (.ref (w20_EQUAL Z))] [])
  refine own_step (fun _ k => XS.iinc X6.here hx rfl (hb hby d1_34) rfl (l' := #[.val (.ref (w15_GREATER Z)), .val (.ref b2), .val (.int (7 : Int32)), .val (.int ((0 : Int32) + (1 : Int32))), .val (.ref (w20_EQUAL Z))]) rfl k) ?_
  show own_Wp p e below _ T6 (mkF m 37 #[.val (.ref (w15_GREATER Z)), .val (.ref b2), .val (.int (7 : Int32)), .val (.int ((0 : Int32) + (1 : Int32))), .val (.ref (w20_EQUAL Z))] [])
  rw [(by decide : ((0 : Int32) + (1 : Int32)) = (1 : Int32))]
  show own_Wp p e below _ T6 (mkF m 37 #[.val (.ref (w15_GREATER Z)), .val (.ref b2), .val (.int (7 : Int32)), .val (.int (1 : Int32)), .val (.ref (w20_EQUAL Z))] [])
  refine own_step (fun _ k => XS.goto X6.here hx rfl (pc0 := 37) (pc' := 9) rfl (hb hby d1_37) (by decide) (by decide) k) ?_
  show own_Wp p e below _ T6 (mkF m 9 #[.val (.ref (w15_GREATER Z)), .val (.ref b2), .val (.int (7 : Int32)), .val (.int (1 : Int32)), .val (.ref (w20_EQUAL Z))] [])
  refine own_step (fun _ k => XS.iloadN X6.here hx rfl (hb hby d1_9) rfl k) ?_
  show own_Wp p e below _ T6 (mkF m 10 #[.val (.ref (w15_GREATER Z)), .val (.ref b2), .val (.int (7 : Int32)), .val (.int (1 : Int32)), .val (.ref (w20_EQUAL Z))] [(.int (1 : Int32))])
  refine own_step (fun _ k => XS.iloadN X6.here hx rfl (hb hby d1_10) rfl k) ?_
  show own_Wp p e below _ T6 (mkF m 11 #[.val (.ref (w15_GREATER Z)), .val (.ref b2), .val (.int (7 : Int32)), .val (.int (1 : Int32)), .val (.ref (w20_EQUAL Z))] [(.int (7 : Int32)), (.int (1 : Int32))])
  refine own_step (fun _ k => XS.icmpNo X6.here hx rfl (hb hby d1_11) rfl (by decide) k) ?_
  show own_Wp p e below _ T6 (mkF m 14 #[.val (.ref (w15_GREATER Z)), .val (.ref b2), .val (.int (7 : Int32)), .val (.int (1 : Int32)), .val (.ref (w20_EQUAL Z))] [])
  refine own_step (fun _ k => XS.aloadN X6.here hx rfl (hb hby d1_14) rfl rfl k) ?_
  show own_Wp p e below _ T6 (mkF m 15 #[.val (.ref (w15_GREATER Z)), .val (.ref b2), .val (.int (7 : Int32)), .val (.int (1 : Int32)), .val (.ref (w20_EQUAL Z))] [(.ref b2)])
  refine own_step (fun _ k => XS.iloadN X6.here hx rfl (hb hby d1_15) rfl k) ?_
  show own_Wp p e below _ T6 (mkF m 16 #[.val (.ref (w15_GREATER Z)), .val (.ref b2), .val (.int (7 : Int32)), .val (.int (1 : Int32)), .val (.ref (w20_EQUAL Z))] [(.int (1 : Int32)), (.ref b2)])
  obtain ⟨c7, r7, q7, t7, u7, y7h, y7g⟩ := id F1_0
  have i7 : ¬ ((1 : Int32) < 0 ∨ c7.slots.size ≤ ((1 : Int32)).toNatClampNeg) := inb_of t7 ⟨by decide, by decide⟩
  refine own_step (fun _ k => X6.aaload hx (j := (1 : Int32)) (v := (.ref (w21_NOT_EQUAL Z))) (by rw [e6]; exact r7.1) (State.isArrayOf_alike hZ.alike r7.2.1) rfl r7.2.2 i7 (own_get t7 y7h i7 1 rfl) (g := (mkF m 16 #[.val (.ref (w15_GREATER Z)), .val (.ref b2), .val (.int (7 : Int32)), .val (.int (1 : Int32)), .val (.ref (w20_EQUAL Z))] [(.int (1 : Int32)), (.ref b2)])) rfl rfl (hb hby d1_16) _ k) ?_
  show own_Wp p e below _ T6 (mkF m 17 #[.val (.ref (w15_GREATER Z)), .val (.ref b2), .val (.int (7 : Int32)), .val (.int (1 : Int32)), .val (.ref (w20_EQUAL Z))] [(.ref (w21_NOT_EQUAL Z))])
  refine own_step (fun _ k => XS.astore X6.here hx rfl (hb hby d1_17) rfl rfl (l' := #[.val (.ref (w15_GREATER Z)), .val (.ref b2), .val (.int (7 : Int32)), .val (.int (1 : Int32)), .val (.ref (w21_NOT_EQUAL Z))]) rfl k) ?_
  show own_Wp p e below _ T6 (mkF m 19 #[.val (.ref (w15_GREATER Z)), .val (.ref b2), .val (.int (7 : Int32)), .val (.int (1 : Int32)), .val (.ref (w21_NOT_EQUAL Z))] [])
  refine own_step (fun _ k => XS.aload X6.here hx rfl (hb hby d1_19) rfl rfl k) ?_
  show own_Wp p e below _ T6 (mkF m 21 #[.val (.ref (w15_GREATER Z)), .val (.ref b2), .val (.int (7 : Int32)), .val (.int (1 : Int32)), .val (.ref (w21_NOT_EQUAL Z))] [(.ref (w21_NOT_EQUAL Z))])
  obtain ⟨T8, X8, e8, st8⟩ := getF X6 hx hZ hown (host := "") (Or.inl (hw _ (List.mem_of_getElem? (i := 69) rfl))) Via.refl e6 ((fl3 hw hA hS hF).ext O1.2) (g := (mkF m 21 #[.val (.ref (w15_GREATER Z)), .val (.ref b2), .val (.int (7 : Int32)), .val (.int (1 : Int32)), .val (.ref (w21_NOT_EQUAL Z))] [(.ref (w21_NOT_EQUAL Z))])) rfl rfl (hb hby d1_21)
  refine own_step st8 ?_
  show own_Wp p e below _ T8 (mkF m 24 #[.val (.ref (w15_GREATER Z)), .val (.ref b2), .val (.int (7 : Int32)), .val (.int (1 : Int32)), .val (.ref (w21_NOT_EQUAL Z))] [(.ref (w10_NOT_EQUAL Z))])
  refine own_step (fun _ k => XS.aloadN X8.here hx rfl (hb hby d1_24) rfl rfl k) ?_
  show own_Wp p e below _ T8 (mkF m 25 #[.val (.ref (w15_GREATER Z)), .val (.ref b2), .val (.int (7 : Int32)), .val (.int (1 : Int32)), .val (.ref (w21_NOT_EQUAL Z))] [(.ref (w15_GREATER Z)), (.ref (w10_NOT_EQUAL Z))])
  refine own_step (fun _ k => Jvm.RoadKit.acmp (g := (mkF m 25 #[.val (.ref (w15_GREATER Z)), .val (.ref b2), .val (.int (7 : Int32)), .val (.int (1 : Int32)), .val (.ref (w21_NOT_EQUAL Z))] [(.ref (w15_GREATER Z)), (.ref (w10_NOT_EQUAL Z))])) X8 hx rfl rfl rfl (pc0 := 25) (pc' := 34) (same := false) rfl (hb hby d1_25) rfl (decide_eq_false fun q => (Fld.ne (fl4 hw hA hS hF) (fl12 hw hA hS hF) (by decide)) (Value.ref.inj q)) (by decide) (by decide) k) ?_
  show own_Wp p e below _ T8 (mkF m 34 #[.val (.ref (w15_GREATER Z)), .val (.ref b2), .val (.int (7 : Int32)), .val (.int (1 : Int32)), .val (.ref (w21_NOT_EQUAL Z))] [])
  refine own_step (fun _ k => XS.iinc X8.here hx rfl (hb hby d1_34) rfl (l' := #[.val (.ref (w15_GREATER Z)), .val (.ref b2), .val (.int (7 : Int32)), .val (.int ((1 : Int32) + (1 : Int32))), .val (.ref (w21_NOT_EQUAL Z))]) rfl k) ?_
  show own_Wp p e below _ T8 (mkF m 37 #[.val (.ref (w15_GREATER Z)), .val (.ref b2), .val (.int (7 : Int32)), .val (.int ((1 : Int32) + (1 : Int32))), .val (.ref (w21_NOT_EQUAL Z))] [])
  rw [(by decide : ((1 : Int32) + (1 : Int32)) = (2 : Int32))]
  show own_Wp p e below _ T8 (mkF m 37 #[.val (.ref (w15_GREATER Z)), .val (.ref b2), .val (.int (7 : Int32)), .val (.int (2 : Int32)), .val (.ref (w21_NOT_EQUAL Z))] [])
  refine own_step (fun _ k => XS.goto X8.here hx rfl (pc0 := 37) (pc' := 9) rfl (hb hby d1_37) (by decide) (by decide) k) ?_
  show own_Wp p e below _ T8 (mkF m 9 #[.val (.ref (w15_GREATER Z)), .val (.ref b2), .val (.int (7 : Int32)), .val (.int (2 : Int32)), .val (.ref (w21_NOT_EQUAL Z))] [])
  refine own_step (fun _ k => XS.iloadN X8.here hx rfl (hb hby d1_9) rfl k) ?_
  show own_Wp p e below _ T8 (mkF m 10 #[.val (.ref (w15_GREATER Z)), .val (.ref b2), .val (.int (7 : Int32)), .val (.int (2 : Int32)), .val (.ref (w21_NOT_EQUAL Z))] [(.int (2 : Int32))])
  refine own_step (fun _ k => XS.iloadN X8.here hx rfl (hb hby d1_10) rfl k) ?_
  show own_Wp p e below _ T8 (mkF m 11 #[.val (.ref (w15_GREATER Z)), .val (.ref b2), .val (.int (7 : Int32)), .val (.int (2 : Int32)), .val (.ref (w21_NOT_EQUAL Z))] [(.int (7 : Int32)), (.int (2 : Int32))])
  refine own_step (fun _ k => XS.icmpNo X8.here hx rfl (hb hby d1_11) rfl (by decide) k) ?_
  show own_Wp p e below _ T8 (mkF m 14 #[.val (.ref (w15_GREATER Z)), .val (.ref b2), .val (.int (7 : Int32)), .val (.int (2 : Int32)), .val (.ref (w21_NOT_EQUAL Z))] [])
  refine own_step (fun _ k => XS.aloadN X8.here hx rfl (hb hby d1_14) rfl rfl k) ?_
  show own_Wp p e below _ T8 (mkF m 15 #[.val (.ref (w15_GREATER Z)), .val (.ref b2), .val (.int (7 : Int32)), .val (.int (2 : Int32)), .val (.ref (w21_NOT_EQUAL Z))] [(.ref b2)])
  refine own_step (fun _ k => XS.iloadN X8.here hx rfl (hb hby d1_15) rfl k) ?_
  show own_Wp p e below _ T8 (mkF m 16 #[.val (.ref (w15_GREATER Z)), .val (.ref b2), .val (.int (7 : Int32)), .val (.int (2 : Int32)), .val (.ref (w21_NOT_EQUAL Z))] [(.int (2 : Int32)), (.ref b2)])
  obtain ⟨c9, r9, q9, t9, u9, y9h, y9g⟩ := id F1_0
  have i9 : ¬ ((2 : Int32) < 0 ∨ c9.slots.size ≤ ((2 : Int32)).toNatClampNeg) := inb_of t9 ⟨by decide, by decide⟩
  refine own_step (fun _ k => X8.aaload hx (j := (2 : Int32)) (v := (.ref (w22_MATCH Z))) (by rw [e8]; exact r9.1) (State.isArrayOf_alike hZ.alike r9.2.1) rfl r9.2.2 i9 (own_get t9 y9h i9 2 rfl) (g := (mkF m 16 #[.val (.ref (w15_GREATER Z)), .val (.ref b2), .val (.int (7 : Int32)), .val (.int (2 : Int32)), .val (.ref (w21_NOT_EQUAL Z))] [(.int (2 : Int32)), (.ref b2)])) rfl rfl (hb hby d1_16) _ k) ?_
  show own_Wp p e below _ T8 (mkF m 17 #[.val (.ref (w15_GREATER Z)), .val (.ref b2), .val (.int (7 : Int32)), .val (.int (2 : Int32)), .val (.ref (w21_NOT_EQUAL Z))] [(.ref (w22_MATCH Z))])
  refine own_step (fun _ k => XS.astore X8.here hx rfl (hb hby d1_17) rfl rfl (l' := #[.val (.ref (w15_GREATER Z)), .val (.ref b2), .val (.int (7 : Int32)), .val (.int (2 : Int32)), .val (.ref (w22_MATCH Z))]) rfl k) ?_
  show own_Wp p e below _ T8 (mkF m 19 #[.val (.ref (w15_GREATER Z)), .val (.ref b2), .val (.int (7 : Int32)), .val (.int (2 : Int32)), .val (.ref (w22_MATCH Z))] [])
  refine own_step (fun _ k => XS.aload X8.here hx rfl (hb hby d1_19) rfl rfl k) ?_
  show own_Wp p e below _ T8 (mkF m 21 #[.val (.ref (w15_GREATER Z)), .val (.ref b2), .val (.int (7 : Int32)), .val (.int (2 : Int32)), .val (.ref (w22_MATCH Z))] [(.ref (w22_MATCH Z))])
  obtain ⟨T10, X10, e10, st10⟩ := getF X8 hx hZ hown (host := "") (Or.inl (hw _ (List.mem_of_getElem? (i := 69) rfl))) Via.refl e8 ((fl5 hw hA hS hF).ext O1.2) (g := (mkF m 21 #[.val (.ref (w15_GREATER Z)), .val (.ref b2), .val (.int (7 : Int32)), .val (.int (2 : Int32)), .val (.ref (w22_MATCH Z))] [(.ref (w22_MATCH Z))])) rfl rfl (hb hby d1_21)
  refine own_step st10 ?_
  show own_Wp p e below _ T10 (mkF m 24 #[.val (.ref (w15_GREATER Z)), .val (.ref b2), .val (.int (7 : Int32)), .val (.int (2 : Int32)), .val (.ref (w22_MATCH Z))] [(.ref (w11_MATCH Z))])
  refine own_step (fun _ k => XS.aloadN X10.here hx rfl (hb hby d1_24) rfl rfl k) ?_
  show own_Wp p e below _ T10 (mkF m 25 #[.val (.ref (w15_GREATER Z)), .val (.ref b2), .val (.int (7 : Int32)), .val (.int (2 : Int32)), .val (.ref (w22_MATCH Z))] [(.ref (w15_GREATER Z)), (.ref (w11_MATCH Z))])
  refine own_step (fun _ k => Jvm.RoadKit.acmp (g := (mkF m 25 #[.val (.ref (w15_GREATER Z)), .val (.ref b2), .val (.int (7 : Int32)), .val (.int (2 : Int32)), .val (.ref (w22_MATCH Z))] [(.ref (w15_GREATER Z)), (.ref (w11_MATCH Z))])) X10 hx rfl rfl rfl (pc0 := 25) (pc' := 34) (same := false) rfl (hb hby d1_25) rfl (decide_eq_false fun q => (Fld.ne (fl6 hw hA hS hF) (fl12 hw hA hS hF) (by decide)) (Value.ref.inj q)) (by decide) (by decide) k) ?_
  show own_Wp p e below _ T10 (mkF m 34 #[.val (.ref (w15_GREATER Z)), .val (.ref b2), .val (.int (7 : Int32)), .val (.int (2 : Int32)), .val (.ref (w22_MATCH Z))] [])
  refine own_step (fun _ k => XS.iinc X10.here hx rfl (hb hby d1_34) rfl (l' := #[.val (.ref (w15_GREATER Z)), .val (.ref b2), .val (.int (7 : Int32)), .val (.int ((2 : Int32) + (1 : Int32))), .val (.ref (w22_MATCH Z))]) rfl k) ?_
  show own_Wp p e below _ T10 (mkF m 37 #[.val (.ref (w15_GREATER Z)), .val (.ref b2), .val (.int (7 : Int32)), .val (.int ((2 : Int32) + (1 : Int32))), .val (.ref (w22_MATCH Z))] [])
  rw [(by decide : ((2 : Int32) + (1 : Int32)) = (3 : Int32))]
  show own_Wp p e below _ T10 (mkF m 37 #[.val (.ref (w15_GREATER Z)), .val (.ref b2), .val (.int (7 : Int32)), .val (.int (3 : Int32)), .val (.ref (w22_MATCH Z))] [])
  refine own_step (fun _ k => XS.goto X10.here hx rfl (pc0 := 37) (pc' := 9) rfl (hb hby d1_37) (by decide) (by decide) k) ?_
  show own_Wp p e below _ T10 (mkF m 9 #[.val (.ref (w15_GREATER Z)), .val (.ref b2), .val (.int (7 : Int32)), .val (.int (3 : Int32)), .val (.ref (w22_MATCH Z))] [])
  refine own_step (fun _ k => XS.iloadN X10.here hx rfl (hb hby d1_9) rfl k) ?_
  show own_Wp p e below _ T10 (mkF m 10 #[.val (.ref (w15_GREATER Z)), .val (.ref b2), .val (.int (7 : Int32)), .val (.int (3 : Int32)), .val (.ref (w22_MATCH Z))] [(.int (3 : Int32))])
  refine own_step (fun _ k => XS.iloadN X10.here hx rfl (hb hby d1_10) rfl k) ?_
  show own_Wp p e below _ T10 (mkF m 11 #[.val (.ref (w15_GREATER Z)), .val (.ref b2), .val (.int (7 : Int32)), .val (.int (3 : Int32)), .val (.ref (w22_MATCH Z))] [(.int (7 : Int32)), (.int (3 : Int32))])
  refine own_step (fun _ k => XS.icmpNo X10.here hx rfl (hb hby d1_11) rfl (by decide) k) ?_
  show own_Wp p e below _ T10 (mkF m 14 #[.val (.ref (w15_GREATER Z)), .val (.ref b2), .val (.int (7 : Int32)), .val (.int (3 : Int32)), .val (.ref (w22_MATCH Z))] [])
  refine own_step (fun _ k => XS.aloadN X10.here hx rfl (hb hby d1_14) rfl rfl k) ?_
  show own_Wp p e below _ T10 (mkF m 15 #[.val (.ref (w15_GREATER Z)), .val (.ref b2), .val (.int (7 : Int32)), .val (.int (3 : Int32)), .val (.ref (w22_MATCH Z))] [(.ref b2)])
  refine own_step (fun _ k => XS.iloadN X10.here hx rfl (hb hby d1_15) rfl k) ?_
  show own_Wp p e below _ T10 (mkF m 16 #[.val (.ref (w15_GREATER Z)), .val (.ref b2), .val (.int (7 : Int32)), .val (.int (3 : Int32)), .val (.ref (w22_MATCH Z))] [(.int (3 : Int32)), (.ref b2)])
  obtain ⟨c11, r11, q11, t11, u11, y11h, y11g⟩ := id F1_0
  have i11 : ¬ ((3 : Int32) < 0 ∨ c11.slots.size ≤ ((3 : Int32)).toNatClampNeg) := inb_of t11 ⟨by decide, by decide⟩
  refine own_step (fun _ k => X10.aaload hx (j := (3 : Int32)) (v := (.ref (w23_LESS Z))) (by rw [e10]; exact r11.1) (State.isArrayOf_alike hZ.alike r11.2.1) rfl r11.2.2 i11 (own_get t11 y11h i11 3 rfl) (g := (mkF m 16 #[.val (.ref (w15_GREATER Z)), .val (.ref b2), .val (.int (7 : Int32)), .val (.int (3 : Int32)), .val (.ref (w22_MATCH Z))] [(.int (3 : Int32)), (.ref b2)])) rfl rfl (hb hby d1_16) _ k) ?_
  show own_Wp p e below _ T10 (mkF m 17 #[.val (.ref (w15_GREATER Z)), .val (.ref b2), .val (.int (7 : Int32)), .val (.int (3 : Int32)), .val (.ref (w22_MATCH Z))] [(.ref (w23_LESS Z))])
  refine own_step (fun _ k => XS.astore X10.here hx rfl (hb hby d1_17) rfl rfl (l' := #[.val (.ref (w15_GREATER Z)), .val (.ref b2), .val (.int (7 : Int32)), .val (.int (3 : Int32)), .val (.ref (w23_LESS Z))]) rfl k) ?_
  show own_Wp p e below _ T10 (mkF m 19 #[.val (.ref (w15_GREATER Z)), .val (.ref b2), .val (.int (7 : Int32)), .val (.int (3 : Int32)), .val (.ref (w23_LESS Z))] [])
  refine own_step (fun _ k => XS.aload X10.here hx rfl (hb hby d1_19) rfl rfl k) ?_
  show own_Wp p e below _ T10 (mkF m 21 #[.val (.ref (w15_GREATER Z)), .val (.ref b2), .val (.int (7 : Int32)), .val (.int (3 : Int32)), .val (.ref (w23_LESS Z))] [(.ref (w23_LESS Z))])
  obtain ⟨T12, X12, e12, st12⟩ := getF X10 hx hZ hown (host := "") (Or.inl (hw _ (List.mem_of_getElem? (i := 69) rfl))) Via.refl e10 ((fl7 hw hA hS hF).ext O1.2) (g := (mkF m 21 #[.val (.ref (w15_GREATER Z)), .val (.ref b2), .val (.int (7 : Int32)), .val (.int (3 : Int32)), .val (.ref (w23_LESS Z))] [(.ref (w23_LESS Z))])) rfl rfl (hb hby d1_21)
  refine own_step st12 ?_
  show own_Wp p e below _ T12 (mkF m 24 #[.val (.ref (w15_GREATER Z)), .val (.ref b2), .val (.int (7 : Int32)), .val (.int (3 : Int32)), .val (.ref (w23_LESS Z))] [(.ref (w13_LESS Z))])
  refine own_step (fun _ k => XS.aloadN X12.here hx rfl (hb hby d1_24) rfl rfl k) ?_
  show own_Wp p e below _ T12 (mkF m 25 #[.val (.ref (w15_GREATER Z)), .val (.ref b2), .val (.int (7 : Int32)), .val (.int (3 : Int32)), .val (.ref (w23_LESS Z))] [(.ref (w15_GREATER Z)), (.ref (w13_LESS Z))])
  refine own_step (fun _ k => Jvm.RoadKit.acmp (g := (mkF m 25 #[.val (.ref (w15_GREATER Z)), .val (.ref b2), .val (.int (7 : Int32)), .val (.int (3 : Int32)), .val (.ref (w23_LESS Z))] [(.ref (w15_GREATER Z)), (.ref (w13_LESS Z))])) X12 hx rfl rfl rfl (pc0 := 25) (pc' := 34) (same := false) rfl (hb hby d1_25) rfl (decide_eq_false fun q => (Fld.ne (fl8 hw hA hS hF) (fl12 hw hA hS hF) (by decide)) (Value.ref.inj q)) (by decide) (by decide) k) ?_
  show own_Wp p e below _ T12 (mkF m 34 #[.val (.ref (w15_GREATER Z)), .val (.ref b2), .val (.int (7 : Int32)), .val (.int (3 : Int32)), .val (.ref (w23_LESS Z))] [])
  refine own_step (fun _ k => XS.iinc X12.here hx rfl (hb hby d1_34) rfl (l' := #[.val (.ref (w15_GREATER Z)), .val (.ref b2), .val (.int (7 : Int32)), .val (.int ((3 : Int32) + (1 : Int32))), .val (.ref (w23_LESS Z))]) rfl k) ?_
  show own_Wp p e below _ T12 (mkF m 37 #[.val (.ref (w15_GREATER Z)), .val (.ref b2), .val (.int (7 : Int32)), .val (.int ((3 : Int32) + (1 : Int32))), .val (.ref (w23_LESS Z))] [])
  rw [(by decide : ((3 : Int32) + (1 : Int32)) = (4 : Int32))]
  show own_Wp p e below _ T12 (mkF m 37 #[.val (.ref (w15_GREATER Z)), .val (.ref b2), .val (.int (7 : Int32)), .val (.int (4 : Int32)), .val (.ref (w23_LESS Z))] [])
  refine own_step (fun _ k => XS.goto X12.here hx rfl (pc0 := 37) (pc' := 9) rfl (hb hby d1_37) (by decide) (by decide) k) ?_
  show own_Wp p e below _ T12 (mkF m 9 #[.val (.ref (w15_GREATER Z)), .val (.ref b2), .val (.int (7 : Int32)), .val (.int (4 : Int32)), .val (.ref (w23_LESS Z))] [])
  refine own_step (fun _ k => XS.iloadN X12.here hx rfl (hb hby d1_9) rfl k) ?_
  show own_Wp p e below _ T12 (mkF m 10 #[.val (.ref (w15_GREATER Z)), .val (.ref b2), .val (.int (7 : Int32)), .val (.int (4 : Int32)), .val (.ref (w23_LESS Z))] [(.int (4 : Int32))])
  refine own_step (fun _ k => XS.iloadN X12.here hx rfl (hb hby d1_10) rfl k) ?_
  show own_Wp p e below _ T12 (mkF m 11 #[.val (.ref (w15_GREATER Z)), .val (.ref b2), .val (.int (7 : Int32)), .val (.int (4 : Int32)), .val (.ref (w23_LESS Z))] [(.int (7 : Int32)), (.int (4 : Int32))])
  refine own_step (fun _ k => XS.icmpNo X12.here hx rfl (hb hby d1_11) rfl (by decide) k) ?_
  show own_Wp p e below _ T12 (mkF m 14 #[.val (.ref (w15_GREATER Z)), .val (.ref b2), .val (.int (7 : Int32)), .val (.int (4 : Int32)), .val (.ref (w23_LESS Z))] [])
  refine own_step (fun _ k => XS.aloadN X12.here hx rfl (hb hby d1_14) rfl rfl k) ?_
  show own_Wp p e below _ T12 (mkF m 15 #[.val (.ref (w15_GREATER Z)), .val (.ref b2), .val (.int (7 : Int32)), .val (.int (4 : Int32)), .val (.ref (w23_LESS Z))] [(.ref b2)])
  refine own_step (fun _ k => XS.iloadN X12.here hx rfl (hb hby d1_15) rfl k) ?_
  show own_Wp p e below _ T12 (mkF m 16 #[.val (.ref (w15_GREATER Z)), .val (.ref b2), .val (.int (7 : Int32)), .val (.int (4 : Int32)), .val (.ref (w23_LESS Z))] [(.int (4 : Int32)), (.ref b2)])
  obtain ⟨c13, r13, q13, t13, u13, y13h, y13g⟩ := id F1_0
  have i13 : ¬ ((4 : Int32) < 0 ∨ c13.slots.size ≤ ((4 : Int32)).toNatClampNeg) := inb_of t13 ⟨by decide, by decide⟩
  refine own_step (fun _ k => X12.aaload hx (j := (4 : Int32)) (v := (.ref (w24_LESS_EQUAL Z))) (by rw [e12]; exact r13.1) (State.isArrayOf_alike hZ.alike r13.2.1) rfl r13.2.2 i13 (own_get t13 y13h i13 4 rfl) (g := (mkF m 16 #[.val (.ref (w15_GREATER Z)), .val (.ref b2), .val (.int (7 : Int32)), .val (.int (4 : Int32)), .val (.ref (w23_LESS Z))] [(.int (4 : Int32)), (.ref b2)])) rfl rfl (hb hby d1_16) _ k) ?_
  show own_Wp p e below _ T12 (mkF m 17 #[.val (.ref (w15_GREATER Z)), .val (.ref b2), .val (.int (7 : Int32)), .val (.int (4 : Int32)), .val (.ref (w23_LESS Z))] [(.ref (w24_LESS_EQUAL Z))])
  refine own_step (fun _ k => XS.astore X12.here hx rfl (hb hby d1_17) rfl rfl (l' := #[.val (.ref (w15_GREATER Z)), .val (.ref b2), .val (.int (7 : Int32)), .val (.int (4 : Int32)), .val (.ref (w24_LESS_EQUAL Z))]) rfl k) ?_
  show own_Wp p e below _ T12 (mkF m 19 #[.val (.ref (w15_GREATER Z)), .val (.ref b2), .val (.int (7 : Int32)), .val (.int (4 : Int32)), .val (.ref (w24_LESS_EQUAL Z))] [])
  refine own_step (fun _ k => XS.aload X12.here hx rfl (hb hby d1_19) rfl rfl k) ?_
  show own_Wp p e below _ T12 (mkF m 21 #[.val (.ref (w15_GREATER Z)), .val (.ref b2), .val (.int (7 : Int32)), .val (.int (4 : Int32)), .val (.ref (w24_LESS_EQUAL Z))] [(.ref (w24_LESS_EQUAL Z))])
  obtain ⟨T14, X14, e14, st14⟩ := getF X12 hx hZ hown (host := "") (Or.inl (hw _ (List.mem_of_getElem? (i := 69) rfl))) Via.refl e12 ((fl9 hw hA hS hF).ext O1.2) (g := (mkF m 21 #[.val (.ref (w15_GREATER Z)), .val (.ref b2), .val (.int (7 : Int32)), .val (.int (4 : Int32)), .val (.ref (w24_LESS_EQUAL Z))] [(.ref (w24_LESS_EQUAL Z))])) rfl rfl (hb hby d1_21)
  refine own_step st14 ?_
  show own_Wp p e below _ T14 (mkF m 24 #[.val (.ref (w15_GREATER Z)), .val (.ref b2), .val (.int (7 : Int32)), .val (.int (4 : Int32)), .val (.ref (w24_LESS_EQUAL Z))] [(.ref (w12_LESS_EQUAL Z))])
  refine own_step (fun _ k => XS.aloadN X14.here hx rfl (hb hby d1_24) rfl rfl k) ?_
  show own_Wp p e below _ T14 (mkF m 25 #[.val (.ref (w15_GREATER Z)), .val (.ref b2), .val (.int (7 : Int32)), .val (.int (4 : Int32)), .val (.ref (w24_LESS_EQUAL Z))] [(.ref (w15_GREATER Z)), (.ref (w12_LESS_EQUAL Z))])
  refine own_step (fun _ k => Jvm.RoadKit.acmp (g := (mkF m 25 #[.val (.ref (w15_GREATER Z)), .val (.ref b2), .val (.int (7 : Int32)), .val (.int (4 : Int32)), .val (.ref (w24_LESS_EQUAL Z))] [(.ref (w15_GREATER Z)), (.ref (w12_LESS_EQUAL Z))])) X14 hx rfl rfl rfl (pc0 := 25) (pc' := 34) (same := false) rfl (hb hby d1_25) rfl (decide_eq_false fun q => (Fld.ne (fl10 hw hA hS hF) (fl12 hw hA hS hF) (by decide)) (Value.ref.inj q)) (by decide) (by decide) k) ?_
  show own_Wp p e below _ T14 (mkF m 34 #[.val (.ref (w15_GREATER Z)), .val (.ref b2), .val (.int (7 : Int32)), .val (.int (4 : Int32)), .val (.ref (w24_LESS_EQUAL Z))] [])
  refine own_step (fun _ k => XS.iinc X14.here hx rfl (hb hby d1_34) rfl (l' := #[.val (.ref (w15_GREATER Z)), .val (.ref b2), .val (.int (7 : Int32)), .val (.int ((4 : Int32) + (1 : Int32))), .val (.ref (w24_LESS_EQUAL Z))]) rfl k) ?_
  show own_Wp p e below _ T14 (mkF m 37 #[.val (.ref (w15_GREATER Z)), .val (.ref b2), .val (.int (7 : Int32)), .val (.int ((4 : Int32) + (1 : Int32))), .val (.ref (w24_LESS_EQUAL Z))] [])
  rw [(by decide : ((4 : Int32) + (1 : Int32)) = (5 : Int32))]
  show own_Wp p e below _ T14 (mkF m 37 #[.val (.ref (w15_GREATER Z)), .val (.ref b2), .val (.int (7 : Int32)), .val (.int (5 : Int32)), .val (.ref (w24_LESS_EQUAL Z))] [])
  refine own_step (fun _ k => XS.goto X14.here hx rfl (pc0 := 37) (pc' := 9) rfl (hb hby d1_37) (by decide) (by decide) k) ?_
  show own_Wp p e below _ T14 (mkF m 9 #[.val (.ref (w15_GREATER Z)), .val (.ref b2), .val (.int (7 : Int32)), .val (.int (5 : Int32)), .val (.ref (w24_LESS_EQUAL Z))] [])
  refine own_step (fun _ k => XS.iloadN X14.here hx rfl (hb hby d1_9) rfl k) ?_
  show own_Wp p e below _ T14 (mkF m 10 #[.val (.ref (w15_GREATER Z)), .val (.ref b2), .val (.int (7 : Int32)), .val (.int (5 : Int32)), .val (.ref (w24_LESS_EQUAL Z))] [(.int (5 : Int32))])
  refine own_step (fun _ k => XS.iloadN X14.here hx rfl (hb hby d1_10) rfl k) ?_
  show own_Wp p e below _ T14 (mkF m 11 #[.val (.ref (w15_GREATER Z)), .val (.ref b2), .val (.int (7 : Int32)), .val (.int (5 : Int32)), .val (.ref (w24_LESS_EQUAL Z))] [(.int (7 : Int32)), (.int (5 : Int32))])
  refine own_step (fun _ k => XS.icmpNo X14.here hx rfl (hb hby d1_11) rfl (by decide) k) ?_
  show own_Wp p e below _ T14 (mkF m 14 #[.val (.ref (w15_GREATER Z)), .val (.ref b2), .val (.int (7 : Int32)), .val (.int (5 : Int32)), .val (.ref (w24_LESS_EQUAL Z))] [])
  refine own_step (fun _ k => XS.aloadN X14.here hx rfl (hb hby d1_14) rfl rfl k) ?_
  show own_Wp p e below _ T14 (mkF m 15 #[.val (.ref (w15_GREATER Z)), .val (.ref b2), .val (.int (7 : Int32)), .val (.int (5 : Int32)), .val (.ref (w24_LESS_EQUAL Z))] [(.ref b2)])
  refine own_step (fun _ k => XS.iloadN X14.here hx rfl (hb hby d1_15) rfl k) ?_
  show own_Wp p e below _ T14 (mkF m 16 #[.val (.ref (w15_GREATER Z)), .val (.ref b2), .val (.int (7 : Int32)), .val (.int (5 : Int32)), .val (.ref (w24_LESS_EQUAL Z))] [(.int (5 : Int32)), (.ref b2)])
  obtain ⟨c15, r15, q15, t15, u15, y15h, y15g⟩ := id F1_0
  have i15 : ¬ ((5 : Int32) < 0 ∨ c15.slots.size ≤ ((5 : Int32)).toNatClampNeg) := inb_of t15 ⟨by decide, by decide⟩
  refine own_step (fun _ k => X14.aaload hx (j := (5 : Int32)) (v := (.ref (w25_GREATER Z))) (by rw [e14]; exact r15.1) (State.isArrayOf_alike hZ.alike r15.2.1) rfl r15.2.2 i15 (own_get t15 y15h i15 5 rfl) (g := (mkF m 16 #[.val (.ref (w15_GREATER Z)), .val (.ref b2), .val (.int (7 : Int32)), .val (.int (5 : Int32)), .val (.ref (w24_LESS_EQUAL Z))] [(.int (5 : Int32)), (.ref b2)])) rfl rfl (hb hby d1_16) _ k) ?_
  show own_Wp p e below _ T14 (mkF m 17 #[.val (.ref (w15_GREATER Z)), .val (.ref b2), .val (.int (7 : Int32)), .val (.int (5 : Int32)), .val (.ref (w24_LESS_EQUAL Z))] [(.ref (w25_GREATER Z))])
  refine own_step (fun _ k => XS.astore X14.here hx rfl (hb hby d1_17) rfl rfl (l' := #[.val (.ref (w15_GREATER Z)), .val (.ref b2), .val (.int (7 : Int32)), .val (.int (5 : Int32)), .val (.ref (w25_GREATER Z))]) rfl k) ?_
  show own_Wp p e below _ T14 (mkF m 19 #[.val (.ref (w15_GREATER Z)), .val (.ref b2), .val (.int (7 : Int32)), .val (.int (5 : Int32)), .val (.ref (w25_GREATER Z))] [])
  refine own_step (fun _ k => XS.aload X14.here hx rfl (hb hby d1_19) rfl rfl k) ?_
  show own_Wp p e below _ T14 (mkF m 21 #[.val (.ref (w15_GREATER Z)), .val (.ref b2), .val (.int (7 : Int32)), .val (.int (5 : Int32)), .val (.ref (w25_GREATER Z))] [(.ref (w25_GREATER Z))])
  obtain ⟨T16, X16, e16, st16⟩ := getF X14 hx hZ hown (host := "") (Or.inl (hw _ (List.mem_of_getElem? (i := 69) rfl))) Via.refl e14 ((fl11 hw hA hS hF).ext O1.2) (g := (mkF m 21 #[.val (.ref (w15_GREATER Z)), .val (.ref b2), .val (.int (7 : Int32)), .val (.int (5 : Int32)), .val (.ref (w25_GREATER Z))] [(.ref (w25_GREATER Z))])) rfl rfl (hb hby d1_21)
  refine own_step st16 ?_
  show own_Wp p e below _ T16 (mkF m 24 #[.val (.ref (w15_GREATER Z)), .val (.ref b2), .val (.int (7 : Int32)), .val (.int (5 : Int32)), .val (.ref (w25_GREATER Z))] [(.ref (w15_GREATER Z))])
  refine own_step (fun _ k => XS.aloadN X16.here hx rfl (hb hby d1_24) rfl rfl k) ?_
  show own_Wp p e below _ T16 (mkF m 25 #[.val (.ref (w15_GREATER Z)), .val (.ref b2), .val (.int (7 : Int32)), .val (.int (5 : Int32)), .val (.ref (w25_GREATER Z))] [(.ref (w15_GREATER Z)), (.ref (w15_GREATER Z))])
  refine own_step (fun _ k => Jvm.RoadKit.acmp (g := (mkF m 25 #[.val (.ref (w15_GREATER Z)), .val (.ref b2), .val (.int (7 : Int32)), .val (.int (5 : Int32)), .val (.ref (w25_GREATER Z))] [(.ref (w15_GREATER Z)), (.ref (w15_GREATER Z))])) X16 hx rfl rfl rfl (pc0 := 25) (pc' := 28) (same := true) rfl (hb hby d1_25) rfl (decide_eq_true rfl) (by decide) (by decide) k) ?_
  show own_Wp p e below _ T16 (mkF m 28 #[.val (.ref (w15_GREATER Z)), .val (.ref b2), .val (.int (7 : Int32)), .val (.int (5 : Int32)), .val (.ref (w25_GREATER Z))] [])
  refine own_step (fun _ k => XS.aload X16.here hx rfl (hb hby d1_28) rfl rfl k) ?_
  show own_Wp p e below _ T16 (mkF m 30 #[.val (.ref (w15_GREATER Z)), .val (.ref b2), .val (.int (7 : Int32)), .val (.int (5 : Int32)), .val (.ref (w25_GREATER Z))] [(.ref (w25_GREATER Z))])
  obtain ⟨_, T17, L17, X17, hQ17, st17⟩ := own_callS X16 hx hZ hown (hw _ (List.mem_of_getElem? (i := 87) rfl)) (hw _ (List.mem_of_getElem? (i := 88) rfl)) (hw _ (List.mem_of_getElem? (i := 73) rfl)) (hw _ (List.mem_of_getElem? (i := 89) rfl)) (by decide) (rm6_7 l Z a0 hw hA hS hF [] (w25_GREATER Z) T1.heap n0 O1) (W := 0) (by decide) (by decide) [(.ref (w25_GREATER Z))] rfl (lenOf pd10 rfl) (Ls := #[.val (.ref (w15_GREATER Z)), .val (.ref b2), .val (.int (7 : Int32)), .val (.int (5 : Int32)), .val (.ref (w25_GREATER Z))]) (by rw [hml]; rfl) (rest := []) (Nat.le_of_eq rfl) (hb hby d1_30) e16 (by decide) (by decide)
  refine st17 _ ?_
  obtain ⟨b18, rfl, N17q, K17q, y17_0, F17_0, F17_1⟩ := hQ17
  have N17 := Fr.app N1 N17q
  have g17_0 : n0 ≤ b18 := Nat.le_trans (O1.1 ▸ O1.2.1) y17_0
  have ne17_0_0 : b2 ≠ b18 := Nat.ne_of_lt (Nat.lt_of_lt_of_le F1_0.lt y17_0)
  have u17_0 : h0.size ≤ b18 := Nat.le_trans (K1.1) y17_0
  have O17 := O1.keep K17q all0
  have K17 : Keep h0 T17.heap [] := Keep.trans K1 K17q all0
  show own_Wp p e below _ T17 (mkF m 33 #[.val (.ref (w15_GREATER Z)), .val (.ref b2), .val (.int (7 : Int32)), .val (.int (5 : Int32)), .val (.ref (w25_GREATER Z))] [(.ref b18)])
  exact own_retA X17 hx hret rfl rfl hlk (hb hby d1_33) (by decide) (by decide) (⟨b18, rfl, N17, K17, u17_0, F17_0, F17_1⟩)

set_option maxRecDepth 65536 in
set_option maxHeartbeats 40000000 in
theorem rm4_27 (l : Launch) (Z : State) (a0 : Array Value) (hw : ∀ d ∈ tables_1, d.before a0 Z = true) (hA : ∀ d ∈ own_flat narrow_1, d.value a0 Z none Z [] = some true) (hS : ∀ d ∈ jdkStatics_1, d.before a0 Z = true) (hF : Fit Z) (ws : List Jvm.Cond) (px1 : Addr) (h0 : Heap) (n0 : Nat) (O0 : Old Z n0 h0) (P1 : Fld Z h0 px1 "java/util/Optional" "value" "Ljava/lang/Object;" (.ref (w25_GREATER Z))) :
    own_Met l Z (⟨"java/util/Optional", "orElse", "(Ljava/lang/Object;)Ljava/lang/Object;"⟩ : MethodName) (Jvm.Cond.code (⟨"java/util/Optional", "orElse", "(Ljava/lang/Object;)Ljava/lang/Object;"⟩ : MethodName) jdk_32_method_15_code 2 (some (.object "java/lang/Object"))) ws ({ frames := 0, cells := 0, slots := 0, locals := 0 } : Room) #[(.ref px1), .null] h0 (fun v h L => (v = some (.ref (w25_GREATER Z)) ∧ Fr n0 L ∧ h = h0)) := by
  refine own_met (own := "java/util/Optional") (plainFor_of_name pn2) rfl ?_
  intro p e s m below meth c s₁ hx hby hml hown hnm hret hlk hZ e0 X0
  refine own_cast (g' := (mkF m 0 #[.val (.ref px1), .val .null] [])) (by first | (simp [entryFrame, mkF, argsToLocals, Value.category]; done) | rfl) ?_
  refine own_step (fun _ k => XS.aloadN X0.here hx rfl (hb hby d4_0) rfl rfl k) ?_
  show own_Wp p e below _ s₁ (mkF m 1 #[.val (.ref px1), .val .null] [(.ref px1)])
  obtain ⟨T1, X1, e1, st1⟩ := getF X0 hx hZ hown (host := "") (Or.inl (hw _ (List.mem_of_getElem? (i := 81) rfl))) Via.refl e0 P1 (g := (mkF m 1 #[.val (.ref px1), .val .null] [(.ref px1)])) rfl rfl (hb hby d4_1)
  refine own_step st1 ?_
  show own_Wp p e below _ T1 (mkF m 4 #[.val (.ref px1), .val .null] [(.ref (w25_GREATER Z))])
  refine own_step (fun _ k => XS.ifnullNo X1.here hx rfl (hb hby d4_4) rfl k) ?_
  show own_Wp p e below _ T1 (mkF m 7 #[.val (.ref px1), .val .null] [])
  refine own_step (fun _ k => XS.aloadN X1.here hx rfl (hb hby d4_7) rfl rfl k) ?_
  show own_Wp p e below _ T1 (mkF m 8 #[.val (.ref px1), .val .null] [(.ref px1)])
  obtain ⟨T2, X2, e2, st2⟩ := getF X1 hx hZ hown (host := "") (Or.inl (hw _ (List.mem_of_getElem? (i := 81) rfl))) Via.refl e1 P1 (g := (mkF m 8 #[.val (.ref px1), .val .null] [(.ref px1)])) rfl rfl (hb hby d4_8)
  refine own_step st2 ?_
  show own_Wp p e below _ T2 (mkF m 11 #[.val (.ref px1), .val .null] [(.ref (w25_GREATER Z))])
  refine own_step (fun _ k => XS.goto X2.here hx rfl (pc0 := 11) (pc' := 15) rfl (hb hby d4_11) (by decide) (by decide) k) ?_
  show own_Wp p e below _ T2 (mkF m 15 #[.val (.ref px1), .val .null] [(.ref (w25_GREATER Z))])
  exact own_retA X2 hx hret rfl rfl hlk (hb hby d4_15) (by decide) (by decide) (by rw [e2]; exact ⟨rfl, (Fr.nil n0), rfl⟩)

set_option maxRecDepth 65536 in
set_option maxHeartbeats 40000000 in
theorem rm5_28 (l : Launch) (Z : State) (a0 : Array Value) (hw : ∀ d ∈ tables_1, d.before a0 Z = true) (hA : ∀ d ∈ own_flat narrow_1, d.value a0 Z none Z [] = some true) (hS : ∀ d ∈ jdkStatics_1, d.before a0 Z = true) (hF : Fit Z) (ws : List Jvm.Cond) (h0 : Heap) (n0 : Nat) (O0 : Old Z n0 h0) :
    own_Met l Z (⟨"com/example/proviso/proviso/expression/ComparisonOperatorSpelledByPinLaw", "expected", "(Lcom/example/proviso/proviso/expression/Lexer$Kind;)Lcom/example/proviso/proviso/expression/ComparisonOperator;"⟩ : MethodName) (Jvm.Cond.code (⟨"com/example/proviso/proviso/expression/ComparisonOperatorSpelledByPinLaw", "expected", "(Lcom/example/proviso/proviso/expression/Lexer$Kind;)Lcom/example/proviso/proviso/expression/ComparisonOperator;"⟩ : MethodName) method_3_code 1 (some (.object "com/example/proviso/proviso/expression/ComparisonOperator"))) ws ({ frames := 0, cells := 0, slots := 0, locals := 0 } : Room) #[(.ref (w15_GREATER Z))] h0 (fun v h L => (v = some (.ref (w25_GREATER Z)) ∧ Fr n0 L ∧ h = h0)) := by
  refine own_met (own := "com/example/proviso/proviso/expression/ComparisonOperatorSpelledByPinLaw") (plainFor_of_name pn6) rfl ?_
  intro p e s m below meth c s₁ hx hby hml hown hnm hret hlk hZ e0 X0
  refine own_cast (g' := (mkF m 0 #[.val (.ref (w15_GREATER Z))] [])) (by first | (simp [entryFrame, mkF, argsToLocals, Value.category]; done) | rfl) ?_
  refine own_step (fun _ k => XS.aloadN X0.here hx rfl (hb hby d5_0) rfl rfl k) ?_
  show own_Wp p e below _ s₁ (mkF m 1 #[.val (.ref (w15_GREATER Z))] [(.ref (w15_GREATER Z))])
  obtain ⟨T1, X1, e1, st1⟩ := getS2 X0 hx hZ hown (host := "") (Or.inl (hw _ (List.mem_of_getElem? (i := 22) rfl))) Via.refl e0 ((st_w9_EQUAL hw hA hS hF).ext O0.2) (g := (mkF m 1 #[.val (.ref (w15_GREATER Z))] [(.ref (w15_GREATER Z))])) rfl (hb hby d5_1)
  refine own_step st1 ?_
  show own_Wp p e below _ T1 (mkF m 4 #[.val (.ref (w15_GREATER Z))] [(.ref (w9_EQUAL Z)), (.ref (w15_GREATER Z))])
  refine own_step (fun _ k => Jvm.RoadKit.acmp (g := (mkF m 4 #[.val (.ref (w15_GREATER Z))] [(.ref (w9_EQUAL Z)), (.ref (w15_GREATER Z))])) X1 hx rfl rfl rfl (pc0 := 4) (pc' := 11) (same := false) rfl (hb hby d5_4) rfl (decide_eq_false fun q => (Fld.ne (fl12 hw hA hS hF) (fl1 hw hA hS hF) (by decide)) (Value.ref.inj q)) (by decide) (by decide) k) ?_
  show own_Wp p e below _ T1 (mkF m 11 #[.val (.ref (w15_GREATER Z))] [])
  refine own_step (fun _ k => XS.aloadN X1.here hx rfl (hb hby d5_11) rfl rfl k) ?_
  show own_Wp p e below _ T1 (mkF m 12 #[.val (.ref (w15_GREATER Z))] [(.ref (w15_GREATER Z))])
  obtain ⟨T2, X2, e2, st2⟩ := getS2 X1 hx hZ hown (host := "") (Or.inl (hw _ (List.mem_of_getElem? (i := 24) rfl))) Via.refl e1 ((st_w10_NOT_EQUAL hw hA hS hF).ext O0.2) (g := (mkF m 12 #[.val (.ref (w15_GREATER Z))] [(.ref (w15_GREATER Z))])) rfl (hb hby d5_12)
  refine own_step st2 ?_
  show own_Wp p e below _ T2 (mkF m 15 #[.val (.ref (w15_GREATER Z))] [(.ref (w10_NOT_EQUAL Z)), (.ref (w15_GREATER Z))])
  refine own_step (fun _ k => Jvm.RoadKit.acmp (g := (mkF m 15 #[.val (.ref (w15_GREATER Z))] [(.ref (w10_NOT_EQUAL Z)), (.ref (w15_GREATER Z))])) X2 hx rfl rfl rfl (pc0 := 15) (pc' := 22) (same := false) rfl (hb hby d5_15) rfl (decide_eq_false fun q => (Fld.ne (fl12 hw hA hS hF) (fl4 hw hA hS hF) (by decide)) (Value.ref.inj q)) (by decide) (by decide) k) ?_
  show own_Wp p e below _ T2 (mkF m 22 #[.val (.ref (w15_GREATER Z))] [])
  refine own_step (fun _ k => XS.aloadN X2.here hx rfl (hb hby d5_22) rfl rfl k) ?_
  show own_Wp p e below _ T2 (mkF m 23 #[.val (.ref (w15_GREATER Z))] [(.ref (w15_GREATER Z))])
  obtain ⟨T3, X3, e3, st3⟩ := getS2 X2 hx hZ hown (host := "") (Or.inl (hw _ (List.mem_of_getElem? (i := 26) rfl))) Via.refl e2 ((st_w11_MATCH hw hA hS hF).ext O0.2) (g := (mkF m 23 #[.val (.ref (w15_GREATER Z))] [(.ref (w15_GREATER Z))])) rfl (hb hby d5_23)
  refine own_step st3 ?_
  show own_Wp p e below _ T3 (mkF m 26 #[.val (.ref (w15_GREATER Z))] [(.ref (w11_MATCH Z)), (.ref (w15_GREATER Z))])
  refine own_step (fun _ k => Jvm.RoadKit.acmp (g := (mkF m 26 #[.val (.ref (w15_GREATER Z))] [(.ref (w11_MATCH Z)), (.ref (w15_GREATER Z))])) X3 hx rfl rfl rfl (pc0 := 26) (pc' := 33) (same := false) rfl (hb hby d5_26) rfl (decide_eq_false fun q => (Fld.ne (fl12 hw hA hS hF) (fl6 hw hA hS hF) (by decide)) (Value.ref.inj q)) (by decide) (by decide) k) ?_
  show own_Wp p e below _ T3 (mkF m 33 #[.val (.ref (w15_GREATER Z))] [])
  refine own_step (fun _ k => XS.aloadN X3.here hx rfl (hb hby d5_33) rfl rfl k) ?_
  show own_Wp p e below _ T3 (mkF m 34 #[.val (.ref (w15_GREATER Z))] [(.ref (w15_GREATER Z))])
  obtain ⟨T4, X4, e4, st4⟩ := getS2 X3 hx hZ hown (host := "") (Or.inl (hw _ (List.mem_of_getElem? (i := 30) rfl))) Via.refl e3 ((st_w13_LESS hw hA hS hF).ext O0.2) (g := (mkF m 34 #[.val (.ref (w15_GREATER Z))] [(.ref (w15_GREATER Z))])) rfl (hb hby d5_34)
  refine own_step st4 ?_
  show own_Wp p e below _ T4 (mkF m 37 #[.val (.ref (w15_GREATER Z))] [(.ref (w13_LESS Z)), (.ref (w15_GREATER Z))])
  refine own_step (fun _ k => Jvm.RoadKit.acmp (g := (mkF m 37 #[.val (.ref (w15_GREATER Z))] [(.ref (w13_LESS Z)), (.ref (w15_GREATER Z))])) X4 hx rfl rfl rfl (pc0 := 37) (pc' := 44) (same := false) rfl (hb hby d5_37) rfl (decide_eq_false fun q => (Fld.ne (fl12 hw hA hS hF) (fl8 hw hA hS hF) (by decide)) (Value.ref.inj q)) (by decide) (by decide) k) ?_
  show own_Wp p e below _ T4 (mkF m 44 #[.val (.ref (w15_GREATER Z))] [])
  refine own_step (fun _ k => XS.aloadN X4.here hx rfl (hb hby d5_44) rfl rfl k) ?_
  show own_Wp p e below _ T4 (mkF m 45 #[.val (.ref (w15_GREATER Z))] [(.ref (w15_GREATER Z))])
  obtain ⟨T5, X5, e5, st5⟩ := getS2 X4 hx hZ hown (host := "") (Or.inl (hw _ (List.mem_of_getElem? (i := 28) rfl))) Via.refl e4 ((st_w12_LESS_EQUAL hw hA hS hF).ext O0.2) (g := (mkF m 45 #[.val (.ref (w15_GREATER Z))] [(.ref (w15_GREATER Z))])) rfl (hb hby d5_45)
  refine own_step st5 ?_
  show own_Wp p e below _ T5 (mkF m 48 #[.val (.ref (w15_GREATER Z))] [(.ref (w12_LESS_EQUAL Z)), (.ref (w15_GREATER Z))])
  refine own_step (fun _ k => Jvm.RoadKit.acmp (g := (mkF m 48 #[.val (.ref (w15_GREATER Z))] [(.ref (w12_LESS_EQUAL Z)), (.ref (w15_GREATER Z))])) X5 hx rfl rfl rfl (pc0 := 48) (pc' := 55) (same := false) rfl (hb hby d5_48) rfl (decide_eq_false fun q => (Fld.ne (fl12 hw hA hS hF) (fl10 hw hA hS hF) (by decide)) (Value.ref.inj q)) (by decide) (by decide) k) ?_
  show own_Wp p e below _ T5 (mkF m 55 #[.val (.ref (w15_GREATER Z))] [])
  refine own_step (fun _ k => XS.aloadN X5.here hx rfl (hb hby d5_55) rfl rfl k) ?_
  show own_Wp p e below _ T5 (mkF m 56 #[.val (.ref (w15_GREATER Z))] [(.ref (w15_GREATER Z))])
  obtain ⟨T6, X6, e6, st6⟩ := getS2 X5 hx hZ hown (host := "") (Or.inl (hw _ (List.mem_of_getElem? (i := 34) rfl))) Via.refl e5 ((st_w15_GREATER hw hA hS hF).ext O0.2) (g := (mkF m 56 #[.val (.ref (w15_GREATER Z))] [(.ref (w15_GREATER Z))])) rfl (hb hby d5_56)
  refine own_step st6 ?_
  show own_Wp p e below _ T6 (mkF m 59 #[.val (.ref (w15_GREATER Z))] [(.ref (w15_GREATER Z)), (.ref (w15_GREATER Z))])
  refine own_step (fun _ k => Jvm.RoadKit.acmp (g := (mkF m 59 #[.val (.ref (w15_GREATER Z))] [(.ref (w15_GREATER Z)), (.ref (w15_GREATER Z))])) X6 hx rfl rfl rfl (pc0 := 59) (pc' := 62) (same := true) rfl (hb hby d5_59) rfl (decide_eq_true rfl) (by decide) (by decide) k) ?_
  show own_Wp p e below _ T6 (mkF m 62 #[.val (.ref (w15_GREATER Z))] [])
  obtain ⟨T7, X7, e7, st7⟩ := getS2 X6 hx hZ hown (host := "") (Or.inl (hw _ (List.mem_of_getElem? (i := 105) rfl))) Via.refl e6 ((st_w25_GREATER hw hA hS hF).ext O0.2) (g := (mkF m 62 #[.val (.ref (w15_GREATER Z))] [])) rfl (hb hby d5_62)
  refine own_step st7 ?_
  show own_Wp p e below _ T7 (mkF m 65 #[.val (.ref (w15_GREATER Z))] [(.ref (w25_GREATER Z))])
  exact own_retA X7 hx hret rfl rfl hlk (hb hby d5_65) (by decide) (by decide) (by rw [e7]; exact ⟨rfl, (Fr.nil n0), rfl⟩)

set_option maxRecDepth 65536 in
set_option maxHeartbeats 40000000 in
theorem rm0 (l : Launch) (Z : State) (a0 : Array Value) (hw : ∀ d ∈ tables_1, d.before a0 Z = true) (hA : ∀ d ∈ own_flat narrow_1, d.value a0 Z none Z [] = some true) (hS : ∀ d ∈ jdkStatics_1, d.before a0 Z = true) (hF : Fit Z) (ws : List Jvm.Cond) (p0 : Int32) (h0 : Heap) (n0 : Nat) (O0 : Old Z n0 h0) :
    own_Met l Z x (Jvm.Cond.code x code maxLocals ret) ws room_1 #[(.int p0)] h0 (fun v h L => v = some (.int (1 : Int32)) ∧ Fr n0 L) := by
  refine own_met (own := "com/example/proviso/proviso/expression/ComparisonOperatorSpelledByPinLaw") (plainFor_of_name pn6) rfl ?_
  intro p e s m below meth c s₁ hx hby hml hown hnm hret hlk hZ e0 X0
  refine own_cast (g' := (mkF m 0 #[.val (.int p0), .unset, .unset, .unset, .unset] [])) (by first | (simp [entryFrame, mkF, argsToLocals, Value.category, maxLocals]; done) | rfl) ?_
  show own_Wp p e below _ s₁ (mkF m 0 #[.val (.int p0), .unset, .unset, .unset, .unset] [])
  refine own_step (fun _ k => XS.bipush X0.here hx rfl (hb hby at_0) k) ?_
  show own_Wp p e below _ s₁ (mkF m 2 #[.val (.int p0), .unset, .unset, .unset, .unset] [(.int (19 : Int32))])
  obtain ⟨T1, h1, k1, X1, e1, E1, A1, O1v, st1⟩ := newR X0 hx hZ hown (hw _ (List.mem_of_getElem? (i := 0) rfl)) (hw _ (List.mem_of_getElem? (i := 1) rfl)) e0 (g := (mkF m 2 #[.val (.int p0), .unset, .unset, .unset, .unset] [(.int (19 : Int32))])) rfl (hb hby at_2) rfl (by decide) (cap := 19) (by decide) (by decide) (by decide) (by decide)
  obtain ⟨b1, z1⟩ : ∃ z, z = h0.size := ⟨_, rfl⟩
  rw [← z1] at A1 st1
  refine own_step st1 ?_
  have g1 : n0 ≤ b1 := Nat.le_trans (O0.1 ▸ O0.2.1) (Nat.le_of_eq z1.symm)
  have y1 : h0.size ≤ b1 := Nat.le_trans (Nat.le_refl _) (Nat.le_of_eq z1.symm)
  have O1 := O0.ext E1
  have K1 : Keep h0 h1 [] := (Keep.refl h0 []).ext E1
  have V1 : Arv Z h1 b1 k1 (.object "com/example/proviso/proviso/expression/Lexer$Kind") (19 : Int32) [.null, .null, .null, .null, .null, .null, .null, .null, .null, .null, .null, .null, .null, .null, .null, .null, .null, .null, .null] .null := (Arv.new A1 (by decide)).pad (pad_rep [] .null 19)
  show own_Wp p e below _ T1 (mkF m 5 #[.val (.int p0), .unset, .unset, .unset, .unset] [(.ref b1)])
  refine own_step (fun _ k => XS.dup X1.here hx rfl (hb hby at_5) rfl rfl k) ?_
  show own_Wp p e below _ T1 (mkF m 6 #[.val (.int p0), .unset, .unset, .unset, .unset] [(.ref b1), (.ref b1)])
  refine own_step (fun _ k => XS.iconst X1.here hx rfl (hb hby at_6) k) ?_
  show own_Wp p e below _ T1 (mkF m 7 #[.val (.int p0), .unset, .unset, .unset, .unset] [(.int (0 : Int32)), (.ref b1), (.ref b1)])
  obtain ⟨T2, X2, e2, st2⟩ := getS2 X1 hx hZ hown (host := "") (Or.inl (hw _ (List.mem_of_getElem? (i := 2) rfl))) Via.refl e1 ((st_w0_NAME hw hA hS hF).ext O1.2) (g := (mkF m 7 #[.val (.int p0), .unset, .unset, .unset, .unset] [(.int (0 : Int32)), (.ref b1), (.ref b1)])) rfl (hb hby at_7)
  refine own_step st2 ?_
  show own_Wp p e below _ T2 (mkF m 10 #[.val (.int p0), .unset, .unset, .unset, .unset] [(.ref (w0_NAME Z)), (.int (0 : Int32)), (.ref b1), (.ref b1)])
  obtain ⟨c3, r3, q3, t3, u3, y3h, y3g⟩ := id V1
  have i3 : ¬ ((0 : Int32) < 0 ∨ c3.slots.size ≤ ((0 : Int32)).toNatClampNeg) := inb_of t3 ⟨by decide, by decide⟩
  obtain ⟨T3, h3, X3, e3, W3, st3⟩ := stR X2 hx hZ e2 r3 (j := (0 : Int32)) i3 rfl (Sto.ofV r3 q3 O1v (Ins.self ((ex_w0_NAME hw hA hS hF).ext O1.2))) (g := (mkF m 10 #[.val (.int p0), .unset, .unset, .unset, .unset] [(.ref (w0_NAME Z)), (.int (0 : Int32)), (.ref b1), (.ref b1)])) rfl rfl (hb hby at_10)
  refine own_step st3 ?_
  have N3 := Fr.snoc X3 (Fr.nil n0) g1
  have O3 := O1.wr W3 g1
  have K3 : Keep h0 h3 [] := K1.wr W3 (Or.inr y1)
  have V3 : Arv Z h3 b1 k1 (.object "com/example/proviso/proviso/expression/Lexer$Kind") (19 : Int32) [(.ref (w0_NAME Z)), .null, .null, .null, .null, .null, .null, .null, .null, .null, .null, .null, .null, .null, .null, .null, .null, .null, .null] .null := Arv.set r3 q3 t3 u3 y3h y3g rfl W3 0 rfl (Nat.le_of_ble_eq_true rfl)
  show own_Wp p e below _ T3 (mkF m 11 #[.val (.int p0), .unset, .unset, .unset, .unset] [(.ref b1)])
  refine own_step (fun _ k => XS.dup X3.here hx rfl (hb hby at_11) rfl rfl k) ?_
  show own_Wp p e below _ T3 (mkF m 12 #[.val (.int p0), .unset, .unset, .unset, .unset] [(.ref b1), (.ref b1)])
  refine own_step (fun _ k => XS.iconst X3.here hx rfl (hb hby at_12) k) ?_
  show own_Wp p e below _ T3 (mkF m 13 #[.val (.int p0), .unset, .unset, .unset, .unset] [(.int (1 : Int32)), (.ref b1), (.ref b1)])
  obtain ⟨T4, X4, e4, st4⟩ := getS2 X3 hx hZ hown (host := "") (Or.inl (hw _ (List.mem_of_getElem? (i := 6) rfl))) Via.refl e3 ((st_w1_STRING hw hA hS hF).ext O3.2) (g := (mkF m 13 #[.val (.int p0), .unset, .unset, .unset, .unset] [(.int (1 : Int32)), (.ref b1), (.ref b1)])) rfl (hb hby at_13)
  refine own_step st4 ?_
  show own_Wp p e below _ T4 (mkF m 16 #[.val (.int p0), .unset, .unset, .unset, .unset] [(.ref (w1_STRING Z)), (.int (1 : Int32)), (.ref b1), (.ref b1)])
  obtain ⟨c5, r5, q5, t5, u5, y5h, y5g⟩ := id V3
  have i5 : ¬ ((1 : Int32) < 0 ∨ c5.slots.size ≤ ((1 : Int32)).toNatClampNeg) := inb_of t5 ⟨by decide, by decide⟩
  obtain ⟨T5, h5, X5, e5, W5, st5⟩ := stR X4 hx hZ e4 r5 (j := (1 : Int32)) i5 rfl (Sto.ofV r5 q5 O1v (Ins.self ((ex_w1_STRING hw hA hS hF).ext O3.2))) (g := (mkF m 16 #[.val (.int p0), .unset, .unset, .unset, .unset] [(.ref (w1_STRING Z)), (.int (1 : Int32)), (.ref b1), (.ref b1)])) rfl rfl (hb hby at_16)
  refine own_step st5 ?_
  have N5 := Fr.snoc X5 N3 g1
  have O5 := O3.wr W5 g1
  have K5 : Keep h0 h5 [] := K3.wr W5 (Or.inr y1)
  have V5 : Arv Z h5 b1 k1 (.object "com/example/proviso/proviso/expression/Lexer$Kind") (19 : Int32) [(.ref (w0_NAME Z)), (.ref (w1_STRING Z)), .null, .null, .null, .null, .null, .null, .null, .null, .null, .null, .null, .null, .null, .null, .null, .null, .null] .null := Arv.set r5 q5 t5 u5 y5h y5g rfl W5 1 rfl (Nat.le_of_ble_eq_true rfl)
  show own_Wp p e below _ T5 (mkF m 17 #[.val (.int p0), .unset, .unset, .unset, .unset] [(.ref b1)])
  refine own_step (fun _ k => XS.dup X5.here hx rfl (hb hby at_17) rfl rfl k) ?_
  show own_Wp p e below _ T5 (mkF m 18 #[.val (.int p0), .unset, .unset, .unset, .unset] [(.ref b1), (.ref b1)])
  refine own_step (fun _ k => XS.iconst X5.here hx rfl (hb hby at_18) k) ?_
  show own_Wp p e below _ T5 (mkF m 19 #[.val (.int p0), .unset, .unset, .unset, .unset] [(.int (2 : Int32)), (.ref b1), (.ref b1)])
  obtain ⟨T6, X6, e6, st6⟩ := getS2 X5 hx hZ hown (host := "") (Or.inl (hw _ (List.mem_of_getElem? (i := 8) rfl))) Via.refl e5 ((st_w2_INTEGER hw hA hS hF).ext O5.2) (g := (mkF m 19 #[.val (.int p0), .unset, .unset, .unset, .unset] [(.int (2 : Int32)), (.ref b1), (.ref b1)])) rfl (hb hby at_19)
  refine own_step st6 ?_
  show own_Wp p e below _ T6 (mkF m 22 #[.val (.int p0), .unset, .unset, .unset, .unset] [(.ref (w2_INTEGER Z)), (.int (2 : Int32)), (.ref b1), (.ref b1)])
  obtain ⟨c7, r7, q7, t7, u7, y7h, y7g⟩ := id V5
  have i7 : ¬ ((2 : Int32) < 0 ∨ c7.slots.size ≤ ((2 : Int32)).toNatClampNeg) := inb_of t7 ⟨by decide, by decide⟩
  obtain ⟨T7, h7, X7, e7, W7, st7⟩ := stR X6 hx hZ e6 r7 (j := (2 : Int32)) i7 rfl (Sto.ofV r7 q7 O1v (Ins.self ((ex_w2_INTEGER hw hA hS hF).ext O5.2))) (g := (mkF m 22 #[.val (.int p0), .unset, .unset, .unset, .unset] [(.ref (w2_INTEGER Z)), (.int (2 : Int32)), (.ref b1), (.ref b1)])) rfl rfl (hb hby at_22)
  refine own_step st7 ?_
  have N7 := Fr.snoc X7 N5 g1
  have O7 := O5.wr W7 g1
  have K7 : Keep h0 h7 [] := K5.wr W7 (Or.inr y1)
  have V7 : Arv Z h7 b1 k1 (.object "com/example/proviso/proviso/expression/Lexer$Kind") (19 : Int32) [(.ref (w0_NAME Z)), (.ref (w1_STRING Z)), (.ref (w2_INTEGER Z)), .null, .null, .null, .null, .null, .null, .null, .null, .null, .null, .null, .null, .null, .null, .null, .null] .null := Arv.set r7 q7 t7 u7 y7h y7g rfl W7 2 rfl (Nat.le_of_ble_eq_true rfl)
  show own_Wp p e below _ T7 (mkF m 23 #[.val (.int p0), .unset, .unset, .unset, .unset] [(.ref b1)])
  refine own_step (fun _ k => XS.dup X7.here hx rfl (hb hby at_23) rfl rfl k) ?_
  show own_Wp p e below _ T7 (mkF m 24 #[.val (.int p0), .unset, .unset, .unset, .unset] [(.ref b1), (.ref b1)])
  refine own_step (fun _ k => XS.iconst X7.here hx rfl (hb hby at_24) k) ?_
  show own_Wp p e below _ T7 (mkF m 25 #[.val (.int p0), .unset, .unset, .unset, .unset] [(.int (3 : Int32)), (.ref b1), (.ref b1)])
  obtain ⟨T8, X8, e8, st8⟩ := getS2 X7 hx hZ hown (host := "") (Or.inl (hw _ (List.mem_of_getElem? (i := 10) rfl))) Via.refl e7 ((st_w3_END hw hA hS hF).ext O7.2) (g := (mkF m 25 #[.val (.int p0), .unset, .unset, .unset, .unset] [(.int (3 : Int32)), (.ref b1), (.ref b1)])) rfl (hb hby at_25)
  refine own_step st8 ?_
  show own_Wp p e below _ T8 (mkF m 28 #[.val (.int p0), .unset, .unset, .unset, .unset] [(.ref (w3_END Z)), (.int (3 : Int32)), (.ref b1), (.ref b1)])
  obtain ⟨c9, r9, q9, t9, u9, y9h, y9g⟩ := id V7
  have i9 : ¬ ((3 : Int32) < 0 ∨ c9.slots.size ≤ ((3 : Int32)).toNatClampNeg) := inb_of t9 ⟨by decide, by decide⟩
  obtain ⟨T9, h9, X9, e9, W9, st9⟩ := stR X8 hx hZ e8 r9 (j := (3 : Int32)) i9 rfl (Sto.ofV r9 q9 O1v (Ins.self ((ex_w3_END hw hA hS hF).ext O7.2))) (g := (mkF m 28 #[.val (.int p0), .unset, .unset, .unset, .unset] [(.ref (w3_END Z)), (.int (3 : Int32)), (.ref b1), (.ref b1)])) rfl rfl (hb hby at_28)
  refine own_step st9 ?_
  have N9 := Fr.snoc X9 N7 g1
  have O9 := O7.wr W9 g1
  have K9 : Keep h0 h9 [] := K7.wr W9 (Or.inr y1)
  have V9 : Arv Z h9 b1 k1 (.object "com/example/proviso/proviso/expression/Lexer$Kind") (19 : Int32) [(.ref (w0_NAME Z)), (.ref (w1_STRING Z)), (.ref (w2_INTEGER Z)), (.ref (w3_END Z)), .null, .null, .null, .null, .null, .null, .null, .null, .null, .null, .null, .null, .null, .null, .null] .null := Arv.set r9 q9 t9 u9 y9h y9g rfl W9 3 rfl (Nat.le_of_ble_eq_true rfl)
  show own_Wp p e below _ T9 (mkF m 29 #[.val (.int p0), .unset, .unset, .unset, .unset] [(.ref b1)])
  refine own_step (fun _ k => XS.dup X9.here hx rfl (hb hby at_29) rfl rfl k) ?_
  show own_Wp p e below _ T9 (mkF m 30 #[.val (.int p0), .unset, .unset, .unset, .unset] [(.ref b1), (.ref b1)])
  refine own_step (fun _ k => XS.iconst X9.here hx rfl (hb hby at_30) k) ?_
  show own_Wp p e below _ T9 (mkF m 31 #[.val (.int p0), .unset, .unset, .unset, .unset] [(.int (4 : Int32)), (.ref b1), (.ref b1)])
  obtain ⟨T10, X10, e10, st10⟩ := getS2 X9 hx hZ hown (host := "") (Or.inl (hw _ (List.mem_of_getElem? (i := 12) rfl))) Via.refl e9 ((st_w4_NOT hw hA hS hF).ext O9.2) (g := (mkF m 31 #[.val (.int p0), .unset, .unset, .unset, .unset] [(.int (4 : Int32)), (.ref b1), (.ref b1)])) rfl (hb hby at_31)
  refine own_step st10 ?_
  show own_Wp p e below _ T10 (mkF m 34 #[.val (.int p0), .unset, .unset, .unset, .unset] [(.ref (w4_NOT Z)), (.int (4 : Int32)), (.ref b1), (.ref b1)])
  obtain ⟨c11, r11, q11, t11, u11, y11h, y11g⟩ := id V9
  have i11 : ¬ ((4 : Int32) < 0 ∨ c11.slots.size ≤ ((4 : Int32)).toNatClampNeg) := inb_of t11 ⟨by decide, by decide⟩
  obtain ⟨T11, h11, X11, e11, W11, st11⟩ := stR X10 hx hZ e10 r11 (j := (4 : Int32)) i11 rfl (Sto.ofV r11 q11 O1v (Ins.self ((ex_w4_NOT hw hA hS hF).ext O9.2))) (g := (mkF m 34 #[.val (.int p0), .unset, .unset, .unset, .unset] [(.ref (w4_NOT Z)), (.int (4 : Int32)), (.ref b1), (.ref b1)])) rfl rfl (hb hby at_34)
  refine own_step st11 ?_
  have N11 := Fr.snoc X11 N9 g1
  have O11 := O9.wr W11 g1
  have K11 : Keep h0 h11 [] := K9.wr W11 (Or.inr y1)
  have V11 : Arv Z h11 b1 k1 (.object "com/example/proviso/proviso/expression/Lexer$Kind") (19 : Int32) [(.ref (w0_NAME Z)), (.ref (w1_STRING Z)), (.ref (w2_INTEGER Z)), (.ref (w3_END Z)), (.ref (w4_NOT Z)), .null, .null, .null, .null, .null, .null, .null, .null, .null, .null, .null, .null, .null, .null] .null := Arv.set r11 q11 t11 u11 y11h y11g rfl W11 4 rfl (Nat.le_of_ble_eq_true rfl)
  show own_Wp p e below _ T11 (mkF m 35 #[.val (.int p0), .unset, .unset, .unset, .unset] [(.ref b1)])
  refine own_step (fun _ k => XS.dup X11.here hx rfl (hb hby at_35) rfl rfl k) ?_
  show own_Wp p e below _ T11 (mkF m 36 #[.val (.int p0), .unset, .unset, .unset, .unset] [(.ref b1), (.ref b1)])
  refine own_step (fun _ k => XS.iconst X11.here hx rfl (hb hby at_36) k) ?_
  show own_Wp p e below _ T11 (mkF m 37 #[.val (.int p0), .unset, .unset, .unset, .unset] [(.int (5 : Int32)), (.ref b1), (.ref b1)])
  obtain ⟨T12, X12, e12, st12⟩ := getS2 X11 hx hZ hown (host := "") (Or.inl (hw _ (List.mem_of_getElem? (i := 14) rfl))) Via.refl e11 ((st_w5_AND hw hA hS hF).ext O11.2) (g := (mkF m 37 #[.val (.int p0), .unset, .unset, .unset, .unset] [(.int (5 : Int32)), (.ref b1), (.ref b1)])) rfl (hb hby at_37)
  refine own_step st12 ?_
  show own_Wp p e below _ T12 (mkF m 40 #[.val (.int p0), .unset, .unset, .unset, .unset] [(.ref (w5_AND Z)), (.int (5 : Int32)), (.ref b1), (.ref b1)])
  obtain ⟨c13, r13, q13, t13, u13, y13h, y13g⟩ := id V11
  have i13 : ¬ ((5 : Int32) < 0 ∨ c13.slots.size ≤ ((5 : Int32)).toNatClampNeg) := inb_of t13 ⟨by decide, by decide⟩
  obtain ⟨T13, h13, X13, e13, W13, st13⟩ := stR X12 hx hZ e12 r13 (j := (5 : Int32)) i13 rfl (Sto.ofV r13 q13 O1v (Ins.self ((ex_w5_AND hw hA hS hF).ext O11.2))) (g := (mkF m 40 #[.val (.int p0), .unset, .unset, .unset, .unset] [(.ref (w5_AND Z)), (.int (5 : Int32)), (.ref b1), (.ref b1)])) rfl rfl (hb hby at_40)
  refine own_step st13 ?_
  have N13 := Fr.snoc X13 N11 g1
  have O13 := O11.wr W13 g1
  have K13 : Keep h0 h13 [] := K11.wr W13 (Or.inr y1)
  have V13 : Arv Z h13 b1 k1 (.object "com/example/proviso/proviso/expression/Lexer$Kind") (19 : Int32) [(.ref (w0_NAME Z)), (.ref (w1_STRING Z)), (.ref (w2_INTEGER Z)), (.ref (w3_END Z)), (.ref (w4_NOT Z)), (.ref (w5_AND Z)), .null, .null, .null, .null, .null, .null, .null, .null, .null, .null, .null, .null, .null] .null := Arv.set r13 q13 t13 u13 y13h y13g rfl W13 5 rfl (Nat.le_of_ble_eq_true rfl)
  show own_Wp p e below _ T13 (mkF m 41 #[.val (.int p0), .unset, .unset, .unset, .unset] [(.ref b1)])
  refine own_step (fun _ k => XS.dup X13.here hx rfl (hb hby at_41) rfl rfl k) ?_
  show own_Wp p e below _ T13 (mkF m 42 #[.val (.int p0), .unset, .unset, .unset, .unset] [(.ref b1), (.ref b1)])
  refine own_step (fun _ k => XS.bipush X13.here hx rfl (hb hby at_42) k) ?_
  show own_Wp p e below _ T13 (mkF m 44 #[.val (.int p0), .unset, .unset, .unset, .unset] [(.int (6 : Int32)), (.ref b1), (.ref b1)])
  obtain ⟨T14, X14, e14, st14⟩ := getS2 X13 hx hZ hown (host := "") (Or.inl (hw _ (List.mem_of_getElem? (i := 16) rfl))) Via.refl e13 ((st_w6_OR hw hA hS hF).ext O13.2) (g := (mkF m 44 #[.val (.int p0), .unset, .unset, .unset, .unset] [(.int (6 : Int32)), (.ref b1), (.ref b1)])) rfl (hb hby at_44)
  refine own_step st14 ?_
  show own_Wp p e below _ T14 (mkF m 47 #[.val (.int p0), .unset, .unset, .unset, .unset] [(.ref (w6_OR Z)), (.int (6 : Int32)), (.ref b1), (.ref b1)])
  obtain ⟨c15, r15, q15, t15, u15, y15h, y15g⟩ := id V13
  have i15 : ¬ ((6 : Int32) < 0 ∨ c15.slots.size ≤ ((6 : Int32)).toNatClampNeg) := inb_of t15 ⟨by decide, by decide⟩
  obtain ⟨T15, h15, X15, e15, W15, st15⟩ := stR X14 hx hZ e14 r15 (j := (6 : Int32)) i15 rfl (Sto.ofV r15 q15 O1v (Ins.self ((ex_w6_OR hw hA hS hF).ext O13.2))) (g := (mkF m 47 #[.val (.int p0), .unset, .unset, .unset, .unset] [(.ref (w6_OR Z)), (.int (6 : Int32)), (.ref b1), (.ref b1)])) rfl rfl (hb hby at_47)
  refine own_step st15 ?_
  have N15 := Fr.snoc X15 N13 g1
  have O15 := O13.wr W15 g1
  have K15 : Keep h0 h15 [] := K13.wr W15 (Or.inr y1)
  have V15 : Arv Z h15 b1 k1 (.object "com/example/proviso/proviso/expression/Lexer$Kind") (19 : Int32) [(.ref (w0_NAME Z)), (.ref (w1_STRING Z)), (.ref (w2_INTEGER Z)), (.ref (w3_END Z)), (.ref (w4_NOT Z)), (.ref (w5_AND Z)), (.ref (w6_OR Z)), .null, .null, .null, .null, .null, .null, .null, .null, .null, .null, .null, .null] .null := Arv.set r15 q15 t15 u15 y15h y15g rfl W15 6 rfl (Nat.le_of_ble_eq_true rfl)
  show own_Wp p e below _ T15 (mkF m 48 #[.val (.int p0), .unset, .unset, .unset, .unset] [(.ref b1)])
  refine own_step (fun _ k => XS.dup X15.here hx rfl (hb hby at_48) rfl rfl k) ?_
  show own_Wp p e below _ T15 (mkF m 49 #[.val (.int p0), .unset, .unset, .unset, .unset] [(.ref b1), (.ref b1)])
  refine own_step (fun _ k => XS.bipush X15.here hx rfl (hb hby at_49) k) ?_
  show own_Wp p e below _ T15 (mkF m 51 #[.val (.int p0), .unset, .unset, .unset, .unset] [(.int (7 : Int32)), (.ref b1), (.ref b1)])
  obtain ⟨T16, X16, e16, st16⟩ := getS2 X15 hx hZ hown (host := "") (Or.inl (hw _ (List.mem_of_getElem? (i := 18) rfl))) Via.refl e15 ((st_w7_TRUE hw hA hS hF).ext O15.2) (g := (mkF m 51 #[.val (.int p0), .unset, .unset, .unset, .unset] [(.int (7 : Int32)), (.ref b1), (.ref b1)])) rfl (hb hby at_51)
  refine own_step st16 ?_
  show own_Wp p e below _ T16 (mkF m 54 #[.val (.int p0), .unset, .unset, .unset, .unset] [(.ref (w7_TRUE Z)), (.int (7 : Int32)), (.ref b1), (.ref b1)])
  obtain ⟨c17, r17, q17, t17, u17, y17h, y17g⟩ := id V15
  have i17 : ¬ ((7 : Int32) < 0 ∨ c17.slots.size ≤ ((7 : Int32)).toNatClampNeg) := inb_of t17 ⟨by decide, by decide⟩
  obtain ⟨T17, h17, X17, e17, W17, st17⟩ := stR X16 hx hZ e16 r17 (j := (7 : Int32)) i17 rfl (Sto.ofV r17 q17 O1v (Ins.self ((ex_w7_TRUE hw hA hS hF).ext O15.2))) (g := (mkF m 54 #[.val (.int p0), .unset, .unset, .unset, .unset] [(.ref (w7_TRUE Z)), (.int (7 : Int32)), (.ref b1), (.ref b1)])) rfl rfl (hb hby at_54)
  refine own_step st17 ?_
  have N17 := Fr.snoc X17 N15 g1
  have O17 := O15.wr W17 g1
  have K17 : Keep h0 h17 [] := K15.wr W17 (Or.inr y1)
  have V17 : Arv Z h17 b1 k1 (.object "com/example/proviso/proviso/expression/Lexer$Kind") (19 : Int32) [(.ref (w0_NAME Z)), (.ref (w1_STRING Z)), (.ref (w2_INTEGER Z)), (.ref (w3_END Z)), (.ref (w4_NOT Z)), (.ref (w5_AND Z)), (.ref (w6_OR Z)), (.ref (w7_TRUE Z)), .null, .null, .null, .null, .null, .null, .null, .null, .null, .null, .null] .null := Arv.set r17 q17 t17 u17 y17h y17g rfl W17 7 rfl (Nat.le_of_ble_eq_true rfl)
  show own_Wp p e below _ T17 (mkF m 55 #[.val (.int p0), .unset, .unset, .unset, .unset] [(.ref b1)])
  refine own_step (fun _ k => XS.dup X17.here hx rfl (hb hby at_55) rfl rfl k) ?_
  show own_Wp p e below _ T17 (mkF m 56 #[.val (.int p0), .unset, .unset, .unset, .unset] [(.ref b1), (.ref b1)])
  refine own_step (fun _ k => XS.bipush X17.here hx rfl (hb hby at_56) k) ?_
  show own_Wp p e below _ T17 (mkF m 58 #[.val (.int p0), .unset, .unset, .unset, .unset] [(.int (8 : Int32)), (.ref b1), (.ref b1)])
  obtain ⟨T18, X18, e18, st18⟩ := getS2 X17 hx hZ hown (host := "") (Or.inl (hw _ (List.mem_of_getElem? (i := 20) rfl))) Via.refl e17 ((st_w8_FALSE hw hA hS hF).ext O17.2) (g := (mkF m 58 #[.val (.int p0), .unset, .unset, .unset, .unset] [(.int (8 : Int32)), (.ref b1), (.ref b1)])) rfl (hb hby at_58)
  refine own_step st18 ?_
  show own_Wp p e below _ T18 (mkF m 61 #[.val (.int p0), .unset, .unset, .unset, .unset] [(.ref (w8_FALSE Z)), (.int (8 : Int32)), (.ref b1), (.ref b1)])
  obtain ⟨c19, r19, q19, t19, u19, y19h, y19g⟩ := id V17
  have i19 : ¬ ((8 : Int32) < 0 ∨ c19.slots.size ≤ ((8 : Int32)).toNatClampNeg) := inb_of t19 ⟨by decide, by decide⟩
  obtain ⟨T19, h19, X19, e19, W19, st19⟩ := stR X18 hx hZ e18 r19 (j := (8 : Int32)) i19 rfl (Sto.ofV r19 q19 O1v (Ins.self ((ex_w8_FALSE hw hA hS hF).ext O17.2))) (g := (mkF m 61 #[.val (.int p0), .unset, .unset, .unset, .unset] [(.ref (w8_FALSE Z)), (.int (8 : Int32)), (.ref b1), (.ref b1)])) rfl rfl (hb hby at_61)
  refine own_step st19 ?_
  have N19 := Fr.snoc X19 N17 g1
  have O19 := O17.wr W19 g1
  have K19 : Keep h0 h19 [] := K17.wr W19 (Or.inr y1)
  have V19 : Arv Z h19 b1 k1 (.object "com/example/proviso/proviso/expression/Lexer$Kind") (19 : Int32) [(.ref (w0_NAME Z)), (.ref (w1_STRING Z)), (.ref (w2_INTEGER Z)), (.ref (w3_END Z)), (.ref (w4_NOT Z)), (.ref (w5_AND Z)), (.ref (w6_OR Z)), (.ref (w7_TRUE Z)), (.ref (w8_FALSE Z)), .null, .null, .null, .null, .null, .null, .null, .null, .null, .null] .null := Arv.set r19 q19 t19 u19 y19h y19g rfl W19 8 rfl (Nat.le_of_ble_eq_true rfl)
  show own_Wp p e below _ T19 (mkF m 62 #[.val (.int p0), .unset, .unset, .unset, .unset] [(.ref b1)])
  refine own_step (fun _ k => XS.dup X19.here hx rfl (hb hby at_62) rfl rfl k) ?_
  show own_Wp p e below _ T19 (mkF m 63 #[.val (.int p0), .unset, .unset, .unset, .unset] [(.ref b1), (.ref b1)])
  refine own_step (fun _ k => XS.bipush X19.here hx rfl (hb hby at_63) k) ?_
  show own_Wp p e below _ T19 (mkF m 65 #[.val (.int p0), .unset, .unset, .unset, .unset] [(.int (9 : Int32)), (.ref b1), (.ref b1)])
  obtain ⟨T20, X20, e20, st20⟩ := getS2 X19 hx hZ hown (host := "") (Or.inl (hw _ (List.mem_of_getElem? (i := 22) rfl))) Via.refl e19 ((st_w9_EQUAL hw hA hS hF).ext O19.2) (g := (mkF m 65 #[.val (.int p0), .unset, .unset, .unset, .unset] [(.int (9 : Int32)), (.ref b1), (.ref b1)])) rfl (hb hby at_65)
  refine own_step st20 ?_
  show own_Wp p e below _ T20 (mkF m 68 #[.val (.int p0), .unset, .unset, .unset, .unset] [(.ref (w9_EQUAL Z)), (.int (9 : Int32)), (.ref b1), (.ref b1)])
  obtain ⟨c21, r21, q21, t21, u21, y21h, y21g⟩ := id V19
  have i21 : ¬ ((9 : Int32) < 0 ∨ c21.slots.size ≤ ((9 : Int32)).toNatClampNeg) := inb_of t21 ⟨by decide, by decide⟩
  obtain ⟨T21, h21, X21, e21, W21, st21⟩ := stR X20 hx hZ e20 r21 (j := (9 : Int32)) i21 rfl (Sto.ofV r21 q21 O1v (Ins.self ((ex_w9_EQUAL hw hA hS hF).ext O19.2))) (g := (mkF m 68 #[.val (.int p0), .unset, .unset, .unset, .unset] [(.ref (w9_EQUAL Z)), (.int (9 : Int32)), (.ref b1), (.ref b1)])) rfl rfl (hb hby at_68)
  refine own_step st21 ?_
  have N21 := Fr.snoc X21 N19 g1
  have O21 := O19.wr W21 g1
  have K21 : Keep h0 h21 [] := K19.wr W21 (Or.inr y1)
  have V21 : Arv Z h21 b1 k1 (.object "com/example/proviso/proviso/expression/Lexer$Kind") (19 : Int32) [(.ref (w0_NAME Z)), (.ref (w1_STRING Z)), (.ref (w2_INTEGER Z)), (.ref (w3_END Z)), (.ref (w4_NOT Z)), (.ref (w5_AND Z)), (.ref (w6_OR Z)), (.ref (w7_TRUE Z)), (.ref (w8_FALSE Z)), (.ref (w9_EQUAL Z)), .null, .null, .null, .null, .null, .null, .null, .null, .null] .null := Arv.set r21 q21 t21 u21 y21h y21g rfl W21 9 rfl (Nat.le_of_ble_eq_true rfl)
  show own_Wp p e below _ T21 (mkF m 69 #[.val (.int p0), .unset, .unset, .unset, .unset] [(.ref b1)])
  refine own_step (fun _ k => XS.dup X21.here hx rfl (hb hby at_69) rfl rfl k) ?_
  show own_Wp p e below _ T21 (mkF m 70 #[.val (.int p0), .unset, .unset, .unset, .unset] [(.ref b1), (.ref b1)])
  refine own_step (fun _ k => XS.bipush X21.here hx rfl (hb hby at_70) k) ?_
  show own_Wp p e below _ T21 (mkF m 72 #[.val (.int p0), .unset, .unset, .unset, .unset] [(.int (10 : Int32)), (.ref b1), (.ref b1)])
  obtain ⟨T22, X22, e22, st22⟩ := getS2 X21 hx hZ hown (host := "") (Or.inl (hw _ (List.mem_of_getElem? (i := 24) rfl))) Via.refl e21 ((st_w10_NOT_EQUAL hw hA hS hF).ext O21.2) (g := (mkF m 72 #[.val (.int p0), .unset, .unset, .unset, .unset] [(.int (10 : Int32)), (.ref b1), (.ref b1)])) rfl (hb hby at_72)
  refine own_step st22 ?_
  show own_Wp p e below _ T22 (mkF m 75 #[.val (.int p0), .unset, .unset, .unset, .unset] [(.ref (w10_NOT_EQUAL Z)), (.int (10 : Int32)), (.ref b1), (.ref b1)])
  obtain ⟨c23, r23, q23, t23, u23, y23h, y23g⟩ := id V21
  have i23 : ¬ ((10 : Int32) < 0 ∨ c23.slots.size ≤ ((10 : Int32)).toNatClampNeg) := inb_of t23 ⟨by decide, by decide⟩
  obtain ⟨T23, h23, X23, e23, W23, st23⟩ := stR X22 hx hZ e22 r23 (j := (10 : Int32)) i23 rfl (Sto.ofV r23 q23 O1v (Ins.self ((ex_w10_NOT_EQUAL hw hA hS hF).ext O21.2))) (g := (mkF m 75 #[.val (.int p0), .unset, .unset, .unset, .unset] [(.ref (w10_NOT_EQUAL Z)), (.int (10 : Int32)), (.ref b1), (.ref b1)])) rfl rfl (hb hby at_75)
  refine own_step st23 ?_
  have N23 := Fr.snoc X23 N21 g1
  have O23 := O21.wr W23 g1
  have K23 : Keep h0 h23 [] := K21.wr W23 (Or.inr y1)
  have V23 : Arv Z h23 b1 k1 (.object "com/example/proviso/proviso/expression/Lexer$Kind") (19 : Int32) [(.ref (w0_NAME Z)), (.ref (w1_STRING Z)), (.ref (w2_INTEGER Z)), (.ref (w3_END Z)), (.ref (w4_NOT Z)), (.ref (w5_AND Z)), (.ref (w6_OR Z)), (.ref (w7_TRUE Z)), (.ref (w8_FALSE Z)), (.ref (w9_EQUAL Z)), (.ref (w10_NOT_EQUAL Z)), .null, .null, .null, .null, .null, .null, .null, .null] .null := Arv.set r23 q23 t23 u23 y23h y23g rfl W23 10 rfl (Nat.le_of_ble_eq_true rfl)
  show own_Wp p e below _ T23 (mkF m 76 #[.val (.int p0), .unset, .unset, .unset, .unset] [(.ref b1)])
  refine own_step (fun _ k => XS.dup X23.here hx rfl (hb hby at_76) rfl rfl k) ?_
  show own_Wp p e below _ T23 (mkF m 77 #[.val (.int p0), .unset, .unset, .unset, .unset] [(.ref b1), (.ref b1)])
  refine own_step (fun _ k => XS.bipush X23.here hx rfl (hb hby at_77) k) ?_
  show own_Wp p e below _ T23 (mkF m 79 #[.val (.int p0), .unset, .unset, .unset, .unset] [(.int (11 : Int32)), (.ref b1), (.ref b1)])
  obtain ⟨T24, X24, e24, st24⟩ := getS2 X23 hx hZ hown (host := "") (Or.inl (hw _ (List.mem_of_getElem? (i := 26) rfl))) Via.refl e23 ((st_w11_MATCH hw hA hS hF).ext O23.2) (g := (mkF m 79 #[.val (.int p0), .unset, .unset, .unset, .unset] [(.int (11 : Int32)), (.ref b1), (.ref b1)])) rfl (hb hby at_79)
  refine own_step st24 ?_
  show own_Wp p e below _ T24 (mkF m 82 #[.val (.int p0), .unset, .unset, .unset, .unset] [(.ref (w11_MATCH Z)), (.int (11 : Int32)), (.ref b1), (.ref b1)])
  obtain ⟨c25, r25, q25, t25, u25, y25h, y25g⟩ := id V23
  have i25 : ¬ ((11 : Int32) < 0 ∨ c25.slots.size ≤ ((11 : Int32)).toNatClampNeg) := inb_of t25 ⟨by decide, by decide⟩
  obtain ⟨T25, h25, X25, e25, W25, st25⟩ := stR X24 hx hZ e24 r25 (j := (11 : Int32)) i25 rfl (Sto.ofV r25 q25 O1v (Ins.self ((ex_w11_MATCH hw hA hS hF).ext O23.2))) (g := (mkF m 82 #[.val (.int p0), .unset, .unset, .unset, .unset] [(.ref (w11_MATCH Z)), (.int (11 : Int32)), (.ref b1), (.ref b1)])) rfl rfl (hb hby at_82)
  refine own_step st25 ?_
  have N25 := Fr.snoc X25 N23 g1
  have O25 := O23.wr W25 g1
  have K25 : Keep h0 h25 [] := K23.wr W25 (Or.inr y1)
  have V25 : Arv Z h25 b1 k1 (.object "com/example/proviso/proviso/expression/Lexer$Kind") (19 : Int32) [(.ref (w0_NAME Z)), (.ref (w1_STRING Z)), (.ref (w2_INTEGER Z)), (.ref (w3_END Z)), (.ref (w4_NOT Z)), (.ref (w5_AND Z)), (.ref (w6_OR Z)), (.ref (w7_TRUE Z)), (.ref (w8_FALSE Z)), (.ref (w9_EQUAL Z)), (.ref (w10_NOT_EQUAL Z)), (.ref (w11_MATCH Z)), .null, .null, .null, .null, .null, .null, .null] .null := Arv.set r25 q25 t25 u25 y25h y25g rfl W25 11 rfl (Nat.le_of_ble_eq_true rfl)
  show own_Wp p e below _ T25 (mkF m 83 #[.val (.int p0), .unset, .unset, .unset, .unset] [(.ref b1)])
  refine own_step (fun _ k => XS.dup X25.here hx rfl (hb hby at_83) rfl rfl k) ?_
  show own_Wp p e below _ T25 (mkF m 84 #[.val (.int p0), .unset, .unset, .unset, .unset] [(.ref b1), (.ref b1)])
  refine own_step (fun _ k => XS.bipush X25.here hx rfl (hb hby at_84) k) ?_
  show own_Wp p e below _ T25 (mkF m 86 #[.val (.int p0), .unset, .unset, .unset, .unset] [(.int (12 : Int32)), (.ref b1), (.ref b1)])
  obtain ⟨T26, X26, e26, st26⟩ := getS2 X25 hx hZ hown (host := "") (Or.inl (hw _ (List.mem_of_getElem? (i := 28) rfl))) Via.refl e25 ((st_w12_LESS_EQUAL hw hA hS hF).ext O25.2) (g := (mkF m 86 #[.val (.int p0), .unset, .unset, .unset, .unset] [(.int (12 : Int32)), (.ref b1), (.ref b1)])) rfl (hb hby at_86)
  refine own_step st26 ?_
  show own_Wp p e below _ T26 (mkF m 89 #[.val (.int p0), .unset, .unset, .unset, .unset] [(.ref (w12_LESS_EQUAL Z)), (.int (12 : Int32)), (.ref b1), (.ref b1)])
  obtain ⟨c27, r27, q27, t27, u27, y27h, y27g⟩ := id V25
  have i27 : ¬ ((12 : Int32) < 0 ∨ c27.slots.size ≤ ((12 : Int32)).toNatClampNeg) := inb_of t27 ⟨by decide, by decide⟩
  obtain ⟨T27, h27, X27, e27, W27, st27⟩ := stR X26 hx hZ e26 r27 (j := (12 : Int32)) i27 rfl (Sto.ofV r27 q27 O1v (Ins.self ((ex_w12_LESS_EQUAL hw hA hS hF).ext O25.2))) (g := (mkF m 89 #[.val (.int p0), .unset, .unset, .unset, .unset] [(.ref (w12_LESS_EQUAL Z)), (.int (12 : Int32)), (.ref b1), (.ref b1)])) rfl rfl (hb hby at_89)
  refine own_step st27 ?_
  have N27 := Fr.snoc X27 N25 g1
  have O27 := O25.wr W27 g1
  have K27 : Keep h0 h27 [] := K25.wr W27 (Or.inr y1)
  have V27 : Arv Z h27 b1 k1 (.object "com/example/proviso/proviso/expression/Lexer$Kind") (19 : Int32) [(.ref (w0_NAME Z)), (.ref (w1_STRING Z)), (.ref (w2_INTEGER Z)), (.ref (w3_END Z)), (.ref (w4_NOT Z)), (.ref (w5_AND Z)), (.ref (w6_OR Z)), (.ref (w7_TRUE Z)), (.ref (w8_FALSE Z)), (.ref (w9_EQUAL Z)), (.ref (w10_NOT_EQUAL Z)), (.ref (w11_MATCH Z)), (.ref (w12_LESS_EQUAL Z)), .null, .null, .null, .null, .null, .null] .null := Arv.set r27 q27 t27 u27 y27h y27g rfl W27 12 rfl (Nat.le_of_ble_eq_true rfl)
  show own_Wp p e below _ T27 (mkF m 90 #[.val (.int p0), .unset, .unset, .unset, .unset] [(.ref b1)])
  refine own_step (fun _ k => XS.dup X27.here hx rfl (hb hby at_90) rfl rfl k) ?_
  show own_Wp p e below _ T27 (mkF m 91 #[.val (.int p0), .unset, .unset, .unset, .unset] [(.ref b1), (.ref b1)])
  refine own_step (fun _ k => XS.bipush X27.here hx rfl (hb hby at_91) k) ?_
  show own_Wp p e below _ T27 (mkF m 93 #[.val (.int p0), .unset, .unset, .unset, .unset] [(.int (13 : Int32)), (.ref b1), (.ref b1)])
  obtain ⟨T28, X28, e28, st28⟩ := getS2 X27 hx hZ hown (host := "") (Or.inl (hw _ (List.mem_of_getElem? (i := 30) rfl))) Via.refl e27 ((st_w13_LESS hw hA hS hF).ext O27.2) (g := (mkF m 93 #[.val (.int p0), .unset, .unset, .unset, .unset] [(.int (13 : Int32)), (.ref b1), (.ref b1)])) rfl (hb hby at_93)
  refine own_step st28 ?_
  show own_Wp p e below _ T28 (mkF m 96 #[.val (.int p0), .unset, .unset, .unset, .unset] [(.ref (w13_LESS Z)), (.int (13 : Int32)), (.ref b1), (.ref b1)])
  obtain ⟨c29, r29, q29, t29, u29, y29h, y29g⟩ := id V27
  have i29 : ¬ ((13 : Int32) < 0 ∨ c29.slots.size ≤ ((13 : Int32)).toNatClampNeg) := inb_of t29 ⟨by decide, by decide⟩
  obtain ⟨T29, h29, X29, e29, W29, st29⟩ := stR X28 hx hZ e28 r29 (j := (13 : Int32)) i29 rfl (Sto.ofV r29 q29 O1v (Ins.self ((ex_w13_LESS hw hA hS hF).ext O27.2))) (g := (mkF m 96 #[.val (.int p0), .unset, .unset, .unset, .unset] [(.ref (w13_LESS Z)), (.int (13 : Int32)), (.ref b1), (.ref b1)])) rfl rfl (hb hby at_96)
  refine own_step st29 ?_
  have N29 := Fr.snoc X29 N27 g1
  have O29 := O27.wr W29 g1
  have K29 : Keep h0 h29 [] := K27.wr W29 (Or.inr y1)
  have V29 : Arv Z h29 b1 k1 (.object "com/example/proviso/proviso/expression/Lexer$Kind") (19 : Int32) [(.ref (w0_NAME Z)), (.ref (w1_STRING Z)), (.ref (w2_INTEGER Z)), (.ref (w3_END Z)), (.ref (w4_NOT Z)), (.ref (w5_AND Z)), (.ref (w6_OR Z)), (.ref (w7_TRUE Z)), (.ref (w8_FALSE Z)), (.ref (w9_EQUAL Z)), (.ref (w10_NOT_EQUAL Z)), (.ref (w11_MATCH Z)), (.ref (w12_LESS_EQUAL Z)), (.ref (w13_LESS Z)), .null, .null, .null, .null, .null] .null := Arv.set r29 q29 t29 u29 y29h y29g rfl W29 13 rfl (Nat.le_of_ble_eq_true rfl)
  show own_Wp p e below _ T29 (mkF m 97 #[.val (.int p0), .unset, .unset, .unset, .unset] [(.ref b1)])
  refine own_step (fun _ k => XS.dup X29.here hx rfl (hb hby at_97) rfl rfl k) ?_
  show own_Wp p e below _ T29 (mkF m 98 #[.val (.int p0), .unset, .unset, .unset, .unset] [(.ref b1), (.ref b1)])
  refine own_step (fun _ k => XS.bipush X29.here hx rfl (hb hby at_98) k) ?_
  show own_Wp p e below _ T29 (mkF m 100 #[.val (.int p0), .unset, .unset, .unset, .unset] [(.int (14 : Int32)), (.ref b1), (.ref b1)])
  obtain ⟨T30, X30, e30, st30⟩ := getS2 X29 hx hZ hown (host := "") (Or.inl (hw _ (List.mem_of_getElem? (i := 32) rfl))) Via.refl e29 ((st_w14_GREATER_EQUAL hw hA hS hF).ext O29.2) (g := (mkF m 100 #[.val (.int p0), .unset, .unset, .unset, .unset] [(.int (14 : Int32)), (.ref b1), (.ref b1)])) rfl (hb hby at_100)
  refine own_step st30 ?_
  show own_Wp p e below _ T30 (mkF m 103 #[.val (.int p0), .unset, .unset, .unset, .unset] [(.ref (w14_GREATER_EQUAL Z)), (.int (14 : Int32)), (.ref b1), (.ref b1)])
  obtain ⟨c31, r31, q31, t31, u31, y31h, y31g⟩ := id V29
  have i31 : ¬ ((14 : Int32) < 0 ∨ c31.slots.size ≤ ((14 : Int32)).toNatClampNeg) := inb_of t31 ⟨by decide, by decide⟩
  obtain ⟨T31, h31, X31, e31, W31, st31⟩ := stR X30 hx hZ e30 r31 (j := (14 : Int32)) i31 rfl (Sto.ofV r31 q31 O1v (Ins.self ((ex_w14_GREATER_EQUAL hw hA hS hF).ext O29.2))) (g := (mkF m 103 #[.val (.int p0), .unset, .unset, .unset, .unset] [(.ref (w14_GREATER_EQUAL Z)), (.int (14 : Int32)), (.ref b1), (.ref b1)])) rfl rfl (hb hby at_103)
  refine own_step st31 ?_
  have N31 := Fr.snoc X31 N29 g1
  have O31 := O29.wr W31 g1
  have K31 : Keep h0 h31 [] := K29.wr W31 (Or.inr y1)
  have V31 : Arv Z h31 b1 k1 (.object "com/example/proviso/proviso/expression/Lexer$Kind") (19 : Int32) [(.ref (w0_NAME Z)), (.ref (w1_STRING Z)), (.ref (w2_INTEGER Z)), (.ref (w3_END Z)), (.ref (w4_NOT Z)), (.ref (w5_AND Z)), (.ref (w6_OR Z)), (.ref (w7_TRUE Z)), (.ref (w8_FALSE Z)), (.ref (w9_EQUAL Z)), (.ref (w10_NOT_EQUAL Z)), (.ref (w11_MATCH Z)), (.ref (w12_LESS_EQUAL Z)), (.ref (w13_LESS Z)), (.ref (w14_GREATER_EQUAL Z)), .null, .null, .null, .null] .null := Arv.set r31 q31 t31 u31 y31h y31g rfl W31 14 rfl (Nat.le_of_ble_eq_true rfl)
  show own_Wp p e below _ T31 (mkF m 104 #[.val (.int p0), .unset, .unset, .unset, .unset] [(.ref b1)])
  refine own_step (fun _ k => XS.dup X31.here hx rfl (hb hby at_104) rfl rfl k) ?_
  show own_Wp p e below _ T31 (mkF m 105 #[.val (.int p0), .unset, .unset, .unset, .unset] [(.ref b1), (.ref b1)])
  refine own_step (fun _ k => XS.bipush X31.here hx rfl (hb hby at_105) k) ?_
  show own_Wp p e below _ T31 (mkF m 107 #[.val (.int p0), .unset, .unset, .unset, .unset] [(.int (15 : Int32)), (.ref b1), (.ref b1)])
  obtain ⟨T32, X32, e32, st32⟩ := getS2 X31 hx hZ hown (host := "") (Or.inl (hw _ (List.mem_of_getElem? (i := 34) rfl))) Via.refl e31 ((st_w15_GREATER hw hA hS hF).ext O31.2) (g := (mkF m 107 #[.val (.int p0), .unset, .unset, .unset, .unset] [(.int (15 : Int32)), (.ref b1), (.ref b1)])) rfl (hb hby at_107)
  refine own_step st32 ?_
  show own_Wp p e below _ T32 (mkF m 110 #[.val (.int p0), .unset, .unset, .unset, .unset] [(.ref (w15_GREATER Z)), (.int (15 : Int32)), (.ref b1), (.ref b1)])
  obtain ⟨c33, r33, q33, t33, u33, y33h, y33g⟩ := id V31
  have i33 : ¬ ((15 : Int32) < 0 ∨ c33.slots.size ≤ ((15 : Int32)).toNatClampNeg) := inb_of t33 ⟨by decide, by decide⟩
  obtain ⟨T33, h33, X33, e33, W33, st33⟩ := stR X32 hx hZ e32 r33 (j := (15 : Int32)) i33 rfl (Sto.ofV r33 q33 O1v (Ins.self ((ex_w15_GREATER hw hA hS hF).ext O31.2))) (g := (mkF m 110 #[.val (.int p0), .unset, .unset, .unset, .unset] [(.ref (w15_GREATER Z)), (.int (15 : Int32)), (.ref b1), (.ref b1)])) rfl rfl (hb hby at_110)
  refine own_step st33 ?_
  have N33 := Fr.snoc X33 N31 g1
  have O33 := O31.wr W33 g1
  have K33 : Keep h0 h33 [] := K31.wr W33 (Or.inr y1)
  have V33 : Arv Z h33 b1 k1 (.object "com/example/proviso/proviso/expression/Lexer$Kind") (19 : Int32) [(.ref (w0_NAME Z)), (.ref (w1_STRING Z)), (.ref (w2_INTEGER Z)), (.ref (w3_END Z)), (.ref (w4_NOT Z)), (.ref (w5_AND Z)), (.ref (w6_OR Z)), (.ref (w7_TRUE Z)), (.ref (w8_FALSE Z)), (.ref (w9_EQUAL Z)), (.ref (w10_NOT_EQUAL Z)), (.ref (w11_MATCH Z)), (.ref (w12_LESS_EQUAL Z)), (.ref (w13_LESS Z)), (.ref (w14_GREATER_EQUAL Z)), (.ref (w15_GREATER Z)), .null, .null, .null] .null := Arv.set r33 q33 t33 u33 y33h y33g rfl W33 15 rfl (Nat.le_of_ble_eq_true rfl)
  show own_Wp p e below _ T33 (mkF m 111 #[.val (.int p0), .unset, .unset, .unset, .unset] [(.ref b1)])
  refine own_step (fun _ k => XS.dup X33.here hx rfl (hb hby at_111) rfl rfl k) ?_
  show own_Wp p e below _ T33 (mkF m 112 #[.val (.int p0), .unset, .unset, .unset, .unset] [(.ref b1), (.ref b1)])
  refine own_step (fun _ k => XS.bipush X33.here hx rfl (hb hby at_112) k) ?_
  show own_Wp p e below _ T33 (mkF m 114 #[.val (.int p0), .unset, .unset, .unset, .unset] [(.int (16 : Int32)), (.ref b1), (.ref b1)])
  obtain ⟨T34, X34, e34, st34⟩ := getS2 X33 hx hZ hown (host := "") (Or.inl (hw _ (List.mem_of_getElem? (i := 36) rfl))) Via.refl e33 ((st_w16_LEFT_PAREN hw hA hS hF).ext O33.2) (g := (mkF m 114 #[.val (.int p0), .unset, .unset, .unset, .unset] [(.int (16 : Int32)), (.ref b1), (.ref b1)])) rfl (hb hby at_114)
  refine own_step st34 ?_
  show own_Wp p e below _ T34 (mkF m 117 #[.val (.int p0), .unset, .unset, .unset, .unset] [(.ref (w16_LEFT_PAREN Z)), (.int (16 : Int32)), (.ref b1), (.ref b1)])
  obtain ⟨c35, r35, q35, t35, u35, y35h, y35g⟩ := id V33
  have i35 : ¬ ((16 : Int32) < 0 ∨ c35.slots.size ≤ ((16 : Int32)).toNatClampNeg) := inb_of t35 ⟨by decide, by decide⟩
  obtain ⟨T35, h35, X35, e35, W35, st35⟩ := stR X34 hx hZ e34 r35 (j := (16 : Int32)) i35 rfl (Sto.ofV r35 q35 O1v (Ins.self ((ex_w16_LEFT_PAREN hw hA hS hF).ext O33.2))) (g := (mkF m 117 #[.val (.int p0), .unset, .unset, .unset, .unset] [(.ref (w16_LEFT_PAREN Z)), (.int (16 : Int32)), (.ref b1), (.ref b1)])) rfl rfl (hb hby at_117)
  refine own_step st35 ?_
  have N35 := Fr.snoc X35 N33 g1
  have O35 := O33.wr W35 g1
  have K35 : Keep h0 h35 [] := K33.wr W35 (Or.inr y1)
  have V35 : Arv Z h35 b1 k1 (.object "com/example/proviso/proviso/expression/Lexer$Kind") (19 : Int32) [(.ref (w0_NAME Z)), (.ref (w1_STRING Z)), (.ref (w2_INTEGER Z)), (.ref (w3_END Z)), (.ref (w4_NOT Z)), (.ref (w5_AND Z)), (.ref (w6_OR Z)), (.ref (w7_TRUE Z)), (.ref (w8_FALSE Z)), (.ref (w9_EQUAL Z)), (.ref (w10_NOT_EQUAL Z)), (.ref (w11_MATCH Z)), (.ref (w12_LESS_EQUAL Z)), (.ref (w13_LESS Z)), (.ref (w14_GREATER_EQUAL Z)), (.ref (w15_GREATER Z)), (.ref (w16_LEFT_PAREN Z)), .null, .null] .null := Arv.set r35 q35 t35 u35 y35h y35g rfl W35 16 rfl (Nat.le_of_ble_eq_true rfl)
  show own_Wp p e below _ T35 (mkF m 118 #[.val (.int p0), .unset, .unset, .unset, .unset] [(.ref b1)])
  refine own_step (fun _ k => XS.dup X35.here hx rfl (hb hby at_118) rfl rfl k) ?_
  show own_Wp p e below _ T35 (mkF m 119 #[.val (.int p0), .unset, .unset, .unset, .unset] [(.ref b1), (.ref b1)])
  refine own_step (fun _ k => XS.bipush X35.here hx rfl (hb hby at_119) k) ?_
  show own_Wp p e below _ T35 (mkF m 121 #[.val (.int p0), .unset, .unset, .unset, .unset] [(.int (17 : Int32)), (.ref b1), (.ref b1)])
  obtain ⟨T36, X36, e36, st36⟩ := getS2 X35 hx hZ hown (host := "") (Or.inl (hw _ (List.mem_of_getElem? (i := 38) rfl))) Via.refl e35 ((st_w17_RIGHT_PAREN hw hA hS hF).ext O35.2) (g := (mkF m 121 #[.val (.int p0), .unset, .unset, .unset, .unset] [(.int (17 : Int32)), (.ref b1), (.ref b1)])) rfl (hb hby at_121)
  refine own_step st36 ?_
  show own_Wp p e below _ T36 (mkF m 124 #[.val (.int p0), .unset, .unset, .unset, .unset] [(.ref (w17_RIGHT_PAREN Z)), (.int (17 : Int32)), (.ref b1), (.ref b1)])
  obtain ⟨c37, r37, q37, t37, u37, y37h, y37g⟩ := id V35
  have i37 : ¬ ((17 : Int32) < 0 ∨ c37.slots.size ≤ ((17 : Int32)).toNatClampNeg) := inb_of t37 ⟨by decide, by decide⟩
  obtain ⟨T37, h37, X37, e37, W37, st37⟩ := stR X36 hx hZ e36 r37 (j := (17 : Int32)) i37 rfl (Sto.ofV r37 q37 O1v (Ins.self ((ex_w17_RIGHT_PAREN hw hA hS hF).ext O35.2))) (g := (mkF m 124 #[.val (.int p0), .unset, .unset, .unset, .unset] [(.ref (w17_RIGHT_PAREN Z)), (.int (17 : Int32)), (.ref b1), (.ref b1)])) rfl rfl (hb hby at_124)
  refine own_step st37 ?_
  have N37 := Fr.snoc X37 N35 g1
  have O37 := O35.wr W37 g1
  have K37 : Keep h0 h37 [] := K35.wr W37 (Or.inr y1)
  have V37 : Arv Z h37 b1 k1 (.object "com/example/proviso/proviso/expression/Lexer$Kind") (19 : Int32) [(.ref (w0_NAME Z)), (.ref (w1_STRING Z)), (.ref (w2_INTEGER Z)), (.ref (w3_END Z)), (.ref (w4_NOT Z)), (.ref (w5_AND Z)), (.ref (w6_OR Z)), (.ref (w7_TRUE Z)), (.ref (w8_FALSE Z)), (.ref (w9_EQUAL Z)), (.ref (w10_NOT_EQUAL Z)), (.ref (w11_MATCH Z)), (.ref (w12_LESS_EQUAL Z)), (.ref (w13_LESS Z)), (.ref (w14_GREATER_EQUAL Z)), (.ref (w15_GREATER Z)), (.ref (w16_LEFT_PAREN Z)), (.ref (w17_RIGHT_PAREN Z)), .null] .null := Arv.set r37 q37 t37 u37 y37h y37g rfl W37 17 rfl (Nat.le_of_ble_eq_true rfl)
  show own_Wp p e below _ T37 (mkF m 125 #[.val (.int p0), .unset, .unset, .unset, .unset] [(.ref b1)])
  refine own_step (fun _ k => XS.dup X37.here hx rfl (hb hby at_125) rfl rfl k) ?_
  show own_Wp p e below _ T37 (mkF m 126 #[.val (.int p0), .unset, .unset, .unset, .unset] [(.ref b1), (.ref b1)])
  refine own_step (fun _ k => XS.bipush X37.here hx rfl (hb hby at_126) k) ?_
  show own_Wp p e below _ T37 (mkF m 128 #[.val (.int p0), .unset, .unset, .unset, .unset] [(.int (18 : Int32)), (.ref b1), (.ref b1)])
  obtain ⟨T38, X38, e38, st38⟩ := getS2 X37 hx hZ hown (host := "") (Or.inl (hw _ (List.mem_of_getElem? (i := 40) rfl))) Via.refl e37 ((st_w18_COMMA hw hA hS hF).ext O37.2) (g := (mkF m 128 #[.val (.int p0), .unset, .unset, .unset, .unset] [(.int (18 : Int32)), (.ref b1), (.ref b1)])) rfl (hb hby at_128)
  refine own_step st38 ?_
  show own_Wp p e below _ T38 (mkF m 131 #[.val (.int p0), .unset, .unset, .unset, .unset] [(.ref (w18_COMMA Z)), (.int (18 : Int32)), (.ref b1), (.ref b1)])
  obtain ⟨c39, r39, q39, t39, u39, y39h, y39g⟩ := id V37
  have i39 : ¬ ((18 : Int32) < 0 ∨ c39.slots.size ≤ ((18 : Int32)).toNatClampNeg) := inb_of t39 ⟨by decide, by decide⟩
  obtain ⟨T39, h39, X39, e39, W39, st39⟩ := stR X38 hx hZ e38 r39 (j := (18 : Int32)) i39 rfl (Sto.ofV r39 q39 O1v (Ins.self ((ex_w18_COMMA hw hA hS hF).ext O37.2))) (g := (mkF m 131 #[.val (.int p0), .unset, .unset, .unset, .unset] [(.ref (w18_COMMA Z)), (.int (18 : Int32)), (.ref b1), (.ref b1)])) rfl rfl (hb hby at_131)
  refine own_step st39 ?_
  have N39 := Fr.snoc X39 N37 g1
  have O39 := O37.wr W39 g1
  have K39 : Keep h0 h39 [] := K37.wr W39 (Or.inr y1)
  have V39 : Arv Z h39 b1 k1 (.object "com/example/proviso/proviso/expression/Lexer$Kind") (19 : Int32) [(.ref (w0_NAME Z)), (.ref (w1_STRING Z)), (.ref (w2_INTEGER Z)), (.ref (w3_END Z)), (.ref (w4_NOT Z)), (.ref (w5_AND Z)), (.ref (w6_OR Z)), (.ref (w7_TRUE Z)), (.ref (w8_FALSE Z)), (.ref (w9_EQUAL Z)), (.ref (w10_NOT_EQUAL Z)), (.ref (w11_MATCH Z)), (.ref (w12_LESS_EQUAL Z)), (.ref (w13_LESS Z)), (.ref (w14_GREATER_EQUAL Z)), (.ref (w15_GREATER Z)), (.ref (w16_LEFT_PAREN Z)), (.ref (w17_RIGHT_PAREN Z)), (.ref (w18_COMMA Z))] .null := Arv.set r39 q39 t39 u39 y39h y39g rfl W39 18 rfl (Nat.le_of_ble_eq_true rfl)
  show own_Wp p e below _ T39 (mkF m 132 #[.val (.int p0), .unset, .unset, .unset, .unset] [(.ref b1)])
  refine own_step (fun _ k => XS.astoreN X39.here hx rfl (hb hby at_132) rfl rfl (l' := #[.val (.int p0), .val (.ref b1), .unset, .unset, .unset]) rfl k) ?_
  show own_Wp p e below _ T39 (mkF m 133 #[.val (.int p0), .val (.ref b1), .unset, .unset, .unset] [])
  refine own_step (fun _ k => XS.aloadN X39.here hx rfl (hb hby at_133) rfl rfl k) ?_
  show own_Wp p e below _ T39 (mkF m 134 #[.val (.int p0), .val (.ref b1), .unset, .unset, .unset] [(.ref b1)])
  refine own_step (fun _ k => XS.iloadN X39.here hx rfl (hb hby at_134) rfl k) ?_
  show own_Wp p e below _ T39 (mkF m 135 #[.val (.int p0), .val (.ref b1), .unset, .unset, .unset] [(.int p0), (.ref b1)])
  refine own_step (X39.ldcInt hx hown (mvT hZ (hw _ (List.mem_of_getElem? (i := 42) rfl))) (g := (mkF m 135 #[.val (.int p0), .val (.ref b1), .unset, .unset, .unset] [(.int p0), (.ref b1)])) rfl (hb hby at_135)) ?_
  show own_Wp p e below _ T39 (mkF m 137 #[.val (.int p0), .val (.ref b1), .unset, .unset, .unset] [(.int (2147483647 : Int32)), (.int p0), (.ref b1)])
  refine own_step (fun _ k => XS.iand X39.here hx rfl (hb hby at_137) rfl k) ?_
  show own_Wp p e below _ T39 (mkF m 138 #[.val (.int p0), .val (.ref b1), .unset, .unset, .unset] [(.int (p0 &&& (2147483647 : Int32))), (.ref b1)])
  refine own_step (fun _ k => XS.bipush X39.here hx rfl (hb hby at_138) k) ?_
  show own_Wp p e below _ T39 (mkF m 140 #[.val (.int p0), .val (.ref b1), .unset, .unset, .unset] [(.int (19 : Int32)), (.int (p0 &&& (2147483647 : Int32))), (.ref b1)])
  refine own_step (fun _ k => iremM (g := (mkF m 140 #[.val (.int p0), .val (.ref b1), .unset, .unset, .unset] [(.int (19 : Int32)), (.int (p0 &&& (2147483647 : Int32))), (.ref b1)])) X39 hx rfl (hb hby at_140) rfl (by decide) k) ?_
  show own_Wp p e below _ T39 (mkF m 141 #[.val (.int p0), .val (.ref b1), .unset, .unset, .unset] [(.int ((p0 &&& (2147483647 : Int32)) % (19 : Int32))), (.ref b1)])
  rcases own_mod19 p0 with hm | hm | hm | hm | hm | hm | hm | hm | hm | hm | hm | hm | hm | hm | hm | hm | hm | hm | hm
  · skip
    rw [hm]
    show own_Wp p e below _ T39 (mkF m 141 #[.val (.int p0), .val (.ref b1), .unset, .unset, .unset] [(.int (0 : Int32)), (.ref b1)])
    obtain ⟨c40, r40, q40, t40, u40, y40h, y40g⟩ := id V39
    have i40 : ¬ ((0 : Int32) < 0 ∨ c40.slots.size ≤ ((0 : Int32)).toNatClampNeg) := inb_of t40 ⟨by decide, by decide⟩
    refine own_step (fun _ k => X39.aaload hx (j := (0 : Int32)) (v := (.ref (w0_NAME Z))) (by rw [e39]; exact r40.1) (State.isArrayOf_alike hZ.alike r40.2.1) rfl r40.2.2 i40 (own_get t40 y40h i40 0 rfl) (g := (mkF m 141 #[.val (.int p0), .val (.ref b1), .unset, .unset, .unset] [(.int (0 : Int32)), (.ref b1)])) rfl rfl (hb hby at_141) _ k) ?_
    show own_Wp p e below _ T39 (mkF m 142 #[.val (.int p0), .val (.ref b1), .unset, .unset, .unset] [(.ref (w0_NAME Z))])
    refine own_step (fun _ k => XS.astoreN X39.here hx rfl (hb hby at_142) rfl rfl (l' := #[.val (.int p0), .val (.ref b1), .val (.ref (w0_NAME Z)), .unset, .unset]) rfl k) ?_
    show own_Wp p e below _ T39 (mkF m 143 #[.val (.int p0), .val (.ref b1), .val (.ref (w0_NAME Z)), .unset, .unset] [])
    refine own_step (fun _ k => XS.aloadN X39.here hx rfl (hb hby at_143) rfl rfl k) ?_
    show own_Wp p e below _ T39 (mkF m 144 #[.val (.int p0), .val (.ref b1), .val (.ref (w0_NAME Z)), .unset, .unset] [(.ref (w0_NAME Z))])
    obtain ⟨_, T41, L41, X41, hQ41, st41⟩ := own_callS X39 hx hZ hown (hw _ (List.mem_of_getElem? (i := 43) rfl)) (hw _ (List.mem_of_getElem? (i := 44) rfl)) (hw _ (List.mem_of_getElem? (i := 45) rfl)) (hw _ (List.mem_of_getElem? (i := 46) rfl)) (by decide) (rm1_2 l Z a0 hw hA hS hF [] (w0_NAME Z) h39 n0 O39 (Fld.ne (fl1 hw hA hS hF) (fl2 hw hA hS hF) (by decide)) (Fld.ne (fl4 hw hA hS hF) (fl2 hw hA hS hF) (by decide)) (Fld.ne (fl6 hw hA hS hF) (fl2 hw hA hS hF) (by decide)) (Fld.ne (fl8 hw hA hS hF) (fl2 hw hA hS hF) (by decide)) (Fld.ne (fl10 hw hA hS hF) (fl2 hw hA hS hF) (by decide)) (Fld.ne (fl12 hw hA hS hF) (fl2 hw hA hS hF) (by decide)) (Fld.ne (fl14 hw hA hS hF) (fl2 hw hA hS hF) (by decide))) (W := 0) (by decide) (by decide) [(.ref (w0_NAME Z))] rfl (lenOf pd4 rfl) (Ls := #[.val (.int p0), .val (.ref b1), .val (.ref (w0_NAME Z)), .unset, .unset]) (by rw [hml]; rfl) (rest := []) (Nat.le_of_eq rfl) (hb hby at_144) e39 (by decide) (by decide)
    refine st41 _ ?_
    obtain ⟨rfl, N41q, K41q⟩ := hQ41
    have N41 := Fr.app N39 N41q
    have O41 := O39.keep K41q all0
    have K41 : Keep h0 T41.heap [] := Keep.trans K39 K41q all0
    show own_Wp p e below _ T41 (mkF m 147 #[.val (.int p0), .val (.ref b1), .val (.ref (w0_NAME Z)), .unset, .unset] [(.ref (w27_EMPTY Z))])
    refine own_step (fun _ k => XS.astoreN X41.here hx rfl (hb hby at_147) rfl rfl (l' := #[.val (.int p0), .val (.ref b1), .val (.ref (w0_NAME Z)), .val (.ref (w27_EMPTY Z)), .unset]) rfl k) ?_
    show own_Wp p e below _ T41 (mkF m 148 #[.val (.int p0), .val (.ref b1), .val (.ref (w0_NAME Z)), .val (.ref (w27_EMPTY Z)), .unset] [])
    refine own_step (fun _ k => XS.aloadN X41.here hx rfl (hb hby at_148) rfl rfl k) ?_
    show own_Wp p e below _ T41 (mkF m 149 #[.val (.int p0), .val (.ref b1), .val (.ref (w0_NAME Z)), .val (.ref (w27_EMPTY Z)), .unset] [(.ref (w27_EMPTY Z))])
    refine own_step (fun _ k => XS.aconstNull X41.here hx rfl (hb hby at_149) k) ?_
    show own_Wp p e below _ T41 (mkF m 150 #[.val (.int p0), .val (.ref b1), .val (.ref (w0_NAME Z)), .val (.ref (w27_EMPTY Z)), .unset] [.null, (.ref (w27_EMPTY Z))])
    obtain ⟨_, T42, L42, X42, hQ42, st42⟩ := own_callV X41 hx hZ hown (hw _ (List.mem_of_getElem? (i := 76) rfl)) (hw _ (List.mem_of_getElem? (i := 77) rfl)) (notFace_of_selects (args := #[]) (mvT hZ (hw _ (List.mem_of_getElem? (i := 79) rfl)))) (hw _ (List.mem_of_getElem? (i := 79) rfl)) (hw _ (List.mem_of_getElem? (i := 78) rfl)) (hw _ (List.mem_of_getElem? (i := 73) rfl)) (hw _ (List.mem_of_getElem? (i := 80) rfl)) (by decide) ((ex_w27_EMPTY hw hA hS hF).ext O41.2) (rm4_3 l Z a0 hw hA hS hF [] (w27_EMPTY Z) T41.heap n0 O41 (fl26 hw hA hS hF)) (W := 0) (by decide) (by decide) [.null] rfl (lenOf pd5 rfl) (Ls := #[.val (.int p0), .val (.ref b1), .val (.ref (w0_NAME Z)), .val (.ref (w27_EMPTY Z)), .unset]) (by rw [hml]; rfl) (rest := []) (Nat.le_of_eq rfl) (hb hby at_150) rfl (by decide) (by decide)
    refine st42 _ ?_
    obtain ⟨rfl, N42q, e42⟩ := hQ42
    have N42 := Fr.app N41 N42q
    show own_Wp p e below _ T42 (mkF m 153 #[.val (.int p0), .val (.ref b1), .val (.ref (w0_NAME Z)), .val (.ref (w27_EMPTY Z)), .unset] [.null])
    refine own_step (fun _ k => X42.checkcastNull hx (g := (mkF m 153 #[.val (.int p0), .val (.ref b1), .val (.ref (w0_NAME Z)), .val (.ref (w27_EMPTY Z)), .unset] [.null])) rfl rfl (hb hby at_153) _ k) ?_
    show own_Wp p e below _ T42 (mkF m 156 #[.val (.int p0), .val (.ref b1), .val (.ref (w0_NAME Z)), .val (.ref (w27_EMPTY Z)), .unset] [.null])
    refine own_step (fun _ k => XS.astore X42.here hx rfl (hb hby at_156) rfl rfl (l' := #[.val (.int p0), .val (.ref b1), .val (.ref (w0_NAME Z)), .val (.ref (w27_EMPTY Z)), .val .null]) rfl k) ?_
    show own_Wp p e below _ T42 (mkF m 158 #[.val (.int p0), .val (.ref b1), .val (.ref (w0_NAME Z)), .val (.ref (w27_EMPTY Z)), .val .null] [])
    refine own_step (fun _ k => XS.aload X42.here hx rfl (hb hby at_158) rfl rfl k) ?_
    show own_Wp p e below _ T42 (mkF m 160 #[.val (.int p0), .val (.ref b1), .val (.ref (w0_NAME Z)), .val (.ref (w27_EMPTY Z)), .val .null] [.null])
    refine own_step (fun _ k => XS.aloadN X42.here hx rfl (hb hby at_160) rfl rfl k) ?_
    show own_Wp p e below _ T42 (mkF m 161 #[.val (.int p0), .val (.ref b1), .val (.ref (w0_NAME Z)), .val (.ref (w27_EMPTY Z)), .val .null] [(.ref (w0_NAME Z)), .null])
    obtain ⟨_, T44, L44, X44, hQ44, st44⟩ := own_callS X42 hx hZ hown (hw _ (List.mem_of_getElem? (i := 83) rfl)) (hw _ (List.mem_of_getElem? (i := 84) rfl)) (hw _ (List.mem_of_getElem? (i := 85) rfl)) (hw _ (List.mem_of_getElem? (i := 86) rfl)) (by decide) (rm5_4 l Z a0 hw hA hS hF [] (w0_NAME Z) T41.heap n0 O41 (Fld.ne (fl2 hw hA hS hF) (fl1 hw hA hS hF) (by decide)) (Fld.ne (fl2 hw hA hS hF) (fl4 hw hA hS hF) (by decide)) (Fld.ne (fl2 hw hA hS hF) (fl6 hw hA hS hF) (by decide)) (Fld.ne (fl2 hw hA hS hF) (fl8 hw hA hS hF) (by decide)) (Fld.ne (fl2 hw hA hS hF) (fl10 hw hA hS hF) (by decide)) (Fld.ne (fl2 hw hA hS hF) (fl12 hw hA hS hF) (by decide)) (Fld.ne (fl2 hw hA hS hF) (fl14 hw hA hS hF) (by decide))) (W := 1) (by decide) (by decide) [(.ref (w0_NAME Z))] rfl (lenOf pd7 rfl) (Ls := #[.val (.int p0), .val (.ref b1), .val (.ref (w0_NAME Z)), .val (.ref (w27_EMPTY Z)), .val .null]) (by rw [hml]; rfl) (rest := [.null]) (Nat.le_of_eq rfl) (hb hby at_161) e42 (by decide) (by decide)
    refine st44 _ ?_
    obtain ⟨rfl, N44q, e44⟩ := hQ44
    have N44 := Fr.app N42 N44q
    show own_Wp p e below _ T44 (mkF m 164 #[.val (.int p0), .val (.ref b1), .val (.ref (w0_NAME Z)), .val (.ref (w27_EMPTY Z)), .val .null] [.null, .null])
    refine own_step (fun _ k => Jvm.RoadKit.acmp (g := (mkF m 164 #[.val (.int p0), .val (.ref b1), .val (.ref (w0_NAME Z)), .val (.ref (w27_EMPTY Z)), .val .null] [.null, .null])) X44 hx rfl rfl rfl (pc0 := 164) (pc' := 167) (same := true) rfl (hb hby at_164) rfl (decide_eq_true rfl) (by decide) (by decide) k) ?_
    show own_Wp p e below _ T44 (mkF m 167 #[.val (.int p0), .val (.ref b1), .val (.ref (w0_NAME Z)), .val (.ref (w27_EMPTY Z)), .val .null] [])
    refine own_step (fun _ k => XS.iconst X44.here hx rfl (hb hby at_167) k) ?_
    show own_Wp p e below _ T44 (mkF m 168 #[.val (.int p0), .val (.ref b1), .val (.ref (w0_NAME Z)), .val (.ref (w27_EMPTY Z)), .val .null] [(.int (1 : Int32))])
    refine own_step (fun _ k => XS.goto X44.here hx rfl (pc0 := 168) (pc' := 172) rfl (hb hby at_168) (by decide) (by decide) k) ?_
    show own_Wp p e below _ T44 (mkF m 172 #[.val (.int p0), .val (.ref b1), .val (.ref (w0_NAME Z)), .val (.ref (w27_EMPTY Z)), .val .null] [(.int (1 : Int32))])
    exact own_retN X44 hx (t := .boolean) hret (by simp) hlk (hb hby at_172) (by decide) (by decide) ⟨rfl, N44⟩
  · skip
    rw [hm]
    show own_Wp p e below _ T39 (mkF m 141 #[.val (.int p0), .val (.ref b1), .unset, .unset, .unset] [(.int (1 : Int32)), (.ref b1)])
    obtain ⟨c45, r45, q45, t45, u45, y45h, y45g⟩ := id V39
    have i45 : ¬ ((1 : Int32) < 0 ∨ c45.slots.size ≤ ((1 : Int32)).toNatClampNeg) := inb_of t45 ⟨by decide, by decide⟩
    refine own_step (fun _ k => X39.aaload hx (j := (1 : Int32)) (v := (.ref (w1_STRING Z))) (by rw [e39]; exact r45.1) (State.isArrayOf_alike hZ.alike r45.2.1) rfl r45.2.2 i45 (own_get t45 y45h i45 1 rfl) (g := (mkF m 141 #[.val (.int p0), .val (.ref b1), .unset, .unset, .unset] [(.int (1 : Int32)), (.ref b1)])) rfl rfl (hb hby at_141) _ k) ?_
    show own_Wp p e below _ T39 (mkF m 142 #[.val (.int p0), .val (.ref b1), .unset, .unset, .unset] [(.ref (w1_STRING Z))])
    refine own_step (fun _ k => XS.astoreN X39.here hx rfl (hb hby at_142) rfl rfl (l' := #[.val (.int p0), .val (.ref b1), .val (.ref (w1_STRING Z)), .unset, .unset]) rfl k) ?_
    show own_Wp p e below _ T39 (mkF m 143 #[.val (.int p0), .val (.ref b1), .val (.ref (w1_STRING Z)), .unset, .unset] [])
    refine own_step (fun _ k => XS.aloadN X39.here hx rfl (hb hby at_143) rfl rfl k) ?_
    show own_Wp p e below _ T39 (mkF m 144 #[.val (.int p0), .val (.ref b1), .val (.ref (w1_STRING Z)), .unset, .unset] [(.ref (w1_STRING Z))])
    obtain ⟨_, T46, L46, X46, hQ46, st46⟩ := own_callS X39 hx hZ hown (hw _ (List.mem_of_getElem? (i := 43) rfl)) (hw _ (List.mem_of_getElem? (i := 44) rfl)) (hw _ (List.mem_of_getElem? (i := 45) rfl)) (hw _ (List.mem_of_getElem? (i := 46) rfl)) (by decide) (rm1_2 l Z a0 hw hA hS hF [] (w1_STRING Z) h39 n0 O39 (Fld.ne (fl1 hw hA hS hF) (fl21 hw hA hS hF) (by decide)) (Fld.ne (fl4 hw hA hS hF) (fl21 hw hA hS hF) (by decide)) (Fld.ne (fl6 hw hA hS hF) (fl21 hw hA hS hF) (by decide)) (Fld.ne (fl8 hw hA hS hF) (fl21 hw hA hS hF) (by decide)) (Fld.ne (fl10 hw hA hS hF) (fl21 hw hA hS hF) (by decide)) (Fld.ne (fl12 hw hA hS hF) (fl21 hw hA hS hF) (by decide)) (Fld.ne (fl14 hw hA hS hF) (fl21 hw hA hS hF) (by decide))) (W := 0) (by decide) (by decide) [(.ref (w1_STRING Z))] rfl (lenOf pd4 rfl) (Ls := #[.val (.int p0), .val (.ref b1), .val (.ref (w1_STRING Z)), .unset, .unset]) (by rw [hml]; rfl) (rest := []) (Nat.le_of_eq rfl) (hb hby at_144) e39 (by decide) (by decide)
    refine st46 _ ?_
    obtain ⟨rfl, N46q, K46q⟩ := hQ46
    have N46 := Fr.app N39 N46q
    have O46 := O39.keep K46q all0
    have K46 : Keep h0 T46.heap [] := Keep.trans K39 K46q all0
    show own_Wp p e below _ T46 (mkF m 147 #[.val (.int p0), .val (.ref b1), .val (.ref (w1_STRING Z)), .unset, .unset] [(.ref (w27_EMPTY Z))])
    refine own_step (fun _ k => XS.astoreN X46.here hx rfl (hb hby at_147) rfl rfl (l' := #[.val (.int p0), .val (.ref b1), .val (.ref (w1_STRING Z)), .val (.ref (w27_EMPTY Z)), .unset]) rfl k) ?_
    show own_Wp p e below _ T46 (mkF m 148 #[.val (.int p0), .val (.ref b1), .val (.ref (w1_STRING Z)), .val (.ref (w27_EMPTY Z)), .unset] [])
    refine own_step (fun _ k => XS.aloadN X46.here hx rfl (hb hby at_148) rfl rfl k) ?_
    show own_Wp p e below _ T46 (mkF m 149 #[.val (.int p0), .val (.ref b1), .val (.ref (w1_STRING Z)), .val (.ref (w27_EMPTY Z)), .unset] [(.ref (w27_EMPTY Z))])
    refine own_step (fun _ k => XS.aconstNull X46.here hx rfl (hb hby at_149) k) ?_
    show own_Wp p e below _ T46 (mkF m 150 #[.val (.int p0), .val (.ref b1), .val (.ref (w1_STRING Z)), .val (.ref (w27_EMPTY Z)), .unset] [.null, (.ref (w27_EMPTY Z))])
    obtain ⟨_, T47, L47, X47, hQ47, st47⟩ := own_callV X46 hx hZ hown (hw _ (List.mem_of_getElem? (i := 76) rfl)) (hw _ (List.mem_of_getElem? (i := 77) rfl)) (notFace_of_selects (args := #[]) (mvT hZ (hw _ (List.mem_of_getElem? (i := 79) rfl)))) (hw _ (List.mem_of_getElem? (i := 79) rfl)) (hw _ (List.mem_of_getElem? (i := 78) rfl)) (hw _ (List.mem_of_getElem? (i := 73) rfl)) (hw _ (List.mem_of_getElem? (i := 80) rfl)) (by decide) ((ex_w27_EMPTY hw hA hS hF).ext O46.2) (rm4_3 l Z a0 hw hA hS hF [] (w27_EMPTY Z) T46.heap n0 O46 (fl26 hw hA hS hF)) (W := 0) (by decide) (by decide) [.null] rfl (lenOf pd5 rfl) (Ls := #[.val (.int p0), .val (.ref b1), .val (.ref (w1_STRING Z)), .val (.ref (w27_EMPTY Z)), .unset]) (by rw [hml]; rfl) (rest := []) (Nat.le_of_eq rfl) (hb hby at_150) rfl (by decide) (by decide)
    refine st47 _ ?_
    obtain ⟨rfl, N47q, e47⟩ := hQ47
    have N47 := Fr.app N46 N47q
    show own_Wp p e below _ T47 (mkF m 153 #[.val (.int p0), .val (.ref b1), .val (.ref (w1_STRING Z)), .val (.ref (w27_EMPTY Z)), .unset] [.null])
    refine own_step (fun _ k => X47.checkcastNull hx (g := (mkF m 153 #[.val (.int p0), .val (.ref b1), .val (.ref (w1_STRING Z)), .val (.ref (w27_EMPTY Z)), .unset] [.null])) rfl rfl (hb hby at_153) _ k) ?_
    show own_Wp p e below _ T47 (mkF m 156 #[.val (.int p0), .val (.ref b1), .val (.ref (w1_STRING Z)), .val (.ref (w27_EMPTY Z)), .unset] [.null])
    refine own_step (fun _ k => XS.astore X47.here hx rfl (hb hby at_156) rfl rfl (l' := #[.val (.int p0), .val (.ref b1), .val (.ref (w1_STRING Z)), .val (.ref (w27_EMPTY Z)), .val .null]) rfl k) ?_
    show own_Wp p e below _ T47 (mkF m 158 #[.val (.int p0), .val (.ref b1), .val (.ref (w1_STRING Z)), .val (.ref (w27_EMPTY Z)), .val .null] [])
    refine own_step (fun _ k => XS.aload X47.here hx rfl (hb hby at_158) rfl rfl k) ?_
    show own_Wp p e below _ T47 (mkF m 160 #[.val (.int p0), .val (.ref b1), .val (.ref (w1_STRING Z)), .val (.ref (w27_EMPTY Z)), .val .null] [.null])
    refine own_step (fun _ k => XS.aloadN X47.here hx rfl (hb hby at_160) rfl rfl k) ?_
    show own_Wp p e below _ T47 (mkF m 161 #[.val (.int p0), .val (.ref b1), .val (.ref (w1_STRING Z)), .val (.ref (w27_EMPTY Z)), .val .null] [(.ref (w1_STRING Z)), .null])
    obtain ⟨_, T49, L49, X49, hQ49, st49⟩ := own_callS X47 hx hZ hown (hw _ (List.mem_of_getElem? (i := 83) rfl)) (hw _ (List.mem_of_getElem? (i := 84) rfl)) (hw _ (List.mem_of_getElem? (i := 85) rfl)) (hw _ (List.mem_of_getElem? (i := 86) rfl)) (by decide) (rm5_4 l Z a0 hw hA hS hF [] (w1_STRING Z) T46.heap n0 O46 (Fld.ne (fl21 hw hA hS hF) (fl1 hw hA hS hF) (by decide)) (Fld.ne (fl21 hw hA hS hF) (fl4 hw hA hS hF) (by decide)) (Fld.ne (fl21 hw hA hS hF) (fl6 hw hA hS hF) (by decide)) (Fld.ne (fl21 hw hA hS hF) (fl8 hw hA hS hF) (by decide)) (Fld.ne (fl21 hw hA hS hF) (fl10 hw hA hS hF) (by decide)) (Fld.ne (fl21 hw hA hS hF) (fl12 hw hA hS hF) (by decide)) (Fld.ne (fl21 hw hA hS hF) (fl14 hw hA hS hF) (by decide))) (W := 1) (by decide) (by decide) [(.ref (w1_STRING Z))] rfl (lenOf pd7 rfl) (Ls := #[.val (.int p0), .val (.ref b1), .val (.ref (w1_STRING Z)), .val (.ref (w27_EMPTY Z)), .val .null]) (by rw [hml]; rfl) (rest := [.null]) (Nat.le_of_eq rfl) (hb hby at_161) e47 (by decide) (by decide)
    refine st49 _ ?_
    obtain ⟨rfl, N49q, e49⟩ := hQ49
    have N49 := Fr.app N47 N49q
    show own_Wp p e below _ T49 (mkF m 164 #[.val (.int p0), .val (.ref b1), .val (.ref (w1_STRING Z)), .val (.ref (w27_EMPTY Z)), .val .null] [.null, .null])
    refine own_step (fun _ k => Jvm.RoadKit.acmp (g := (mkF m 164 #[.val (.int p0), .val (.ref b1), .val (.ref (w1_STRING Z)), .val (.ref (w27_EMPTY Z)), .val .null] [.null, .null])) X49 hx rfl rfl rfl (pc0 := 164) (pc' := 167) (same := true) rfl (hb hby at_164) rfl (decide_eq_true rfl) (by decide) (by decide) k) ?_
    show own_Wp p e below _ T49 (mkF m 167 #[.val (.int p0), .val (.ref b1), .val (.ref (w1_STRING Z)), .val (.ref (w27_EMPTY Z)), .val .null] [])
    refine own_step (fun _ k => XS.iconst X49.here hx rfl (hb hby at_167) k) ?_
    show own_Wp p e below _ T49 (mkF m 168 #[.val (.int p0), .val (.ref b1), .val (.ref (w1_STRING Z)), .val (.ref (w27_EMPTY Z)), .val .null] [(.int (1 : Int32))])
    refine own_step (fun _ k => XS.goto X49.here hx rfl (pc0 := 168) (pc' := 172) rfl (hb hby at_168) (by decide) (by decide) k) ?_
    show own_Wp p e below _ T49 (mkF m 172 #[.val (.int p0), .val (.ref b1), .val (.ref (w1_STRING Z)), .val (.ref (w27_EMPTY Z)), .val .null] [(.int (1 : Int32))])
    exact own_retN X49 hx (t := .boolean) hret (by simp) hlk (hb hby at_172) (by decide) (by decide) ⟨rfl, N49⟩
  · skip
    rw [hm]
    show own_Wp p e below _ T39 (mkF m 141 #[.val (.int p0), .val (.ref b1), .unset, .unset, .unset] [(.int (2 : Int32)), (.ref b1)])
    obtain ⟨c50, r50, q50, t50, u50, y50h, y50g⟩ := id V39
    have i50 : ¬ ((2 : Int32) < 0 ∨ c50.slots.size ≤ ((2 : Int32)).toNatClampNeg) := inb_of t50 ⟨by decide, by decide⟩
    refine own_step (fun _ k => X39.aaload hx (j := (2 : Int32)) (v := (.ref (w2_INTEGER Z))) (by rw [e39]; exact r50.1) (State.isArrayOf_alike hZ.alike r50.2.1) rfl r50.2.2 i50 (own_get t50 y50h i50 2 rfl) (g := (mkF m 141 #[.val (.int p0), .val (.ref b1), .unset, .unset, .unset] [(.int (2 : Int32)), (.ref b1)])) rfl rfl (hb hby at_141) _ k) ?_
    show own_Wp p e below _ T39 (mkF m 142 #[.val (.int p0), .val (.ref b1), .unset, .unset, .unset] [(.ref (w2_INTEGER Z))])
    refine own_step (fun _ k => XS.astoreN X39.here hx rfl (hb hby at_142) rfl rfl (l' := #[.val (.int p0), .val (.ref b1), .val (.ref (w2_INTEGER Z)), .unset, .unset]) rfl k) ?_
    show own_Wp p e below _ T39 (mkF m 143 #[.val (.int p0), .val (.ref b1), .val (.ref (w2_INTEGER Z)), .unset, .unset] [])
    refine own_step (fun _ k => XS.aloadN X39.here hx rfl (hb hby at_143) rfl rfl k) ?_
    show own_Wp p e below _ T39 (mkF m 144 #[.val (.int p0), .val (.ref b1), .val (.ref (w2_INTEGER Z)), .unset, .unset] [(.ref (w2_INTEGER Z))])
    obtain ⟨_, T51, L51, X51, hQ51, st51⟩ := own_callS X39 hx hZ hown (hw _ (List.mem_of_getElem? (i := 43) rfl)) (hw _ (List.mem_of_getElem? (i := 44) rfl)) (hw _ (List.mem_of_getElem? (i := 45) rfl)) (hw _ (List.mem_of_getElem? (i := 46) rfl)) (by decide) (rm1_2 l Z a0 hw hA hS hF [] (w2_INTEGER Z) h39 n0 O39 (Fld.ne (fl1 hw hA hS hF) (fl19 hw hA hS hF) (by decide)) (Fld.ne (fl4 hw hA hS hF) (fl19 hw hA hS hF) (by decide)) (Fld.ne (fl6 hw hA hS hF) (fl19 hw hA hS hF) (by decide)) (Fld.ne (fl8 hw hA hS hF) (fl19 hw hA hS hF) (by decide)) (Fld.ne (fl10 hw hA hS hF) (fl19 hw hA hS hF) (by decide)) (Fld.ne (fl12 hw hA hS hF) (fl19 hw hA hS hF) (by decide)) (Fld.ne (fl14 hw hA hS hF) (fl19 hw hA hS hF) (by decide))) (W := 0) (by decide) (by decide) [(.ref (w2_INTEGER Z))] rfl (lenOf pd4 rfl) (Ls := #[.val (.int p0), .val (.ref b1), .val (.ref (w2_INTEGER Z)), .unset, .unset]) (by rw [hml]; rfl) (rest := []) (Nat.le_of_eq rfl) (hb hby at_144) e39 (by decide) (by decide)
    refine st51 _ ?_
    obtain ⟨rfl, N51q, K51q⟩ := hQ51
    have N51 := Fr.app N39 N51q
    have O51 := O39.keep K51q all0
    have K51 : Keep h0 T51.heap [] := Keep.trans K39 K51q all0
    show own_Wp p e below _ T51 (mkF m 147 #[.val (.int p0), .val (.ref b1), .val (.ref (w2_INTEGER Z)), .unset, .unset] [(.ref (w27_EMPTY Z))])
    refine own_step (fun _ k => XS.astoreN X51.here hx rfl (hb hby at_147) rfl rfl (l' := #[.val (.int p0), .val (.ref b1), .val (.ref (w2_INTEGER Z)), .val (.ref (w27_EMPTY Z)), .unset]) rfl k) ?_
    show own_Wp p e below _ T51 (mkF m 148 #[.val (.int p0), .val (.ref b1), .val (.ref (w2_INTEGER Z)), .val (.ref (w27_EMPTY Z)), .unset] [])
    refine own_step (fun _ k => XS.aloadN X51.here hx rfl (hb hby at_148) rfl rfl k) ?_
    show own_Wp p e below _ T51 (mkF m 149 #[.val (.int p0), .val (.ref b1), .val (.ref (w2_INTEGER Z)), .val (.ref (w27_EMPTY Z)), .unset] [(.ref (w27_EMPTY Z))])
    refine own_step (fun _ k => XS.aconstNull X51.here hx rfl (hb hby at_149) k) ?_
    show own_Wp p e below _ T51 (mkF m 150 #[.val (.int p0), .val (.ref b1), .val (.ref (w2_INTEGER Z)), .val (.ref (w27_EMPTY Z)), .unset] [.null, (.ref (w27_EMPTY Z))])
    obtain ⟨_, T52, L52, X52, hQ52, st52⟩ := own_callV X51 hx hZ hown (hw _ (List.mem_of_getElem? (i := 76) rfl)) (hw _ (List.mem_of_getElem? (i := 77) rfl)) (notFace_of_selects (args := #[]) (mvT hZ (hw _ (List.mem_of_getElem? (i := 79) rfl)))) (hw _ (List.mem_of_getElem? (i := 79) rfl)) (hw _ (List.mem_of_getElem? (i := 78) rfl)) (hw _ (List.mem_of_getElem? (i := 73) rfl)) (hw _ (List.mem_of_getElem? (i := 80) rfl)) (by decide) ((ex_w27_EMPTY hw hA hS hF).ext O51.2) (rm4_3 l Z a0 hw hA hS hF [] (w27_EMPTY Z) T51.heap n0 O51 (fl26 hw hA hS hF)) (W := 0) (by decide) (by decide) [.null] rfl (lenOf pd5 rfl) (Ls := #[.val (.int p0), .val (.ref b1), .val (.ref (w2_INTEGER Z)), .val (.ref (w27_EMPTY Z)), .unset]) (by rw [hml]; rfl) (rest := []) (Nat.le_of_eq rfl) (hb hby at_150) rfl (by decide) (by decide)
    refine st52 _ ?_
    obtain ⟨rfl, N52q, e52⟩ := hQ52
    have N52 := Fr.app N51 N52q
    show own_Wp p e below _ T52 (mkF m 153 #[.val (.int p0), .val (.ref b1), .val (.ref (w2_INTEGER Z)), .val (.ref (w27_EMPTY Z)), .unset] [.null])
    refine own_step (fun _ k => X52.checkcastNull hx (g := (mkF m 153 #[.val (.int p0), .val (.ref b1), .val (.ref (w2_INTEGER Z)), .val (.ref (w27_EMPTY Z)), .unset] [.null])) rfl rfl (hb hby at_153) _ k) ?_
    show own_Wp p e below _ T52 (mkF m 156 #[.val (.int p0), .val (.ref b1), .val (.ref (w2_INTEGER Z)), .val (.ref (w27_EMPTY Z)), .unset] [.null])
    refine own_step (fun _ k => XS.astore X52.here hx rfl (hb hby at_156) rfl rfl (l' := #[.val (.int p0), .val (.ref b1), .val (.ref (w2_INTEGER Z)), .val (.ref (w27_EMPTY Z)), .val .null]) rfl k) ?_
    show own_Wp p e below _ T52 (mkF m 158 #[.val (.int p0), .val (.ref b1), .val (.ref (w2_INTEGER Z)), .val (.ref (w27_EMPTY Z)), .val .null] [])
    refine own_step (fun _ k => XS.aload X52.here hx rfl (hb hby at_158) rfl rfl k) ?_
    show own_Wp p e below _ T52 (mkF m 160 #[.val (.int p0), .val (.ref b1), .val (.ref (w2_INTEGER Z)), .val (.ref (w27_EMPTY Z)), .val .null] [.null])
    refine own_step (fun _ k => XS.aloadN X52.here hx rfl (hb hby at_160) rfl rfl k) ?_
    show own_Wp p e below _ T52 (mkF m 161 #[.val (.int p0), .val (.ref b1), .val (.ref (w2_INTEGER Z)), .val (.ref (w27_EMPTY Z)), .val .null] [(.ref (w2_INTEGER Z)), .null])
    obtain ⟨_, T54, L54, X54, hQ54, st54⟩ := own_callS X52 hx hZ hown (hw _ (List.mem_of_getElem? (i := 83) rfl)) (hw _ (List.mem_of_getElem? (i := 84) rfl)) (hw _ (List.mem_of_getElem? (i := 85) rfl)) (hw _ (List.mem_of_getElem? (i := 86) rfl)) (by decide) (rm5_4 l Z a0 hw hA hS hF [] (w2_INTEGER Z) T51.heap n0 O51 (Fld.ne (fl19 hw hA hS hF) (fl1 hw hA hS hF) (by decide)) (Fld.ne (fl19 hw hA hS hF) (fl4 hw hA hS hF) (by decide)) (Fld.ne (fl19 hw hA hS hF) (fl6 hw hA hS hF) (by decide)) (Fld.ne (fl19 hw hA hS hF) (fl8 hw hA hS hF) (by decide)) (Fld.ne (fl19 hw hA hS hF) (fl10 hw hA hS hF) (by decide)) (Fld.ne (fl19 hw hA hS hF) (fl12 hw hA hS hF) (by decide)) (Fld.ne (fl19 hw hA hS hF) (fl14 hw hA hS hF) (by decide))) (W := 1) (by decide) (by decide) [(.ref (w2_INTEGER Z))] rfl (lenOf pd7 rfl) (Ls := #[.val (.int p0), .val (.ref b1), .val (.ref (w2_INTEGER Z)), .val (.ref (w27_EMPTY Z)), .val .null]) (by rw [hml]; rfl) (rest := [.null]) (Nat.le_of_eq rfl) (hb hby at_161) e52 (by decide) (by decide)
    refine st54 _ ?_
    obtain ⟨rfl, N54q, e54⟩ := hQ54
    have N54 := Fr.app N52 N54q
    show own_Wp p e below _ T54 (mkF m 164 #[.val (.int p0), .val (.ref b1), .val (.ref (w2_INTEGER Z)), .val (.ref (w27_EMPTY Z)), .val .null] [.null, .null])
    refine own_step (fun _ k => Jvm.RoadKit.acmp (g := (mkF m 164 #[.val (.int p0), .val (.ref b1), .val (.ref (w2_INTEGER Z)), .val (.ref (w27_EMPTY Z)), .val .null] [.null, .null])) X54 hx rfl rfl rfl (pc0 := 164) (pc' := 167) (same := true) rfl (hb hby at_164) rfl (decide_eq_true rfl) (by decide) (by decide) k) ?_
    show own_Wp p e below _ T54 (mkF m 167 #[.val (.int p0), .val (.ref b1), .val (.ref (w2_INTEGER Z)), .val (.ref (w27_EMPTY Z)), .val .null] [])
    refine own_step (fun _ k => XS.iconst X54.here hx rfl (hb hby at_167) k) ?_
    show own_Wp p e below _ T54 (mkF m 168 #[.val (.int p0), .val (.ref b1), .val (.ref (w2_INTEGER Z)), .val (.ref (w27_EMPTY Z)), .val .null] [(.int (1 : Int32))])
    refine own_step (fun _ k => XS.goto X54.here hx rfl (pc0 := 168) (pc' := 172) rfl (hb hby at_168) (by decide) (by decide) k) ?_
    show own_Wp p e below _ T54 (mkF m 172 #[.val (.int p0), .val (.ref b1), .val (.ref (w2_INTEGER Z)), .val (.ref (w27_EMPTY Z)), .val .null] [(.int (1 : Int32))])
    exact own_retN X54 hx (t := .boolean) hret (by simp) hlk (hb hby at_172) (by decide) (by decide) ⟨rfl, N54⟩
  · skip
    rw [hm]
    show own_Wp p e below _ T39 (mkF m 141 #[.val (.int p0), .val (.ref b1), .unset, .unset, .unset] [(.int (3 : Int32)), (.ref b1)])
    obtain ⟨c55, r55, q55, t55, u55, y55h, y55g⟩ := id V39
    have i55 : ¬ ((3 : Int32) < 0 ∨ c55.slots.size ≤ ((3 : Int32)).toNatClampNeg) := inb_of t55 ⟨by decide, by decide⟩
    refine own_step (fun _ k => X39.aaload hx (j := (3 : Int32)) (v := (.ref (w3_END Z))) (by rw [e39]; exact r55.1) (State.isArrayOf_alike hZ.alike r55.2.1) rfl r55.2.2 i55 (own_get t55 y55h i55 3 rfl) (g := (mkF m 141 #[.val (.int p0), .val (.ref b1), .unset, .unset, .unset] [(.int (3 : Int32)), (.ref b1)])) rfl rfl (hb hby at_141) _ k) ?_
    show own_Wp p e below _ T39 (mkF m 142 #[.val (.int p0), .val (.ref b1), .unset, .unset, .unset] [(.ref (w3_END Z))])
    refine own_step (fun _ k => XS.astoreN X39.here hx rfl (hb hby at_142) rfl rfl (l' := #[.val (.int p0), .val (.ref b1), .val (.ref (w3_END Z)), .unset, .unset]) rfl k) ?_
    show own_Wp p e below _ T39 (mkF m 143 #[.val (.int p0), .val (.ref b1), .val (.ref (w3_END Z)), .unset, .unset] [])
    refine own_step (fun _ k => XS.aloadN X39.here hx rfl (hb hby at_143) rfl rfl k) ?_
    show own_Wp p e below _ T39 (mkF m 144 #[.val (.int p0), .val (.ref b1), .val (.ref (w3_END Z)), .unset, .unset] [(.ref (w3_END Z))])
    obtain ⟨_, T56, L56, X56, hQ56, st56⟩ := own_callS X39 hx hZ hown (hw _ (List.mem_of_getElem? (i := 43) rfl)) (hw _ (List.mem_of_getElem? (i := 44) rfl)) (hw _ (List.mem_of_getElem? (i := 45) rfl)) (hw _ (List.mem_of_getElem? (i := 46) rfl)) (by decide) (rm1_2 l Z a0 hw hA hS hF [] (w3_END Z) h39 n0 O39 (Fld.ne (fl1 hw hA hS hF) (fl15 hw hA hS hF) (by decide)) (Fld.ne (fl4 hw hA hS hF) (fl15 hw hA hS hF) (by decide)) (Fld.ne (fl6 hw hA hS hF) (fl15 hw hA hS hF) (by decide)) (Fld.ne (fl8 hw hA hS hF) (fl15 hw hA hS hF) (by decide)) (Fld.ne (fl10 hw hA hS hF) (fl15 hw hA hS hF) (by decide)) (Fld.ne (fl12 hw hA hS hF) (fl15 hw hA hS hF) (by decide)) (Fld.ne (fl14 hw hA hS hF) (fl15 hw hA hS hF) (by decide))) (W := 0) (by decide) (by decide) [(.ref (w3_END Z))] rfl (lenOf pd4 rfl) (Ls := #[.val (.int p0), .val (.ref b1), .val (.ref (w3_END Z)), .unset, .unset]) (by rw [hml]; rfl) (rest := []) (Nat.le_of_eq rfl) (hb hby at_144) e39 (by decide) (by decide)
    refine st56 _ ?_
    obtain ⟨rfl, N56q, K56q⟩ := hQ56
    have N56 := Fr.app N39 N56q
    have O56 := O39.keep K56q all0
    have K56 : Keep h0 T56.heap [] := Keep.trans K39 K56q all0
    show own_Wp p e below _ T56 (mkF m 147 #[.val (.int p0), .val (.ref b1), .val (.ref (w3_END Z)), .unset, .unset] [(.ref (w27_EMPTY Z))])
    refine own_step (fun _ k => XS.astoreN X56.here hx rfl (hb hby at_147) rfl rfl (l' := #[.val (.int p0), .val (.ref b1), .val (.ref (w3_END Z)), .val (.ref (w27_EMPTY Z)), .unset]) rfl k) ?_
    show own_Wp p e below _ T56 (mkF m 148 #[.val (.int p0), .val (.ref b1), .val (.ref (w3_END Z)), .val (.ref (w27_EMPTY Z)), .unset] [])
    refine own_step (fun _ k => XS.aloadN X56.here hx rfl (hb hby at_148) rfl rfl k) ?_
    show own_Wp p e below _ T56 (mkF m 149 #[.val (.int p0), .val (.ref b1), .val (.ref (w3_END Z)), .val (.ref (w27_EMPTY Z)), .unset] [(.ref (w27_EMPTY Z))])
    refine own_step (fun _ k => XS.aconstNull X56.here hx rfl (hb hby at_149) k) ?_
    show own_Wp p e below _ T56 (mkF m 150 #[.val (.int p0), .val (.ref b1), .val (.ref (w3_END Z)), .val (.ref (w27_EMPTY Z)), .unset] [.null, (.ref (w27_EMPTY Z))])
    obtain ⟨_, T57, L57, X57, hQ57, st57⟩ := own_callV X56 hx hZ hown (hw _ (List.mem_of_getElem? (i := 76) rfl)) (hw _ (List.mem_of_getElem? (i := 77) rfl)) (notFace_of_selects (args := #[]) (mvT hZ (hw _ (List.mem_of_getElem? (i := 79) rfl)))) (hw _ (List.mem_of_getElem? (i := 79) rfl)) (hw _ (List.mem_of_getElem? (i := 78) rfl)) (hw _ (List.mem_of_getElem? (i := 73) rfl)) (hw _ (List.mem_of_getElem? (i := 80) rfl)) (by decide) ((ex_w27_EMPTY hw hA hS hF).ext O56.2) (rm4_3 l Z a0 hw hA hS hF [] (w27_EMPTY Z) T56.heap n0 O56 (fl26 hw hA hS hF)) (W := 0) (by decide) (by decide) [.null] rfl (lenOf pd5 rfl) (Ls := #[.val (.int p0), .val (.ref b1), .val (.ref (w3_END Z)), .val (.ref (w27_EMPTY Z)), .unset]) (by rw [hml]; rfl) (rest := []) (Nat.le_of_eq rfl) (hb hby at_150) rfl (by decide) (by decide)
    refine st57 _ ?_
    obtain ⟨rfl, N57q, e57⟩ := hQ57
    have N57 := Fr.app N56 N57q
    show own_Wp p e below _ T57 (mkF m 153 #[.val (.int p0), .val (.ref b1), .val (.ref (w3_END Z)), .val (.ref (w27_EMPTY Z)), .unset] [.null])
    refine own_step (fun _ k => X57.checkcastNull hx (g := (mkF m 153 #[.val (.int p0), .val (.ref b1), .val (.ref (w3_END Z)), .val (.ref (w27_EMPTY Z)), .unset] [.null])) rfl rfl (hb hby at_153) _ k) ?_
    show own_Wp p e below _ T57 (mkF m 156 #[.val (.int p0), .val (.ref b1), .val (.ref (w3_END Z)), .val (.ref (w27_EMPTY Z)), .unset] [.null])
    refine own_step (fun _ k => XS.astore X57.here hx rfl (hb hby at_156) rfl rfl (l' := #[.val (.int p0), .val (.ref b1), .val (.ref (w3_END Z)), .val (.ref (w27_EMPTY Z)), .val .null]) rfl k) ?_
    show own_Wp p e below _ T57 (mkF m 158 #[.val (.int p0), .val (.ref b1), .val (.ref (w3_END Z)), .val (.ref (w27_EMPTY Z)), .val .null] [])
    refine own_step (fun _ k => XS.aload X57.here hx rfl (hb hby at_158) rfl rfl k) ?_
    show own_Wp p e below _ T57 (mkF m 160 #[.val (.int p0), .val (.ref b1), .val (.ref (w3_END Z)), .val (.ref (w27_EMPTY Z)), .val .null] [.null])
    refine own_step (fun _ k => XS.aloadN X57.here hx rfl (hb hby at_160) rfl rfl k) ?_
    show own_Wp p e below _ T57 (mkF m 161 #[.val (.int p0), .val (.ref b1), .val (.ref (w3_END Z)), .val (.ref (w27_EMPTY Z)), .val .null] [(.ref (w3_END Z)), .null])
    obtain ⟨_, T59, L59, X59, hQ59, st59⟩ := own_callS X57 hx hZ hown (hw _ (List.mem_of_getElem? (i := 83) rfl)) (hw _ (List.mem_of_getElem? (i := 84) rfl)) (hw _ (List.mem_of_getElem? (i := 85) rfl)) (hw _ (List.mem_of_getElem? (i := 86) rfl)) (by decide) (rm5_4 l Z a0 hw hA hS hF [] (w3_END Z) T56.heap n0 O56 (Fld.ne (fl15 hw hA hS hF) (fl1 hw hA hS hF) (by decide)) (Fld.ne (fl15 hw hA hS hF) (fl4 hw hA hS hF) (by decide)) (Fld.ne (fl15 hw hA hS hF) (fl6 hw hA hS hF) (by decide)) (Fld.ne (fl15 hw hA hS hF) (fl8 hw hA hS hF) (by decide)) (Fld.ne (fl15 hw hA hS hF) (fl10 hw hA hS hF) (by decide)) (Fld.ne (fl15 hw hA hS hF) (fl12 hw hA hS hF) (by decide)) (Fld.ne (fl15 hw hA hS hF) (fl14 hw hA hS hF) (by decide))) (W := 1) (by decide) (by decide) [(.ref (w3_END Z))] rfl (lenOf pd7 rfl) (Ls := #[.val (.int p0), .val (.ref b1), .val (.ref (w3_END Z)), .val (.ref (w27_EMPTY Z)), .val .null]) (by rw [hml]; rfl) (rest := [.null]) (Nat.le_of_eq rfl) (hb hby at_161) e57 (by decide) (by decide)
    refine st59 _ ?_
    obtain ⟨rfl, N59q, e59⟩ := hQ59
    have N59 := Fr.app N57 N59q
    show own_Wp p e below _ T59 (mkF m 164 #[.val (.int p0), .val (.ref b1), .val (.ref (w3_END Z)), .val (.ref (w27_EMPTY Z)), .val .null] [.null, .null])
    refine own_step (fun _ k => Jvm.RoadKit.acmp (g := (mkF m 164 #[.val (.int p0), .val (.ref b1), .val (.ref (w3_END Z)), .val (.ref (w27_EMPTY Z)), .val .null] [.null, .null])) X59 hx rfl rfl rfl (pc0 := 164) (pc' := 167) (same := true) rfl (hb hby at_164) rfl (decide_eq_true rfl) (by decide) (by decide) k) ?_
    show own_Wp p e below _ T59 (mkF m 167 #[.val (.int p0), .val (.ref b1), .val (.ref (w3_END Z)), .val (.ref (w27_EMPTY Z)), .val .null] [])
    refine own_step (fun _ k => XS.iconst X59.here hx rfl (hb hby at_167) k) ?_
    show own_Wp p e below _ T59 (mkF m 168 #[.val (.int p0), .val (.ref b1), .val (.ref (w3_END Z)), .val (.ref (w27_EMPTY Z)), .val .null] [(.int (1 : Int32))])
    refine own_step (fun _ k => XS.goto X59.here hx rfl (pc0 := 168) (pc' := 172) rfl (hb hby at_168) (by decide) (by decide) k) ?_
    show own_Wp p e below _ T59 (mkF m 172 #[.val (.int p0), .val (.ref b1), .val (.ref (w3_END Z)), .val (.ref (w27_EMPTY Z)), .val .null] [(.int (1 : Int32))])
    exact own_retN X59 hx (t := .boolean) hret (by simp) hlk (hb hby at_172) (by decide) (by decide) ⟨rfl, N59⟩
  · skip
    rw [hm]
    show own_Wp p e below _ T39 (mkF m 141 #[.val (.int p0), .val (.ref b1), .unset, .unset, .unset] [(.int (4 : Int32)), (.ref b1)])
    obtain ⟨c60, r60, q60, t60, u60, y60h, y60g⟩ := id V39
    have i60 : ¬ ((4 : Int32) < 0 ∨ c60.slots.size ≤ ((4 : Int32)).toNatClampNeg) := inb_of t60 ⟨by decide, by decide⟩
    refine own_step (fun _ k => X39.aaload hx (j := (4 : Int32)) (v := (.ref (w4_NOT Z))) (by rw [e39]; exact r60.1) (State.isArrayOf_alike hZ.alike r60.2.1) rfl r60.2.2 i60 (own_get t60 y60h i60 4 rfl) (g := (mkF m 141 #[.val (.int p0), .val (.ref b1), .unset, .unset, .unset] [(.int (4 : Int32)), (.ref b1)])) rfl rfl (hb hby at_141) _ k) ?_
    show own_Wp p e below _ T39 (mkF m 142 #[.val (.int p0), .val (.ref b1), .unset, .unset, .unset] [(.ref (w4_NOT Z))])
    refine own_step (fun _ k => XS.astoreN X39.here hx rfl (hb hby at_142) rfl rfl (l' := #[.val (.int p0), .val (.ref b1), .val (.ref (w4_NOT Z)), .unset, .unset]) rfl k) ?_
    show own_Wp p e below _ T39 (mkF m 143 #[.val (.int p0), .val (.ref b1), .val (.ref (w4_NOT Z)), .unset, .unset] [])
    refine own_step (fun _ k => XS.aloadN X39.here hx rfl (hb hby at_143) rfl rfl k) ?_
    show own_Wp p e below _ T39 (mkF m 144 #[.val (.int p0), .val (.ref b1), .val (.ref (w4_NOT Z)), .unset, .unset] [(.ref (w4_NOT Z))])
    obtain ⟨_, T61, L61, X61, hQ61, st61⟩ := own_callS X39 hx hZ hown (hw _ (List.mem_of_getElem? (i := 43) rfl)) (hw _ (List.mem_of_getElem? (i := 44) rfl)) (hw _ (List.mem_of_getElem? (i := 45) rfl)) (hw _ (List.mem_of_getElem? (i := 46) rfl)) (by decide) (rm1_2 l Z a0 hw hA hS hF [] (w4_NOT Z) h39 n0 O39 (Fld.ne (fl1 hw hA hS hF) (fl25 hw hA hS hF) (by decide)) (Fld.ne (fl4 hw hA hS hF) (fl25 hw hA hS hF) (by decide)) (Fld.ne (fl6 hw hA hS hF) (fl25 hw hA hS hF) (by decide)) (Fld.ne (fl8 hw hA hS hF) (fl25 hw hA hS hF) (by decide)) (Fld.ne (fl10 hw hA hS hF) (fl25 hw hA hS hF) (by decide)) (Fld.ne (fl12 hw hA hS hF) (fl25 hw hA hS hF) (by decide)) (Fld.ne (fl14 hw hA hS hF) (fl25 hw hA hS hF) (by decide))) (W := 0) (by decide) (by decide) [(.ref (w4_NOT Z))] rfl (lenOf pd4 rfl) (Ls := #[.val (.int p0), .val (.ref b1), .val (.ref (w4_NOT Z)), .unset, .unset]) (by rw [hml]; rfl) (rest := []) (Nat.le_of_eq rfl) (hb hby at_144) e39 (by decide) (by decide)
    refine st61 _ ?_
    obtain ⟨rfl, N61q, K61q⟩ := hQ61
    have N61 := Fr.app N39 N61q
    have O61 := O39.keep K61q all0
    have K61 : Keep h0 T61.heap [] := Keep.trans K39 K61q all0
    show own_Wp p e below _ T61 (mkF m 147 #[.val (.int p0), .val (.ref b1), .val (.ref (w4_NOT Z)), .unset, .unset] [(.ref (w27_EMPTY Z))])
    refine own_step (fun _ k => XS.astoreN X61.here hx rfl (hb hby at_147) rfl rfl (l' := #[.val (.int p0), .val (.ref b1), .val (.ref (w4_NOT Z)), .val (.ref (w27_EMPTY Z)), .unset]) rfl k) ?_
    show own_Wp p e below _ T61 (mkF m 148 #[.val (.int p0), .val (.ref b1), .val (.ref (w4_NOT Z)), .val (.ref (w27_EMPTY Z)), .unset] [])
    refine own_step (fun _ k => XS.aloadN X61.here hx rfl (hb hby at_148) rfl rfl k) ?_
    show own_Wp p e below _ T61 (mkF m 149 #[.val (.int p0), .val (.ref b1), .val (.ref (w4_NOT Z)), .val (.ref (w27_EMPTY Z)), .unset] [(.ref (w27_EMPTY Z))])
    refine own_step (fun _ k => XS.aconstNull X61.here hx rfl (hb hby at_149) k) ?_
    show own_Wp p e below _ T61 (mkF m 150 #[.val (.int p0), .val (.ref b1), .val (.ref (w4_NOT Z)), .val (.ref (w27_EMPTY Z)), .unset] [.null, (.ref (w27_EMPTY Z))])
    obtain ⟨_, T62, L62, X62, hQ62, st62⟩ := own_callV X61 hx hZ hown (hw _ (List.mem_of_getElem? (i := 76) rfl)) (hw _ (List.mem_of_getElem? (i := 77) rfl)) (notFace_of_selects (args := #[]) (mvT hZ (hw _ (List.mem_of_getElem? (i := 79) rfl)))) (hw _ (List.mem_of_getElem? (i := 79) rfl)) (hw _ (List.mem_of_getElem? (i := 78) rfl)) (hw _ (List.mem_of_getElem? (i := 73) rfl)) (hw _ (List.mem_of_getElem? (i := 80) rfl)) (by decide) ((ex_w27_EMPTY hw hA hS hF).ext O61.2) (rm4_3 l Z a0 hw hA hS hF [] (w27_EMPTY Z) T61.heap n0 O61 (fl26 hw hA hS hF)) (W := 0) (by decide) (by decide) [.null] rfl (lenOf pd5 rfl) (Ls := #[.val (.int p0), .val (.ref b1), .val (.ref (w4_NOT Z)), .val (.ref (w27_EMPTY Z)), .unset]) (by rw [hml]; rfl) (rest := []) (Nat.le_of_eq rfl) (hb hby at_150) rfl (by decide) (by decide)
    refine st62 _ ?_
    obtain ⟨rfl, N62q, e62⟩ := hQ62
    have N62 := Fr.app N61 N62q
    show own_Wp p e below _ T62 (mkF m 153 #[.val (.int p0), .val (.ref b1), .val (.ref (w4_NOT Z)), .val (.ref (w27_EMPTY Z)), .unset] [.null])
    refine own_step (fun _ k => X62.checkcastNull hx (g := (mkF m 153 #[.val (.int p0), .val (.ref b1), .val (.ref (w4_NOT Z)), .val (.ref (w27_EMPTY Z)), .unset] [.null])) rfl rfl (hb hby at_153) _ k) ?_
    show own_Wp p e below _ T62 (mkF m 156 #[.val (.int p0), .val (.ref b1), .val (.ref (w4_NOT Z)), .val (.ref (w27_EMPTY Z)), .unset] [.null])
    refine own_step (fun _ k => XS.astore X62.here hx rfl (hb hby at_156) rfl rfl (l' := #[.val (.int p0), .val (.ref b1), .val (.ref (w4_NOT Z)), .val (.ref (w27_EMPTY Z)), .val .null]) rfl k) ?_
    show own_Wp p e below _ T62 (mkF m 158 #[.val (.int p0), .val (.ref b1), .val (.ref (w4_NOT Z)), .val (.ref (w27_EMPTY Z)), .val .null] [])
    refine own_step (fun _ k => XS.aload X62.here hx rfl (hb hby at_158) rfl rfl k) ?_
    show own_Wp p e below _ T62 (mkF m 160 #[.val (.int p0), .val (.ref b1), .val (.ref (w4_NOT Z)), .val (.ref (w27_EMPTY Z)), .val .null] [.null])
    refine own_step (fun _ k => XS.aloadN X62.here hx rfl (hb hby at_160) rfl rfl k) ?_
    show own_Wp p e below _ T62 (mkF m 161 #[.val (.int p0), .val (.ref b1), .val (.ref (w4_NOT Z)), .val (.ref (w27_EMPTY Z)), .val .null] [(.ref (w4_NOT Z)), .null])
    obtain ⟨_, T64, L64, X64, hQ64, st64⟩ := own_callS X62 hx hZ hown (hw _ (List.mem_of_getElem? (i := 83) rfl)) (hw _ (List.mem_of_getElem? (i := 84) rfl)) (hw _ (List.mem_of_getElem? (i := 85) rfl)) (hw _ (List.mem_of_getElem? (i := 86) rfl)) (by decide) (rm5_4 l Z a0 hw hA hS hF [] (w4_NOT Z) T61.heap n0 O61 (Fld.ne (fl25 hw hA hS hF) (fl1 hw hA hS hF) (by decide)) (Fld.ne (fl25 hw hA hS hF) (fl4 hw hA hS hF) (by decide)) (Fld.ne (fl25 hw hA hS hF) (fl6 hw hA hS hF) (by decide)) (Fld.ne (fl25 hw hA hS hF) (fl8 hw hA hS hF) (by decide)) (Fld.ne (fl25 hw hA hS hF) (fl10 hw hA hS hF) (by decide)) (Fld.ne (fl25 hw hA hS hF) (fl12 hw hA hS hF) (by decide)) (Fld.ne (fl25 hw hA hS hF) (fl14 hw hA hS hF) (by decide))) (W := 1) (by decide) (by decide) [(.ref (w4_NOT Z))] rfl (lenOf pd7 rfl) (Ls := #[.val (.int p0), .val (.ref b1), .val (.ref (w4_NOT Z)), .val (.ref (w27_EMPTY Z)), .val .null]) (by rw [hml]; rfl) (rest := [.null]) (Nat.le_of_eq rfl) (hb hby at_161) e62 (by decide) (by decide)
    refine st64 _ ?_
    obtain ⟨rfl, N64q, e64⟩ := hQ64
    have N64 := Fr.app N62 N64q
    show own_Wp p e below _ T64 (mkF m 164 #[.val (.int p0), .val (.ref b1), .val (.ref (w4_NOT Z)), .val (.ref (w27_EMPTY Z)), .val .null] [.null, .null])
    refine own_step (fun _ k => Jvm.RoadKit.acmp (g := (mkF m 164 #[.val (.int p0), .val (.ref b1), .val (.ref (w4_NOT Z)), .val (.ref (w27_EMPTY Z)), .val .null] [.null, .null])) X64 hx rfl rfl rfl (pc0 := 164) (pc' := 167) (same := true) rfl (hb hby at_164) rfl (decide_eq_true rfl) (by decide) (by decide) k) ?_
    show own_Wp p e below _ T64 (mkF m 167 #[.val (.int p0), .val (.ref b1), .val (.ref (w4_NOT Z)), .val (.ref (w27_EMPTY Z)), .val .null] [])
    refine own_step (fun _ k => XS.iconst X64.here hx rfl (hb hby at_167) k) ?_
    show own_Wp p e below _ T64 (mkF m 168 #[.val (.int p0), .val (.ref b1), .val (.ref (w4_NOT Z)), .val (.ref (w27_EMPTY Z)), .val .null] [(.int (1 : Int32))])
    refine own_step (fun _ k => XS.goto X64.here hx rfl (pc0 := 168) (pc' := 172) rfl (hb hby at_168) (by decide) (by decide) k) ?_
    show own_Wp p e below _ T64 (mkF m 172 #[.val (.int p0), .val (.ref b1), .val (.ref (w4_NOT Z)), .val (.ref (w27_EMPTY Z)), .val .null] [(.int (1 : Int32))])
    exact own_retN X64 hx (t := .boolean) hret (by simp) hlk (hb hby at_172) (by decide) (by decide) ⟨rfl, N64⟩
  · skip
    rw [hm]
    show own_Wp p e below _ T39 (mkF m 141 #[.val (.int p0), .val (.ref b1), .unset, .unset, .unset] [(.int (5 : Int32)), (.ref b1)])
    obtain ⟨c65, r65, q65, t65, u65, y65h, y65g⟩ := id V39
    have i65 : ¬ ((5 : Int32) < 0 ∨ c65.slots.size ≤ ((5 : Int32)).toNatClampNeg) := inb_of t65 ⟨by decide, by decide⟩
    refine own_step (fun _ k => X39.aaload hx (j := (5 : Int32)) (v := (.ref (w5_AND Z))) (by rw [e39]; exact r65.1) (State.isArrayOf_alike hZ.alike r65.2.1) rfl r65.2.2 i65 (own_get t65 y65h i65 5 rfl) (g := (mkF m 141 #[.val (.int p0), .val (.ref b1), .unset, .unset, .unset] [(.int (5 : Int32)), (.ref b1)])) rfl rfl (hb hby at_141) _ k) ?_
    show own_Wp p e below _ T39 (mkF m 142 #[.val (.int p0), .val (.ref b1), .unset, .unset, .unset] [(.ref (w5_AND Z))])
    refine own_step (fun _ k => XS.astoreN X39.here hx rfl (hb hby at_142) rfl rfl (l' := #[.val (.int p0), .val (.ref b1), .val (.ref (w5_AND Z)), .unset, .unset]) rfl k) ?_
    show own_Wp p e below _ T39 (mkF m 143 #[.val (.int p0), .val (.ref b1), .val (.ref (w5_AND Z)), .unset, .unset] [])
    refine own_step (fun _ k => XS.aloadN X39.here hx rfl (hb hby at_143) rfl rfl k) ?_
    show own_Wp p e below _ T39 (mkF m 144 #[.val (.int p0), .val (.ref b1), .val (.ref (w5_AND Z)), .unset, .unset] [(.ref (w5_AND Z))])
    obtain ⟨_, T66, L66, X66, hQ66, st66⟩ := own_callS X39 hx hZ hown (hw _ (List.mem_of_getElem? (i := 43) rfl)) (hw _ (List.mem_of_getElem? (i := 44) rfl)) (hw _ (List.mem_of_getElem? (i := 45) rfl)) (hw _ (List.mem_of_getElem? (i := 46) rfl)) (by decide) (rm1_2 l Z a0 hw hA hS hF [] (w5_AND Z) h39 n0 O39 (Fld.ne (fl1 hw hA hS hF) (fl16 hw hA hS hF) (by decide)) (Fld.ne (fl4 hw hA hS hF) (fl16 hw hA hS hF) (by decide)) (Fld.ne (fl6 hw hA hS hF) (fl16 hw hA hS hF) (by decide)) (Fld.ne (fl8 hw hA hS hF) (fl16 hw hA hS hF) (by decide)) (Fld.ne (fl10 hw hA hS hF) (fl16 hw hA hS hF) (by decide)) (Fld.ne (fl12 hw hA hS hF) (fl16 hw hA hS hF) (by decide)) (Fld.ne (fl14 hw hA hS hF) (fl16 hw hA hS hF) (by decide))) (W := 0) (by decide) (by decide) [(.ref (w5_AND Z))] rfl (lenOf pd4 rfl) (Ls := #[.val (.int p0), .val (.ref b1), .val (.ref (w5_AND Z)), .unset, .unset]) (by rw [hml]; rfl) (rest := []) (Nat.le_of_eq rfl) (hb hby at_144) e39 (by decide) (by decide)
    refine st66 _ ?_
    obtain ⟨rfl, N66q, K66q⟩ := hQ66
    have N66 := Fr.app N39 N66q
    have O66 := O39.keep K66q all0
    have K66 : Keep h0 T66.heap [] := Keep.trans K39 K66q all0
    show own_Wp p e below _ T66 (mkF m 147 #[.val (.int p0), .val (.ref b1), .val (.ref (w5_AND Z)), .unset, .unset] [(.ref (w27_EMPTY Z))])
    refine own_step (fun _ k => XS.astoreN X66.here hx rfl (hb hby at_147) rfl rfl (l' := #[.val (.int p0), .val (.ref b1), .val (.ref (w5_AND Z)), .val (.ref (w27_EMPTY Z)), .unset]) rfl k) ?_
    show own_Wp p e below _ T66 (mkF m 148 #[.val (.int p0), .val (.ref b1), .val (.ref (w5_AND Z)), .val (.ref (w27_EMPTY Z)), .unset] [])
    refine own_step (fun _ k => XS.aloadN X66.here hx rfl (hb hby at_148) rfl rfl k) ?_
    show own_Wp p e below _ T66 (mkF m 149 #[.val (.int p0), .val (.ref b1), .val (.ref (w5_AND Z)), .val (.ref (w27_EMPTY Z)), .unset] [(.ref (w27_EMPTY Z))])
    refine own_step (fun _ k => XS.aconstNull X66.here hx rfl (hb hby at_149) k) ?_
    show own_Wp p e below _ T66 (mkF m 150 #[.val (.int p0), .val (.ref b1), .val (.ref (w5_AND Z)), .val (.ref (w27_EMPTY Z)), .unset] [.null, (.ref (w27_EMPTY Z))])
    obtain ⟨_, T67, L67, X67, hQ67, st67⟩ := own_callV X66 hx hZ hown (hw _ (List.mem_of_getElem? (i := 76) rfl)) (hw _ (List.mem_of_getElem? (i := 77) rfl)) (notFace_of_selects (args := #[]) (mvT hZ (hw _ (List.mem_of_getElem? (i := 79) rfl)))) (hw _ (List.mem_of_getElem? (i := 79) rfl)) (hw _ (List.mem_of_getElem? (i := 78) rfl)) (hw _ (List.mem_of_getElem? (i := 73) rfl)) (hw _ (List.mem_of_getElem? (i := 80) rfl)) (by decide) ((ex_w27_EMPTY hw hA hS hF).ext O66.2) (rm4_3 l Z a0 hw hA hS hF [] (w27_EMPTY Z) T66.heap n0 O66 (fl26 hw hA hS hF)) (W := 0) (by decide) (by decide) [.null] rfl (lenOf pd5 rfl) (Ls := #[.val (.int p0), .val (.ref b1), .val (.ref (w5_AND Z)), .val (.ref (w27_EMPTY Z)), .unset]) (by rw [hml]; rfl) (rest := []) (Nat.le_of_eq rfl) (hb hby at_150) rfl (by decide) (by decide)
    refine st67 _ ?_
    obtain ⟨rfl, N67q, e67⟩ := hQ67
    have N67 := Fr.app N66 N67q
    show own_Wp p e below _ T67 (mkF m 153 #[.val (.int p0), .val (.ref b1), .val (.ref (w5_AND Z)), .val (.ref (w27_EMPTY Z)), .unset] [.null])
    refine own_step (fun _ k => X67.checkcastNull hx (g := (mkF m 153 #[.val (.int p0), .val (.ref b1), .val (.ref (w5_AND Z)), .val (.ref (w27_EMPTY Z)), .unset] [.null])) rfl rfl (hb hby at_153) _ k) ?_
    show own_Wp p e below _ T67 (mkF m 156 #[.val (.int p0), .val (.ref b1), .val (.ref (w5_AND Z)), .val (.ref (w27_EMPTY Z)), .unset] [.null])
    refine own_step (fun _ k => XS.astore X67.here hx rfl (hb hby at_156) rfl rfl (l' := #[.val (.int p0), .val (.ref b1), .val (.ref (w5_AND Z)), .val (.ref (w27_EMPTY Z)), .val .null]) rfl k) ?_
    show own_Wp p e below _ T67 (mkF m 158 #[.val (.int p0), .val (.ref b1), .val (.ref (w5_AND Z)), .val (.ref (w27_EMPTY Z)), .val .null] [])
    refine own_step (fun _ k => XS.aload X67.here hx rfl (hb hby at_158) rfl rfl k) ?_
    show own_Wp p e below _ T67 (mkF m 160 #[.val (.int p0), .val (.ref b1), .val (.ref (w5_AND Z)), .val (.ref (w27_EMPTY Z)), .val .null] [.null])
    refine own_step (fun _ k => XS.aloadN X67.here hx rfl (hb hby at_160) rfl rfl k) ?_
    show own_Wp p e below _ T67 (mkF m 161 #[.val (.int p0), .val (.ref b1), .val (.ref (w5_AND Z)), .val (.ref (w27_EMPTY Z)), .val .null] [(.ref (w5_AND Z)), .null])
    obtain ⟨_, T69, L69, X69, hQ69, st69⟩ := own_callS X67 hx hZ hown (hw _ (List.mem_of_getElem? (i := 83) rfl)) (hw _ (List.mem_of_getElem? (i := 84) rfl)) (hw _ (List.mem_of_getElem? (i := 85) rfl)) (hw _ (List.mem_of_getElem? (i := 86) rfl)) (by decide) (rm5_4 l Z a0 hw hA hS hF [] (w5_AND Z) T66.heap n0 O66 (Fld.ne (fl16 hw hA hS hF) (fl1 hw hA hS hF) (by decide)) (Fld.ne (fl16 hw hA hS hF) (fl4 hw hA hS hF) (by decide)) (Fld.ne (fl16 hw hA hS hF) (fl6 hw hA hS hF) (by decide)) (Fld.ne (fl16 hw hA hS hF) (fl8 hw hA hS hF) (by decide)) (Fld.ne (fl16 hw hA hS hF) (fl10 hw hA hS hF) (by decide)) (Fld.ne (fl16 hw hA hS hF) (fl12 hw hA hS hF) (by decide)) (Fld.ne (fl16 hw hA hS hF) (fl14 hw hA hS hF) (by decide))) (W := 1) (by decide) (by decide) [(.ref (w5_AND Z))] rfl (lenOf pd7 rfl) (Ls := #[.val (.int p0), .val (.ref b1), .val (.ref (w5_AND Z)), .val (.ref (w27_EMPTY Z)), .val .null]) (by rw [hml]; rfl) (rest := [.null]) (Nat.le_of_eq rfl) (hb hby at_161) e67 (by decide) (by decide)
    refine st69 _ ?_
    obtain ⟨rfl, N69q, e69⟩ := hQ69
    have N69 := Fr.app N67 N69q
    show own_Wp p e below _ T69 (mkF m 164 #[.val (.int p0), .val (.ref b1), .val (.ref (w5_AND Z)), .val (.ref (w27_EMPTY Z)), .val .null] [.null, .null])
    refine own_step (fun _ k => Jvm.RoadKit.acmp (g := (mkF m 164 #[.val (.int p0), .val (.ref b1), .val (.ref (w5_AND Z)), .val (.ref (w27_EMPTY Z)), .val .null] [.null, .null])) X69 hx rfl rfl rfl (pc0 := 164) (pc' := 167) (same := true) rfl (hb hby at_164) rfl (decide_eq_true rfl) (by decide) (by decide) k) ?_
    show own_Wp p e below _ T69 (mkF m 167 #[.val (.int p0), .val (.ref b1), .val (.ref (w5_AND Z)), .val (.ref (w27_EMPTY Z)), .val .null] [])
    refine own_step (fun _ k => XS.iconst X69.here hx rfl (hb hby at_167) k) ?_
    show own_Wp p e below _ T69 (mkF m 168 #[.val (.int p0), .val (.ref b1), .val (.ref (w5_AND Z)), .val (.ref (w27_EMPTY Z)), .val .null] [(.int (1 : Int32))])
    refine own_step (fun _ k => XS.goto X69.here hx rfl (pc0 := 168) (pc' := 172) rfl (hb hby at_168) (by decide) (by decide) k) ?_
    show own_Wp p e below _ T69 (mkF m 172 #[.val (.int p0), .val (.ref b1), .val (.ref (w5_AND Z)), .val (.ref (w27_EMPTY Z)), .val .null] [(.int (1 : Int32))])
    exact own_retN X69 hx (t := .boolean) hret (by simp) hlk (hb hby at_172) (by decide) (by decide) ⟨rfl, N69⟩
  · skip
    rw [hm]
    show own_Wp p e below _ T39 (mkF m 141 #[.val (.int p0), .val (.ref b1), .unset, .unset, .unset] [(.int (6 : Int32)), (.ref b1)])
    obtain ⟨c70, r70, q70, t70, u70, y70h, y70g⟩ := id V39
    have i70 : ¬ ((6 : Int32) < 0 ∨ c70.slots.size ≤ ((6 : Int32)).toNatClampNeg) := inb_of t70 ⟨by decide, by decide⟩
    refine own_step (fun _ k => X39.aaload hx (j := (6 : Int32)) (v := (.ref (w6_OR Z))) (by rw [e39]; exact r70.1) (State.isArrayOf_alike hZ.alike r70.2.1) rfl r70.2.2 i70 (own_get t70 y70h i70 6 rfl) (g := (mkF m 141 #[.val (.int p0), .val (.ref b1), .unset, .unset, .unset] [(.int (6 : Int32)), (.ref b1)])) rfl rfl (hb hby at_141) _ k) ?_
    show own_Wp p e below _ T39 (mkF m 142 #[.val (.int p0), .val (.ref b1), .unset, .unset, .unset] [(.ref (w6_OR Z))])
    refine own_step (fun _ k => XS.astoreN X39.here hx rfl (hb hby at_142) rfl rfl (l' := #[.val (.int p0), .val (.ref b1), .val (.ref (w6_OR Z)), .unset, .unset]) rfl k) ?_
    show own_Wp p e below _ T39 (mkF m 143 #[.val (.int p0), .val (.ref b1), .val (.ref (w6_OR Z)), .unset, .unset] [])
    refine own_step (fun _ k => XS.aloadN X39.here hx rfl (hb hby at_143) rfl rfl k) ?_
    show own_Wp p e below _ T39 (mkF m 144 #[.val (.int p0), .val (.ref b1), .val (.ref (w6_OR Z)), .unset, .unset] [(.ref (w6_OR Z))])
    obtain ⟨_, T71, L71, X71, hQ71, st71⟩ := own_callS X39 hx hZ hown (hw _ (List.mem_of_getElem? (i := 43) rfl)) (hw _ (List.mem_of_getElem? (i := 44) rfl)) (hw _ (List.mem_of_getElem? (i := 45) rfl)) (hw _ (List.mem_of_getElem? (i := 46) rfl)) (by decide) (rm1_2 l Z a0 hw hA hS hF [] (w6_OR Z) h39 n0 O39 (Fld.ne (fl1 hw hA hS hF) (fl23 hw hA hS hF) (by decide)) (Fld.ne (fl4 hw hA hS hF) (fl23 hw hA hS hF) (by decide)) (Fld.ne (fl6 hw hA hS hF) (fl23 hw hA hS hF) (by decide)) (Fld.ne (fl8 hw hA hS hF) (fl23 hw hA hS hF) (by decide)) (Fld.ne (fl10 hw hA hS hF) (fl23 hw hA hS hF) (by decide)) (Fld.ne (fl12 hw hA hS hF) (fl23 hw hA hS hF) (by decide)) (Fld.ne (fl14 hw hA hS hF) (fl23 hw hA hS hF) (by decide))) (W := 0) (by decide) (by decide) [(.ref (w6_OR Z))] rfl (lenOf pd4 rfl) (Ls := #[.val (.int p0), .val (.ref b1), .val (.ref (w6_OR Z)), .unset, .unset]) (by rw [hml]; rfl) (rest := []) (Nat.le_of_eq rfl) (hb hby at_144) e39 (by decide) (by decide)
    refine st71 _ ?_
    obtain ⟨rfl, N71q, K71q⟩ := hQ71
    have N71 := Fr.app N39 N71q
    have O71 := O39.keep K71q all0
    have K71 : Keep h0 T71.heap [] := Keep.trans K39 K71q all0
    show own_Wp p e below _ T71 (mkF m 147 #[.val (.int p0), .val (.ref b1), .val (.ref (w6_OR Z)), .unset, .unset] [(.ref (w27_EMPTY Z))])
    refine own_step (fun _ k => XS.astoreN X71.here hx rfl (hb hby at_147) rfl rfl (l' := #[.val (.int p0), .val (.ref b1), .val (.ref (w6_OR Z)), .val (.ref (w27_EMPTY Z)), .unset]) rfl k) ?_
    show own_Wp p e below _ T71 (mkF m 148 #[.val (.int p0), .val (.ref b1), .val (.ref (w6_OR Z)), .val (.ref (w27_EMPTY Z)), .unset] [])
    refine own_step (fun _ k => XS.aloadN X71.here hx rfl (hb hby at_148) rfl rfl k) ?_
    show own_Wp p e below _ T71 (mkF m 149 #[.val (.int p0), .val (.ref b1), .val (.ref (w6_OR Z)), .val (.ref (w27_EMPTY Z)), .unset] [(.ref (w27_EMPTY Z))])
    refine own_step (fun _ k => XS.aconstNull X71.here hx rfl (hb hby at_149) k) ?_
    show own_Wp p e below _ T71 (mkF m 150 #[.val (.int p0), .val (.ref b1), .val (.ref (w6_OR Z)), .val (.ref (w27_EMPTY Z)), .unset] [.null, (.ref (w27_EMPTY Z))])
    obtain ⟨_, T72, L72, X72, hQ72, st72⟩ := own_callV X71 hx hZ hown (hw _ (List.mem_of_getElem? (i := 76) rfl)) (hw _ (List.mem_of_getElem? (i := 77) rfl)) (notFace_of_selects (args := #[]) (mvT hZ (hw _ (List.mem_of_getElem? (i := 79) rfl)))) (hw _ (List.mem_of_getElem? (i := 79) rfl)) (hw _ (List.mem_of_getElem? (i := 78) rfl)) (hw _ (List.mem_of_getElem? (i := 73) rfl)) (hw _ (List.mem_of_getElem? (i := 80) rfl)) (by decide) ((ex_w27_EMPTY hw hA hS hF).ext O71.2) (rm4_3 l Z a0 hw hA hS hF [] (w27_EMPTY Z) T71.heap n0 O71 (fl26 hw hA hS hF)) (W := 0) (by decide) (by decide) [.null] rfl (lenOf pd5 rfl) (Ls := #[.val (.int p0), .val (.ref b1), .val (.ref (w6_OR Z)), .val (.ref (w27_EMPTY Z)), .unset]) (by rw [hml]; rfl) (rest := []) (Nat.le_of_eq rfl) (hb hby at_150) rfl (by decide) (by decide)
    refine st72 _ ?_
    obtain ⟨rfl, N72q, e72⟩ := hQ72
    have N72 := Fr.app N71 N72q
    show own_Wp p e below _ T72 (mkF m 153 #[.val (.int p0), .val (.ref b1), .val (.ref (w6_OR Z)), .val (.ref (w27_EMPTY Z)), .unset] [.null])
    refine own_step (fun _ k => X72.checkcastNull hx (g := (mkF m 153 #[.val (.int p0), .val (.ref b1), .val (.ref (w6_OR Z)), .val (.ref (w27_EMPTY Z)), .unset] [.null])) rfl rfl (hb hby at_153) _ k) ?_
    show own_Wp p e below _ T72 (mkF m 156 #[.val (.int p0), .val (.ref b1), .val (.ref (w6_OR Z)), .val (.ref (w27_EMPTY Z)), .unset] [.null])
    refine own_step (fun _ k => XS.astore X72.here hx rfl (hb hby at_156) rfl rfl (l' := #[.val (.int p0), .val (.ref b1), .val (.ref (w6_OR Z)), .val (.ref (w27_EMPTY Z)), .val .null]) rfl k) ?_
    show own_Wp p e below _ T72 (mkF m 158 #[.val (.int p0), .val (.ref b1), .val (.ref (w6_OR Z)), .val (.ref (w27_EMPTY Z)), .val .null] [])
    refine own_step (fun _ k => XS.aload X72.here hx rfl (hb hby at_158) rfl rfl k) ?_
    show own_Wp p e below _ T72 (mkF m 160 #[.val (.int p0), .val (.ref b1), .val (.ref (w6_OR Z)), .val (.ref (w27_EMPTY Z)), .val .null] [.null])
    refine own_step (fun _ k => XS.aloadN X72.here hx rfl (hb hby at_160) rfl rfl k) ?_
    show own_Wp p e below _ T72 (mkF m 161 #[.val (.int p0), .val (.ref b1), .val (.ref (w6_OR Z)), .val (.ref (w27_EMPTY Z)), .val .null] [(.ref (w6_OR Z)), .null])
    obtain ⟨_, T74, L74, X74, hQ74, st74⟩ := own_callS X72 hx hZ hown (hw _ (List.mem_of_getElem? (i := 83) rfl)) (hw _ (List.mem_of_getElem? (i := 84) rfl)) (hw _ (List.mem_of_getElem? (i := 85) rfl)) (hw _ (List.mem_of_getElem? (i := 86) rfl)) (by decide) (rm5_4 l Z a0 hw hA hS hF [] (w6_OR Z) T71.heap n0 O71 (Fld.ne (fl23 hw hA hS hF) (fl1 hw hA hS hF) (by decide)) (Fld.ne (fl23 hw hA hS hF) (fl4 hw hA hS hF) (by decide)) (Fld.ne (fl23 hw hA hS hF) (fl6 hw hA hS hF) (by decide)) (Fld.ne (fl23 hw hA hS hF) (fl8 hw hA hS hF) (by decide)) (Fld.ne (fl23 hw hA hS hF) (fl10 hw hA hS hF) (by decide)) (Fld.ne (fl23 hw hA hS hF) (fl12 hw hA hS hF) (by decide)) (Fld.ne (fl23 hw hA hS hF) (fl14 hw hA hS hF) (by decide))) (W := 1) (by decide) (by decide) [(.ref (w6_OR Z))] rfl (lenOf pd7 rfl) (Ls := #[.val (.int p0), .val (.ref b1), .val (.ref (w6_OR Z)), .val (.ref (w27_EMPTY Z)), .val .null]) (by rw [hml]; rfl) (rest := [.null]) (Nat.le_of_eq rfl) (hb hby at_161) e72 (by decide) (by decide)
    refine st74 _ ?_
    obtain ⟨rfl, N74q, e74⟩ := hQ74
    have N74 := Fr.app N72 N74q
    show own_Wp p e below _ T74 (mkF m 164 #[.val (.int p0), .val (.ref b1), .val (.ref (w6_OR Z)), .val (.ref (w27_EMPTY Z)), .val .null] [.null, .null])
    refine own_step (fun _ k => Jvm.RoadKit.acmp (g := (mkF m 164 #[.val (.int p0), .val (.ref b1), .val (.ref (w6_OR Z)), .val (.ref (w27_EMPTY Z)), .val .null] [.null, .null])) X74 hx rfl rfl rfl (pc0 := 164) (pc' := 167) (same := true) rfl (hb hby at_164) rfl (decide_eq_true rfl) (by decide) (by decide) k) ?_
    show own_Wp p e below _ T74 (mkF m 167 #[.val (.int p0), .val (.ref b1), .val (.ref (w6_OR Z)), .val (.ref (w27_EMPTY Z)), .val .null] [])
    refine own_step (fun _ k => XS.iconst X74.here hx rfl (hb hby at_167) k) ?_
    show own_Wp p e below _ T74 (mkF m 168 #[.val (.int p0), .val (.ref b1), .val (.ref (w6_OR Z)), .val (.ref (w27_EMPTY Z)), .val .null] [(.int (1 : Int32))])
    refine own_step (fun _ k => XS.goto X74.here hx rfl (pc0 := 168) (pc' := 172) rfl (hb hby at_168) (by decide) (by decide) k) ?_
    show own_Wp p e below _ T74 (mkF m 172 #[.val (.int p0), .val (.ref b1), .val (.ref (w6_OR Z)), .val (.ref (w27_EMPTY Z)), .val .null] [(.int (1 : Int32))])
    exact own_retN X74 hx (t := .boolean) hret (by simp) hlk (hb hby at_172) (by decide) (by decide) ⟨rfl, N74⟩
  · skip
    rw [hm]
    show own_Wp p e below _ T39 (mkF m 141 #[.val (.int p0), .val (.ref b1), .unset, .unset, .unset] [(.int (7 : Int32)), (.ref b1)])
    obtain ⟨c75, r75, q75, t75, u75, y75h, y75g⟩ := id V39
    have i75 : ¬ ((7 : Int32) < 0 ∨ c75.slots.size ≤ ((7 : Int32)).toNatClampNeg) := inb_of t75 ⟨by decide, by decide⟩
    refine own_step (fun _ k => X39.aaload hx (j := (7 : Int32)) (v := (.ref (w7_TRUE Z))) (by rw [e39]; exact r75.1) (State.isArrayOf_alike hZ.alike r75.2.1) rfl r75.2.2 i75 (own_get t75 y75h i75 7 rfl) (g := (mkF m 141 #[.val (.int p0), .val (.ref b1), .unset, .unset, .unset] [(.int (7 : Int32)), (.ref b1)])) rfl rfl (hb hby at_141) _ k) ?_
    show own_Wp p e below _ T39 (mkF m 142 #[.val (.int p0), .val (.ref b1), .unset, .unset, .unset] [(.ref (w7_TRUE Z))])
    refine own_step (fun _ k => XS.astoreN X39.here hx rfl (hb hby at_142) rfl rfl (l' := #[.val (.int p0), .val (.ref b1), .val (.ref (w7_TRUE Z)), .unset, .unset]) rfl k) ?_
    show own_Wp p e below _ T39 (mkF m 143 #[.val (.int p0), .val (.ref b1), .val (.ref (w7_TRUE Z)), .unset, .unset] [])
    refine own_step (fun _ k => XS.aloadN X39.here hx rfl (hb hby at_143) rfl rfl k) ?_
    show own_Wp p e below _ T39 (mkF m 144 #[.val (.int p0), .val (.ref b1), .val (.ref (w7_TRUE Z)), .unset, .unset] [(.ref (w7_TRUE Z))])
    obtain ⟨_, T76, L76, X76, hQ76, st76⟩ := own_callS X39 hx hZ hown (hw _ (List.mem_of_getElem? (i := 43) rfl)) (hw _ (List.mem_of_getElem? (i := 44) rfl)) (hw _ (List.mem_of_getElem? (i := 45) rfl)) (hw _ (List.mem_of_getElem? (i := 46) rfl)) (by decide) (rm1_2 l Z a0 hw hA hS hF [] (w7_TRUE Z) h39 n0 O39 (Fld.ne (fl1 hw hA hS hF) (fl18 hw hA hS hF) (by decide)) (Fld.ne (fl4 hw hA hS hF) (fl18 hw hA hS hF) (by decide)) (Fld.ne (fl6 hw hA hS hF) (fl18 hw hA hS hF) (by decide)) (Fld.ne (fl8 hw hA hS hF) (fl18 hw hA hS hF) (by decide)) (Fld.ne (fl10 hw hA hS hF) (fl18 hw hA hS hF) (by decide)) (Fld.ne (fl12 hw hA hS hF) (fl18 hw hA hS hF) (by decide)) (Fld.ne (fl14 hw hA hS hF) (fl18 hw hA hS hF) (by decide))) (W := 0) (by decide) (by decide) [(.ref (w7_TRUE Z))] rfl (lenOf pd4 rfl) (Ls := #[.val (.int p0), .val (.ref b1), .val (.ref (w7_TRUE Z)), .unset, .unset]) (by rw [hml]; rfl) (rest := []) (Nat.le_of_eq rfl) (hb hby at_144) e39 (by decide) (by decide)
    refine st76 _ ?_
    obtain ⟨rfl, N76q, K76q⟩ := hQ76
    have N76 := Fr.app N39 N76q
    have O76 := O39.keep K76q all0
    have K76 : Keep h0 T76.heap [] := Keep.trans K39 K76q all0
    show own_Wp p e below _ T76 (mkF m 147 #[.val (.int p0), .val (.ref b1), .val (.ref (w7_TRUE Z)), .unset, .unset] [(.ref (w27_EMPTY Z))])
    refine own_step (fun _ k => XS.astoreN X76.here hx rfl (hb hby at_147) rfl rfl (l' := #[.val (.int p0), .val (.ref b1), .val (.ref (w7_TRUE Z)), .val (.ref (w27_EMPTY Z)), .unset]) rfl k) ?_
    show own_Wp p e below _ T76 (mkF m 148 #[.val (.int p0), .val (.ref b1), .val (.ref (w7_TRUE Z)), .val (.ref (w27_EMPTY Z)), .unset] [])
    refine own_step (fun _ k => XS.aloadN X76.here hx rfl (hb hby at_148) rfl rfl k) ?_
    show own_Wp p e below _ T76 (mkF m 149 #[.val (.int p0), .val (.ref b1), .val (.ref (w7_TRUE Z)), .val (.ref (w27_EMPTY Z)), .unset] [(.ref (w27_EMPTY Z))])
    refine own_step (fun _ k => XS.aconstNull X76.here hx rfl (hb hby at_149) k) ?_
    show own_Wp p e below _ T76 (mkF m 150 #[.val (.int p0), .val (.ref b1), .val (.ref (w7_TRUE Z)), .val (.ref (w27_EMPTY Z)), .unset] [.null, (.ref (w27_EMPTY Z))])
    obtain ⟨_, T77, L77, X77, hQ77, st77⟩ := own_callV X76 hx hZ hown (hw _ (List.mem_of_getElem? (i := 76) rfl)) (hw _ (List.mem_of_getElem? (i := 77) rfl)) (notFace_of_selects (args := #[]) (mvT hZ (hw _ (List.mem_of_getElem? (i := 79) rfl)))) (hw _ (List.mem_of_getElem? (i := 79) rfl)) (hw _ (List.mem_of_getElem? (i := 78) rfl)) (hw _ (List.mem_of_getElem? (i := 73) rfl)) (hw _ (List.mem_of_getElem? (i := 80) rfl)) (by decide) ((ex_w27_EMPTY hw hA hS hF).ext O76.2) (rm4_3 l Z a0 hw hA hS hF [] (w27_EMPTY Z) T76.heap n0 O76 (fl26 hw hA hS hF)) (W := 0) (by decide) (by decide) [.null] rfl (lenOf pd5 rfl) (Ls := #[.val (.int p0), .val (.ref b1), .val (.ref (w7_TRUE Z)), .val (.ref (w27_EMPTY Z)), .unset]) (by rw [hml]; rfl) (rest := []) (Nat.le_of_eq rfl) (hb hby at_150) rfl (by decide) (by decide)
    refine st77 _ ?_
    obtain ⟨rfl, N77q, e77⟩ := hQ77
    have N77 := Fr.app N76 N77q
    show own_Wp p e below _ T77 (mkF m 153 #[.val (.int p0), .val (.ref b1), .val (.ref (w7_TRUE Z)), .val (.ref (w27_EMPTY Z)), .unset] [.null])
    refine own_step (fun _ k => X77.checkcastNull hx (g := (mkF m 153 #[.val (.int p0), .val (.ref b1), .val (.ref (w7_TRUE Z)), .val (.ref (w27_EMPTY Z)), .unset] [.null])) rfl rfl (hb hby at_153) _ k) ?_
    show own_Wp p e below _ T77 (mkF m 156 #[.val (.int p0), .val (.ref b1), .val (.ref (w7_TRUE Z)), .val (.ref (w27_EMPTY Z)), .unset] [.null])
    refine own_step (fun _ k => XS.astore X77.here hx rfl (hb hby at_156) rfl rfl (l' := #[.val (.int p0), .val (.ref b1), .val (.ref (w7_TRUE Z)), .val (.ref (w27_EMPTY Z)), .val .null]) rfl k) ?_
    show own_Wp p e below _ T77 (mkF m 158 #[.val (.int p0), .val (.ref b1), .val (.ref (w7_TRUE Z)), .val (.ref (w27_EMPTY Z)), .val .null] [])
    refine own_step (fun _ k => XS.aload X77.here hx rfl (hb hby at_158) rfl rfl k) ?_
    show own_Wp p e below _ T77 (mkF m 160 #[.val (.int p0), .val (.ref b1), .val (.ref (w7_TRUE Z)), .val (.ref (w27_EMPTY Z)), .val .null] [.null])
    refine own_step (fun _ k => XS.aloadN X77.here hx rfl (hb hby at_160) rfl rfl k) ?_
    show own_Wp p e below _ T77 (mkF m 161 #[.val (.int p0), .val (.ref b1), .val (.ref (w7_TRUE Z)), .val (.ref (w27_EMPTY Z)), .val .null] [(.ref (w7_TRUE Z)), .null])
    obtain ⟨_, T79, L79, X79, hQ79, st79⟩ := own_callS X77 hx hZ hown (hw _ (List.mem_of_getElem? (i := 83) rfl)) (hw _ (List.mem_of_getElem? (i := 84) rfl)) (hw _ (List.mem_of_getElem? (i := 85) rfl)) (hw _ (List.mem_of_getElem? (i := 86) rfl)) (by decide) (rm5_4 l Z a0 hw hA hS hF [] (w7_TRUE Z) T76.heap n0 O76 (Fld.ne (fl18 hw hA hS hF) (fl1 hw hA hS hF) (by decide)) (Fld.ne (fl18 hw hA hS hF) (fl4 hw hA hS hF) (by decide)) (Fld.ne (fl18 hw hA hS hF) (fl6 hw hA hS hF) (by decide)) (Fld.ne (fl18 hw hA hS hF) (fl8 hw hA hS hF) (by decide)) (Fld.ne (fl18 hw hA hS hF) (fl10 hw hA hS hF) (by decide)) (Fld.ne (fl18 hw hA hS hF) (fl12 hw hA hS hF) (by decide)) (Fld.ne (fl18 hw hA hS hF) (fl14 hw hA hS hF) (by decide))) (W := 1) (by decide) (by decide) [(.ref (w7_TRUE Z))] rfl (lenOf pd7 rfl) (Ls := #[.val (.int p0), .val (.ref b1), .val (.ref (w7_TRUE Z)), .val (.ref (w27_EMPTY Z)), .val .null]) (by rw [hml]; rfl) (rest := [.null]) (Nat.le_of_eq rfl) (hb hby at_161) e77 (by decide) (by decide)
    refine st79 _ ?_
    obtain ⟨rfl, N79q, e79⟩ := hQ79
    have N79 := Fr.app N77 N79q
    show own_Wp p e below _ T79 (mkF m 164 #[.val (.int p0), .val (.ref b1), .val (.ref (w7_TRUE Z)), .val (.ref (w27_EMPTY Z)), .val .null] [.null, .null])
    refine own_step (fun _ k => Jvm.RoadKit.acmp (g := (mkF m 164 #[.val (.int p0), .val (.ref b1), .val (.ref (w7_TRUE Z)), .val (.ref (w27_EMPTY Z)), .val .null] [.null, .null])) X79 hx rfl rfl rfl (pc0 := 164) (pc' := 167) (same := true) rfl (hb hby at_164) rfl (decide_eq_true rfl) (by decide) (by decide) k) ?_
    show own_Wp p e below _ T79 (mkF m 167 #[.val (.int p0), .val (.ref b1), .val (.ref (w7_TRUE Z)), .val (.ref (w27_EMPTY Z)), .val .null] [])
    refine own_step (fun _ k => XS.iconst X79.here hx rfl (hb hby at_167) k) ?_
    show own_Wp p e below _ T79 (mkF m 168 #[.val (.int p0), .val (.ref b1), .val (.ref (w7_TRUE Z)), .val (.ref (w27_EMPTY Z)), .val .null] [(.int (1 : Int32))])
    refine own_step (fun _ k => XS.goto X79.here hx rfl (pc0 := 168) (pc' := 172) rfl (hb hby at_168) (by decide) (by decide) k) ?_
    show own_Wp p e below _ T79 (mkF m 172 #[.val (.int p0), .val (.ref b1), .val (.ref (w7_TRUE Z)), .val (.ref (w27_EMPTY Z)), .val .null] [(.int (1 : Int32))])
    exact own_retN X79 hx (t := .boolean) hret (by simp) hlk (hb hby at_172) (by decide) (by decide) ⟨rfl, N79⟩
  · skip
    rw [hm]
    show own_Wp p e below _ T39 (mkF m 141 #[.val (.int p0), .val (.ref b1), .unset, .unset, .unset] [(.int (8 : Int32)), (.ref b1)])
    obtain ⟨c80, r80, q80, t80, u80, y80h, y80g⟩ := id V39
    have i80 : ¬ ((8 : Int32) < 0 ∨ c80.slots.size ≤ ((8 : Int32)).toNatClampNeg) := inb_of t80 ⟨by decide, by decide⟩
    refine own_step (fun _ k => X39.aaload hx (j := (8 : Int32)) (v := (.ref (w8_FALSE Z))) (by rw [e39]; exact r80.1) (State.isArrayOf_alike hZ.alike r80.2.1) rfl r80.2.2 i80 (own_get t80 y80h i80 8 rfl) (g := (mkF m 141 #[.val (.int p0), .val (.ref b1), .unset, .unset, .unset] [(.int (8 : Int32)), (.ref b1)])) rfl rfl (hb hby at_141) _ k) ?_
    show own_Wp p e below _ T39 (mkF m 142 #[.val (.int p0), .val (.ref b1), .unset, .unset, .unset] [(.ref (w8_FALSE Z))])
    refine own_step (fun _ k => XS.astoreN X39.here hx rfl (hb hby at_142) rfl rfl (l' := #[.val (.int p0), .val (.ref b1), .val (.ref (w8_FALSE Z)), .unset, .unset]) rfl k) ?_
    show own_Wp p e below _ T39 (mkF m 143 #[.val (.int p0), .val (.ref b1), .val (.ref (w8_FALSE Z)), .unset, .unset] [])
    refine own_step (fun _ k => XS.aloadN X39.here hx rfl (hb hby at_143) rfl rfl k) ?_
    show own_Wp p e below _ T39 (mkF m 144 #[.val (.int p0), .val (.ref b1), .val (.ref (w8_FALSE Z)), .unset, .unset] [(.ref (w8_FALSE Z))])
    obtain ⟨_, T81, L81, X81, hQ81, st81⟩ := own_callS X39 hx hZ hown (hw _ (List.mem_of_getElem? (i := 43) rfl)) (hw _ (List.mem_of_getElem? (i := 44) rfl)) (hw _ (List.mem_of_getElem? (i := 45) rfl)) (hw _ (List.mem_of_getElem? (i := 46) rfl)) (by decide) (rm1_2 l Z a0 hw hA hS hF [] (w8_FALSE Z) h39 n0 O39 (Fld.ne (fl1 hw hA hS hF) (fl20 hw hA hS hF) (by decide)) (Fld.ne (fl4 hw hA hS hF) (fl20 hw hA hS hF) (by decide)) (Fld.ne (fl6 hw hA hS hF) (fl20 hw hA hS hF) (by decide)) (Fld.ne (fl8 hw hA hS hF) (fl20 hw hA hS hF) (by decide)) (Fld.ne (fl10 hw hA hS hF) (fl20 hw hA hS hF) (by decide)) (Fld.ne (fl12 hw hA hS hF) (fl20 hw hA hS hF) (by decide)) (Fld.ne (fl14 hw hA hS hF) (fl20 hw hA hS hF) (by decide))) (W := 0) (by decide) (by decide) [(.ref (w8_FALSE Z))] rfl (lenOf pd4 rfl) (Ls := #[.val (.int p0), .val (.ref b1), .val (.ref (w8_FALSE Z)), .unset, .unset]) (by rw [hml]; rfl) (rest := []) (Nat.le_of_eq rfl) (hb hby at_144) e39 (by decide) (by decide)
    refine st81 _ ?_
    obtain ⟨rfl, N81q, K81q⟩ := hQ81
    have N81 := Fr.app N39 N81q
    have O81 := O39.keep K81q all0
    have K81 : Keep h0 T81.heap [] := Keep.trans K39 K81q all0
    show own_Wp p e below _ T81 (mkF m 147 #[.val (.int p0), .val (.ref b1), .val (.ref (w8_FALSE Z)), .unset, .unset] [(.ref (w27_EMPTY Z))])
    refine own_step (fun _ k => XS.astoreN X81.here hx rfl (hb hby at_147) rfl rfl (l' := #[.val (.int p0), .val (.ref b1), .val (.ref (w8_FALSE Z)), .val (.ref (w27_EMPTY Z)), .unset]) rfl k) ?_
    show own_Wp p e below _ T81 (mkF m 148 #[.val (.int p0), .val (.ref b1), .val (.ref (w8_FALSE Z)), .val (.ref (w27_EMPTY Z)), .unset] [])
    refine own_step (fun _ k => XS.aloadN X81.here hx rfl (hb hby at_148) rfl rfl k) ?_
    show own_Wp p e below _ T81 (mkF m 149 #[.val (.int p0), .val (.ref b1), .val (.ref (w8_FALSE Z)), .val (.ref (w27_EMPTY Z)), .unset] [(.ref (w27_EMPTY Z))])
    refine own_step (fun _ k => XS.aconstNull X81.here hx rfl (hb hby at_149) k) ?_
    show own_Wp p e below _ T81 (mkF m 150 #[.val (.int p0), .val (.ref b1), .val (.ref (w8_FALSE Z)), .val (.ref (w27_EMPTY Z)), .unset] [.null, (.ref (w27_EMPTY Z))])
    obtain ⟨_, T82, L82, X82, hQ82, st82⟩ := own_callV X81 hx hZ hown (hw _ (List.mem_of_getElem? (i := 76) rfl)) (hw _ (List.mem_of_getElem? (i := 77) rfl)) (notFace_of_selects (args := #[]) (mvT hZ (hw _ (List.mem_of_getElem? (i := 79) rfl)))) (hw _ (List.mem_of_getElem? (i := 79) rfl)) (hw _ (List.mem_of_getElem? (i := 78) rfl)) (hw _ (List.mem_of_getElem? (i := 73) rfl)) (hw _ (List.mem_of_getElem? (i := 80) rfl)) (by decide) ((ex_w27_EMPTY hw hA hS hF).ext O81.2) (rm4_3 l Z a0 hw hA hS hF [] (w27_EMPTY Z) T81.heap n0 O81 (fl26 hw hA hS hF)) (W := 0) (by decide) (by decide) [.null] rfl (lenOf pd5 rfl) (Ls := #[.val (.int p0), .val (.ref b1), .val (.ref (w8_FALSE Z)), .val (.ref (w27_EMPTY Z)), .unset]) (by rw [hml]; rfl) (rest := []) (Nat.le_of_eq rfl) (hb hby at_150) rfl (by decide) (by decide)
    refine st82 _ ?_
    obtain ⟨rfl, N82q, e82⟩ := hQ82
    have N82 := Fr.app N81 N82q
    show own_Wp p e below _ T82 (mkF m 153 #[.val (.int p0), .val (.ref b1), .val (.ref (w8_FALSE Z)), .val (.ref (w27_EMPTY Z)), .unset] [.null])
    refine own_step (fun _ k => X82.checkcastNull hx (g := (mkF m 153 #[.val (.int p0), .val (.ref b1), .val (.ref (w8_FALSE Z)), .val (.ref (w27_EMPTY Z)), .unset] [.null])) rfl rfl (hb hby at_153) _ k) ?_
    show own_Wp p e below _ T82 (mkF m 156 #[.val (.int p0), .val (.ref b1), .val (.ref (w8_FALSE Z)), .val (.ref (w27_EMPTY Z)), .unset] [.null])
    refine own_step (fun _ k => XS.astore X82.here hx rfl (hb hby at_156) rfl rfl (l' := #[.val (.int p0), .val (.ref b1), .val (.ref (w8_FALSE Z)), .val (.ref (w27_EMPTY Z)), .val .null]) rfl k) ?_
    show own_Wp p e below _ T82 (mkF m 158 #[.val (.int p0), .val (.ref b1), .val (.ref (w8_FALSE Z)), .val (.ref (w27_EMPTY Z)), .val .null] [])
    refine own_step (fun _ k => XS.aload X82.here hx rfl (hb hby at_158) rfl rfl k) ?_
    show own_Wp p e below _ T82 (mkF m 160 #[.val (.int p0), .val (.ref b1), .val (.ref (w8_FALSE Z)), .val (.ref (w27_EMPTY Z)), .val .null] [.null])
    refine own_step (fun _ k => XS.aloadN X82.here hx rfl (hb hby at_160) rfl rfl k) ?_
    show own_Wp p e below _ T82 (mkF m 161 #[.val (.int p0), .val (.ref b1), .val (.ref (w8_FALSE Z)), .val (.ref (w27_EMPTY Z)), .val .null] [(.ref (w8_FALSE Z)), .null])
    obtain ⟨_, T84, L84, X84, hQ84, st84⟩ := own_callS X82 hx hZ hown (hw _ (List.mem_of_getElem? (i := 83) rfl)) (hw _ (List.mem_of_getElem? (i := 84) rfl)) (hw _ (List.mem_of_getElem? (i := 85) rfl)) (hw _ (List.mem_of_getElem? (i := 86) rfl)) (by decide) (rm5_4 l Z a0 hw hA hS hF [] (w8_FALSE Z) T81.heap n0 O81 (Fld.ne (fl20 hw hA hS hF) (fl1 hw hA hS hF) (by decide)) (Fld.ne (fl20 hw hA hS hF) (fl4 hw hA hS hF) (by decide)) (Fld.ne (fl20 hw hA hS hF) (fl6 hw hA hS hF) (by decide)) (Fld.ne (fl20 hw hA hS hF) (fl8 hw hA hS hF) (by decide)) (Fld.ne (fl20 hw hA hS hF) (fl10 hw hA hS hF) (by decide)) (Fld.ne (fl20 hw hA hS hF) (fl12 hw hA hS hF) (by decide)) (Fld.ne (fl20 hw hA hS hF) (fl14 hw hA hS hF) (by decide))) (W := 1) (by decide) (by decide) [(.ref (w8_FALSE Z))] rfl (lenOf pd7 rfl) (Ls := #[.val (.int p0), .val (.ref b1), .val (.ref (w8_FALSE Z)), .val (.ref (w27_EMPTY Z)), .val .null]) (by rw [hml]; rfl) (rest := [.null]) (Nat.le_of_eq rfl) (hb hby at_161) e82 (by decide) (by decide)
    refine st84 _ ?_
    obtain ⟨rfl, N84q, e84⟩ := hQ84
    have N84 := Fr.app N82 N84q
    show own_Wp p e below _ T84 (mkF m 164 #[.val (.int p0), .val (.ref b1), .val (.ref (w8_FALSE Z)), .val (.ref (w27_EMPTY Z)), .val .null] [.null, .null])
    refine own_step (fun _ k => Jvm.RoadKit.acmp (g := (mkF m 164 #[.val (.int p0), .val (.ref b1), .val (.ref (w8_FALSE Z)), .val (.ref (w27_EMPTY Z)), .val .null] [.null, .null])) X84 hx rfl rfl rfl (pc0 := 164) (pc' := 167) (same := true) rfl (hb hby at_164) rfl (decide_eq_true rfl) (by decide) (by decide) k) ?_
    show own_Wp p e below _ T84 (mkF m 167 #[.val (.int p0), .val (.ref b1), .val (.ref (w8_FALSE Z)), .val (.ref (w27_EMPTY Z)), .val .null] [])
    refine own_step (fun _ k => XS.iconst X84.here hx rfl (hb hby at_167) k) ?_
    show own_Wp p e below _ T84 (mkF m 168 #[.val (.int p0), .val (.ref b1), .val (.ref (w8_FALSE Z)), .val (.ref (w27_EMPTY Z)), .val .null] [(.int (1 : Int32))])
    refine own_step (fun _ k => XS.goto X84.here hx rfl (pc0 := 168) (pc' := 172) rfl (hb hby at_168) (by decide) (by decide) k) ?_
    show own_Wp p e below _ T84 (mkF m 172 #[.val (.int p0), .val (.ref b1), .val (.ref (w8_FALSE Z)), .val (.ref (w27_EMPTY Z)), .val .null] [(.int (1 : Int32))])
    exact own_retN X84 hx (t := .boolean) hret (by simp) hlk (hb hby at_172) (by decide) (by decide) ⟨rfl, N84⟩
  · skip
    rw [hm]
    show own_Wp p e below _ T39 (mkF m 141 #[.val (.int p0), .val (.ref b1), .unset, .unset, .unset] [(.int (9 : Int32)), (.ref b1)])
    obtain ⟨c85, r85, q85, t85, u85, y85h, y85g⟩ := id V39
    have i85 : ¬ ((9 : Int32) < 0 ∨ c85.slots.size ≤ ((9 : Int32)).toNatClampNeg) := inb_of t85 ⟨by decide, by decide⟩
    refine own_step (fun _ k => X39.aaload hx (j := (9 : Int32)) (v := (.ref (w9_EQUAL Z))) (by rw [e39]; exact r85.1) (State.isArrayOf_alike hZ.alike r85.2.1) rfl r85.2.2 i85 (own_get t85 y85h i85 9 rfl) (g := (mkF m 141 #[.val (.int p0), .val (.ref b1), .unset, .unset, .unset] [(.int (9 : Int32)), (.ref b1)])) rfl rfl (hb hby at_141) _ k) ?_
    show own_Wp p e below _ T39 (mkF m 142 #[.val (.int p0), .val (.ref b1), .unset, .unset, .unset] [(.ref (w9_EQUAL Z))])
    refine own_step (fun _ k => XS.astoreN X39.here hx rfl (hb hby at_142) rfl rfl (l' := #[.val (.int p0), .val (.ref b1), .val (.ref (w9_EQUAL Z)), .unset, .unset]) rfl k) ?_
    show own_Wp p e below _ T39 (mkF m 143 #[.val (.int p0), .val (.ref b1), .val (.ref (w9_EQUAL Z)), .unset, .unset] [])
    refine own_step (fun _ k => XS.aloadN X39.here hx rfl (hb hby at_143) rfl rfl k) ?_
    show own_Wp p e below _ T39 (mkF m 144 #[.val (.int p0), .val (.ref b1), .val (.ref (w9_EQUAL Z)), .unset, .unset] [(.ref (w9_EQUAL Z))])
    obtain ⟨_, T86, L86, X86, hQ86, st86⟩ := own_callS X39 hx hZ hown (hw _ (List.mem_of_getElem? (i := 43) rfl)) (hw _ (List.mem_of_getElem? (i := 44) rfl)) (hw _ (List.mem_of_getElem? (i := 45) rfl)) (hw _ (List.mem_of_getElem? (i := 46) rfl)) (by decide) (rm1_8 l Z a0 hw hA hS hF [] h39 n0 O39) (W := 0) (by decide) (by decide) [(.ref (w9_EQUAL Z))] rfl (lenOf pd4 rfl) (Ls := #[.val (.int p0), .val (.ref b1), .val (.ref (w9_EQUAL Z)), .unset, .unset]) (by rw [hml]; rfl) (rest := []) (Nat.le_of_eq rfl) (hb hby at_144) e39 (by decide) (by decide)
    refine st86 _ ?_
    obtain ⟨b87, rfl, N86q, K86q, y86_0, F86_0, F86_1⟩ := hQ86
    have N86 := Fr.app N39 N86q
    have g86_0 : n0 ≤ b87 := Nat.le_trans (O39.1 ▸ O39.2.1) y86_0
    have ne86_0_0 : b1 ≠ b87 := Nat.ne_of_lt (Nat.lt_of_lt_of_le V39.lt y86_0)
    have u86_0 : h0.size ≤ b87 := Nat.le_trans (K39.1) y86_0
    have O86 := O39.keep K86q all0
    have K86 : Keep h0 T86.heap [] := Keep.trans K39 K86q all0
    show own_Wp p e below _ T86 (mkF m 147 #[.val (.int p0), .val (.ref b1), .val (.ref (w9_EQUAL Z)), .unset, .unset] [(.ref b87)])
    refine own_step (fun _ k => XS.astoreN X86.here hx rfl (hb hby at_147) rfl rfl (l' := #[.val (.int p0), .val (.ref b1), .val (.ref (w9_EQUAL Z)), .val (.ref b87), .unset]) rfl k) ?_
    show own_Wp p e below _ T86 (mkF m 148 #[.val (.int p0), .val (.ref b1), .val (.ref (w9_EQUAL Z)), .val (.ref b87), .unset] [])
    refine own_step (fun _ k => XS.aloadN X86.here hx rfl (hb hby at_148) rfl rfl k) ?_
    show own_Wp p e below _ T86 (mkF m 149 #[.val (.int p0), .val (.ref b1), .val (.ref (w9_EQUAL Z)), .val (.ref b87), .unset] [(.ref b87)])
    refine own_step (fun _ k => XS.aconstNull X86.here hx rfl (hb hby at_149) k) ?_
    show own_Wp p e below _ T86 (mkF m 150 #[.val (.int p0), .val (.ref b1), .val (.ref (w9_EQUAL Z)), .val (.ref b87), .unset] [.null, (.ref b87)])
    obtain ⟨_, T88, L88, X88, hQ88, st88⟩ := own_callV X86 hx hZ hown (hw _ (List.mem_of_getElem? (i := 76) rfl)) (hw _ (List.mem_of_getElem? (i := 77) rfl)) (notFace_of_selects (args := #[]) (mvT hZ (hw _ (List.mem_of_getElem? (i := 79) rfl)))) (hw _ (List.mem_of_getElem? (i := 79) rfl)) (hw _ (List.mem_of_getElem? (i := 78) rfl)) (hw _ (List.mem_of_getElem? (i := 73) rfl)) (hw _ (List.mem_of_getElem? (i := 80) rfl)) (by decide) F86_0 (rm4_9 l Z a0 hw hA hS hF [] b87 T86.heap n0 O86 F86_1) (W := 0) (by decide) (by decide) [.null] rfl (lenOf pd5 rfl) (Ls := #[.val (.int p0), .val (.ref b1), .val (.ref (w9_EQUAL Z)), .val (.ref b87), .unset]) (by rw [hml]; rfl) (rest := []) (Nat.le_of_eq rfl) (hb hby at_150) rfl (by decide) (by decide)
    refine st88 _ ?_
    obtain ⟨rfl, N88q, e88⟩ := hQ88
    have N88 := Fr.app N86 N88q
    show own_Wp p e below _ T88 (mkF m 153 #[.val (.int p0), .val (.ref b1), .val (.ref (w9_EQUAL Z)), .val (.ref b87), .unset] [(.ref (w20_EQUAL Z))])
    obtain ⟨T89, X89, e89, st89⟩ := castY X88 hx hZ hown (hw _ (List.mem_of_getElem? (i := 103) rfl)) e88 (Ins.self ((ex_w20_EQUAL hw hA hS hF).ext O86.2)) (g := (mkF m 153 #[.val (.int p0), .val (.ref b1), .val (.ref (w9_EQUAL Z)), .val (.ref b87), .unset] [(.ref (w20_EQUAL Z))])) rfl rfl (hb hby at_153)
    refine own_step st89 ?_
    show own_Wp p e below _ T89 (mkF m 156 #[.val (.int p0), .val (.ref b1), .val (.ref (w9_EQUAL Z)), .val (.ref b87), .unset] [(.ref (w20_EQUAL Z))])
    refine own_step (fun _ k => XS.astore X89.here hx rfl (hb hby at_156) rfl rfl (l' := #[.val (.int p0), .val (.ref b1), .val (.ref (w9_EQUAL Z)), .val (.ref b87), .val (.ref (w20_EQUAL Z))]) rfl k) ?_
    show own_Wp p e below _ T89 (mkF m 158 #[.val (.int p0), .val (.ref b1), .val (.ref (w9_EQUAL Z)), .val (.ref b87), .val (.ref (w20_EQUAL Z))] [])
    refine own_step (fun _ k => XS.aload X89.here hx rfl (hb hby at_158) rfl rfl k) ?_
    show own_Wp p e below _ T89 (mkF m 160 #[.val (.int p0), .val (.ref b1), .val (.ref (w9_EQUAL Z)), .val (.ref b87), .val (.ref (w20_EQUAL Z))] [(.ref (w20_EQUAL Z))])
    refine own_step (fun _ k => XS.aloadN X89.here hx rfl (hb hby at_160) rfl rfl k) ?_
    show own_Wp p e below _ T89 (mkF m 161 #[.val (.int p0), .val (.ref b1), .val (.ref (w9_EQUAL Z)), .val (.ref b87), .val (.ref (w20_EQUAL Z))] [(.ref (w9_EQUAL Z)), (.ref (w20_EQUAL Z))])
    obtain ⟨_, T90, L90, X90, hQ90, st90⟩ := own_callS X89 hx hZ hown (hw _ (List.mem_of_getElem? (i := 83) rfl)) (hw _ (List.mem_of_getElem? (i := 84) rfl)) (hw _ (List.mem_of_getElem? (i := 85) rfl)) (hw _ (List.mem_of_getElem? (i := 86) rfl)) (by decide) (rm5_10 l Z a0 hw hA hS hF [] T86.heap n0 O86) (W := 1) (by decide) (by decide) [(.ref (w9_EQUAL Z))] rfl (lenOf pd7 rfl) (Ls := #[.val (.int p0), .val (.ref b1), .val (.ref (w9_EQUAL Z)), .val (.ref b87), .val (.ref (w20_EQUAL Z))]) (by rw [hml]; rfl) (rest := [(.ref (w20_EQUAL Z))]) (Nat.le_of_eq rfl) (hb hby at_161) e89 (by decide) (by decide)
    refine st90 _ ?_
    obtain ⟨rfl, N90q, e90⟩ := hQ90
    have N90 := Fr.app N88 N90q
    show own_Wp p e below _ T90 (mkF m 164 #[.val (.int p0), .val (.ref b1), .val (.ref (w9_EQUAL Z)), .val (.ref b87), .val (.ref (w20_EQUAL Z))] [(.ref (w20_EQUAL Z)), (.ref (w20_EQUAL Z))])
    refine own_step (fun _ k => Jvm.RoadKit.acmp (g := (mkF m 164 #[.val (.int p0), .val (.ref b1), .val (.ref (w9_EQUAL Z)), .val (.ref b87), .val (.ref (w20_EQUAL Z))] [(.ref (w20_EQUAL Z)), (.ref (w20_EQUAL Z))])) X90 hx rfl rfl rfl (pc0 := 164) (pc' := 167) (same := true) rfl (hb hby at_164) rfl (decide_eq_true rfl) (by decide) (by decide) k) ?_
    show own_Wp p e below _ T90 (mkF m 167 #[.val (.int p0), .val (.ref b1), .val (.ref (w9_EQUAL Z)), .val (.ref b87), .val (.ref (w20_EQUAL Z))] [])
    refine own_step (fun _ k => XS.iconst X90.here hx rfl (hb hby at_167) k) ?_
    show own_Wp p e below _ T90 (mkF m 168 #[.val (.int p0), .val (.ref b1), .val (.ref (w9_EQUAL Z)), .val (.ref b87), .val (.ref (w20_EQUAL Z))] [(.int (1 : Int32))])
    refine own_step (fun _ k => XS.goto X90.here hx rfl (pc0 := 168) (pc' := 172) rfl (hb hby at_168) (by decide) (by decide) k) ?_
    show own_Wp p e below _ T90 (mkF m 172 #[.val (.int p0), .val (.ref b1), .val (.ref (w9_EQUAL Z)), .val (.ref b87), .val (.ref (w20_EQUAL Z))] [(.int (1 : Int32))])
    exact own_retN X90 hx (t := .boolean) hret (by simp) hlk (hb hby at_172) (by decide) (by decide) ⟨rfl, N90⟩
  · skip
    rw [hm]
    show own_Wp p e below _ T39 (mkF m 141 #[.val (.int p0), .val (.ref b1), .unset, .unset, .unset] [(.int (10 : Int32)), (.ref b1)])
    obtain ⟨c91, r91, q91, t91, u91, y91h, y91g⟩ := id V39
    have i91 : ¬ ((10 : Int32) < 0 ∨ c91.slots.size ≤ ((10 : Int32)).toNatClampNeg) := inb_of t91 ⟨by decide, by decide⟩
    refine own_step (fun _ k => X39.aaload hx (j := (10 : Int32)) (v := (.ref (w10_NOT_EQUAL Z))) (by rw [e39]; exact r91.1) (State.isArrayOf_alike hZ.alike r91.2.1) rfl r91.2.2 i91 (own_get t91 y91h i91 10 rfl) (g := (mkF m 141 #[.val (.int p0), .val (.ref b1), .unset, .unset, .unset] [(.int (10 : Int32)), (.ref b1)])) rfl rfl (hb hby at_141) _ k) ?_
    show own_Wp p e below _ T39 (mkF m 142 #[.val (.int p0), .val (.ref b1), .unset, .unset, .unset] [(.ref (w10_NOT_EQUAL Z))])
    refine own_step (fun _ k => XS.astoreN X39.here hx rfl (hb hby at_142) rfl rfl (l' := #[.val (.int p0), .val (.ref b1), .val (.ref (w10_NOT_EQUAL Z)), .unset, .unset]) rfl k) ?_
    show own_Wp p e below _ T39 (mkF m 143 #[.val (.int p0), .val (.ref b1), .val (.ref (w10_NOT_EQUAL Z)), .unset, .unset] [])
    refine own_step (fun _ k => XS.aloadN X39.here hx rfl (hb hby at_143) rfl rfl k) ?_
    show own_Wp p e below _ T39 (mkF m 144 #[.val (.int p0), .val (.ref b1), .val (.ref (w10_NOT_EQUAL Z)), .unset, .unset] [(.ref (w10_NOT_EQUAL Z))])
    obtain ⟨_, T92, L92, X92, hQ92, st92⟩ := own_callS X39 hx hZ hown (hw _ (List.mem_of_getElem? (i := 43) rfl)) (hw _ (List.mem_of_getElem? (i := 44) rfl)) (hw _ (List.mem_of_getElem? (i := 45) rfl)) (hw _ (List.mem_of_getElem? (i := 46) rfl)) (by decide) (rm1_11 l Z a0 hw hA hS hF [] h39 n0 O39) (W := 0) (by decide) (by decide) [(.ref (w10_NOT_EQUAL Z))] rfl (lenOf pd4 rfl) (Ls := #[.val (.int p0), .val (.ref b1), .val (.ref (w10_NOT_EQUAL Z)), .unset, .unset]) (by rw [hml]; rfl) (rest := []) (Nat.le_of_eq rfl) (hb hby at_144) e39 (by decide) (by decide)
    refine st92 _ ?_
    obtain ⟨b93, rfl, N92q, K92q, y92_0, F92_0, F92_1⟩ := hQ92
    have N92 := Fr.app N39 N92q
    have g92_0 : n0 ≤ b93 := Nat.le_trans (O39.1 ▸ O39.2.1) y92_0
    have ne92_0_0 : b1 ≠ b93 := Nat.ne_of_lt (Nat.lt_of_lt_of_le V39.lt y92_0)
    have u92_0 : h0.size ≤ b93 := Nat.le_trans (K39.1) y92_0
    have O92 := O39.keep K92q all0
    have K92 : Keep h0 T92.heap [] := Keep.trans K39 K92q all0
    show own_Wp p e below _ T92 (mkF m 147 #[.val (.int p0), .val (.ref b1), .val (.ref (w10_NOT_EQUAL Z)), .unset, .unset] [(.ref b93)])
    refine own_step (fun _ k => XS.astoreN X92.here hx rfl (hb hby at_147) rfl rfl (l' := #[.val (.int p0), .val (.ref b1), .val (.ref (w10_NOT_EQUAL Z)), .val (.ref b93), .unset]) rfl k) ?_
    show own_Wp p e below _ T92 (mkF m 148 #[.val (.int p0), .val (.ref b1), .val (.ref (w10_NOT_EQUAL Z)), .val (.ref b93), .unset] [])
    refine own_step (fun _ k => XS.aloadN X92.here hx rfl (hb hby at_148) rfl rfl k) ?_
    show own_Wp p e below _ T92 (mkF m 149 #[.val (.int p0), .val (.ref b1), .val (.ref (w10_NOT_EQUAL Z)), .val (.ref b93), .unset] [(.ref b93)])
    refine own_step (fun _ k => XS.aconstNull X92.here hx rfl (hb hby at_149) k) ?_
    show own_Wp p e below _ T92 (mkF m 150 #[.val (.int p0), .val (.ref b1), .val (.ref (w10_NOT_EQUAL Z)), .val (.ref b93), .unset] [.null, (.ref b93)])
    obtain ⟨_, T94, L94, X94, hQ94, st94⟩ := own_callV X92 hx hZ hown (hw _ (List.mem_of_getElem? (i := 76) rfl)) (hw _ (List.mem_of_getElem? (i := 77) rfl)) (notFace_of_selects (args := #[]) (mvT hZ (hw _ (List.mem_of_getElem? (i := 79) rfl)))) (hw _ (List.mem_of_getElem? (i := 79) rfl)) (hw _ (List.mem_of_getElem? (i := 78) rfl)) (hw _ (List.mem_of_getElem? (i := 73) rfl)) (hw _ (List.mem_of_getElem? (i := 80) rfl)) (by decide) F92_0 (rm4_12 l Z a0 hw hA hS hF [] b93 T92.heap n0 O92 F92_1) (W := 0) (by decide) (by decide) [.null] rfl (lenOf pd5 rfl) (Ls := #[.val (.int p0), .val (.ref b1), .val (.ref (w10_NOT_EQUAL Z)), .val (.ref b93), .unset]) (by rw [hml]; rfl) (rest := []) (Nat.le_of_eq rfl) (hb hby at_150) rfl (by decide) (by decide)
    refine st94 _ ?_
    obtain ⟨rfl, N94q, e94⟩ := hQ94
    have N94 := Fr.app N92 N94q
    show own_Wp p e below _ T94 (mkF m 153 #[.val (.int p0), .val (.ref b1), .val (.ref (w10_NOT_EQUAL Z)), .val (.ref b93), .unset] [(.ref (w21_NOT_EQUAL Z))])
    obtain ⟨T95, X95, e95, st95⟩ := castY X94 hx hZ hown (hw _ (List.mem_of_getElem? (i := 103) rfl)) e94 (Ins.self ((ex_w21_NOT_EQUAL hw hA hS hF).ext O92.2)) (g := (mkF m 153 #[.val (.int p0), .val (.ref b1), .val (.ref (w10_NOT_EQUAL Z)), .val (.ref b93), .unset] [(.ref (w21_NOT_EQUAL Z))])) rfl rfl (hb hby at_153)
    refine own_step st95 ?_
    show own_Wp p e below _ T95 (mkF m 156 #[.val (.int p0), .val (.ref b1), .val (.ref (w10_NOT_EQUAL Z)), .val (.ref b93), .unset] [(.ref (w21_NOT_EQUAL Z))])
    refine own_step (fun _ k => XS.astore X95.here hx rfl (hb hby at_156) rfl rfl (l' := #[.val (.int p0), .val (.ref b1), .val (.ref (w10_NOT_EQUAL Z)), .val (.ref b93), .val (.ref (w21_NOT_EQUAL Z))]) rfl k) ?_
    show own_Wp p e below _ T95 (mkF m 158 #[.val (.int p0), .val (.ref b1), .val (.ref (w10_NOT_EQUAL Z)), .val (.ref b93), .val (.ref (w21_NOT_EQUAL Z))] [])
    refine own_step (fun _ k => XS.aload X95.here hx rfl (hb hby at_158) rfl rfl k) ?_
    show own_Wp p e below _ T95 (mkF m 160 #[.val (.int p0), .val (.ref b1), .val (.ref (w10_NOT_EQUAL Z)), .val (.ref b93), .val (.ref (w21_NOT_EQUAL Z))] [(.ref (w21_NOT_EQUAL Z))])
    refine own_step (fun _ k => XS.aloadN X95.here hx rfl (hb hby at_160) rfl rfl k) ?_
    show own_Wp p e below _ T95 (mkF m 161 #[.val (.int p0), .val (.ref b1), .val (.ref (w10_NOT_EQUAL Z)), .val (.ref b93), .val (.ref (w21_NOT_EQUAL Z))] [(.ref (w10_NOT_EQUAL Z)), (.ref (w21_NOT_EQUAL Z))])
    obtain ⟨_, T96, L96, X96, hQ96, st96⟩ := own_callS X95 hx hZ hown (hw _ (List.mem_of_getElem? (i := 83) rfl)) (hw _ (List.mem_of_getElem? (i := 84) rfl)) (hw _ (List.mem_of_getElem? (i := 85) rfl)) (hw _ (List.mem_of_getElem? (i := 86) rfl)) (by decide) (rm5_13 l Z a0 hw hA hS hF [] T92.heap n0 O92) (W := 1) (by decide) (by decide) [(.ref (w10_NOT_EQUAL Z))] rfl (lenOf pd7 rfl) (Ls := #[.val (.int p0), .val (.ref b1), .val (.ref (w10_NOT_EQUAL Z)), .val (.ref b93), .val (.ref (w21_NOT_EQUAL Z))]) (by rw [hml]; rfl) (rest := [(.ref (w21_NOT_EQUAL Z))]) (Nat.le_of_eq rfl) (hb hby at_161) e95 (by decide) (by decide)
    refine st96 _ ?_
    obtain ⟨rfl, N96q, e96⟩ := hQ96
    have N96 := Fr.app N94 N96q
    show own_Wp p e below _ T96 (mkF m 164 #[.val (.int p0), .val (.ref b1), .val (.ref (w10_NOT_EQUAL Z)), .val (.ref b93), .val (.ref (w21_NOT_EQUAL Z))] [(.ref (w21_NOT_EQUAL Z)), (.ref (w21_NOT_EQUAL Z))])
    refine own_step (fun _ k => Jvm.RoadKit.acmp (g := (mkF m 164 #[.val (.int p0), .val (.ref b1), .val (.ref (w10_NOT_EQUAL Z)), .val (.ref b93), .val (.ref (w21_NOT_EQUAL Z))] [(.ref (w21_NOT_EQUAL Z)), (.ref (w21_NOT_EQUAL Z))])) X96 hx rfl rfl rfl (pc0 := 164) (pc' := 167) (same := true) rfl (hb hby at_164) rfl (decide_eq_true rfl) (by decide) (by decide) k) ?_
    show own_Wp p e below _ T96 (mkF m 167 #[.val (.int p0), .val (.ref b1), .val (.ref (w10_NOT_EQUAL Z)), .val (.ref b93), .val (.ref (w21_NOT_EQUAL Z))] [])
    refine own_step (fun _ k => XS.iconst X96.here hx rfl (hb hby at_167) k) ?_
    show own_Wp p e below _ T96 (mkF m 168 #[.val (.int p0), .val (.ref b1), .val (.ref (w10_NOT_EQUAL Z)), .val (.ref b93), .val (.ref (w21_NOT_EQUAL Z))] [(.int (1 : Int32))])
    refine own_step (fun _ k => XS.goto X96.here hx rfl (pc0 := 168) (pc' := 172) rfl (hb hby at_168) (by decide) (by decide) k) ?_
    show own_Wp p e below _ T96 (mkF m 172 #[.val (.int p0), .val (.ref b1), .val (.ref (w10_NOT_EQUAL Z)), .val (.ref b93), .val (.ref (w21_NOT_EQUAL Z))] [(.int (1 : Int32))])
    exact own_retN X96 hx (t := .boolean) hret (by simp) hlk (hb hby at_172) (by decide) (by decide) ⟨rfl, N96⟩
  · skip
    rw [hm]
    show own_Wp p e below _ T39 (mkF m 141 #[.val (.int p0), .val (.ref b1), .unset, .unset, .unset] [(.int (11 : Int32)), (.ref b1)])
    obtain ⟨c97, r97, q97, t97, u97, y97h, y97g⟩ := id V39
    have i97 : ¬ ((11 : Int32) < 0 ∨ c97.slots.size ≤ ((11 : Int32)).toNatClampNeg) := inb_of t97 ⟨by decide, by decide⟩
    refine own_step (fun _ k => X39.aaload hx (j := (11 : Int32)) (v := (.ref (w11_MATCH Z))) (by rw [e39]; exact r97.1) (State.isArrayOf_alike hZ.alike r97.2.1) rfl r97.2.2 i97 (own_get t97 y97h i97 11 rfl) (g := (mkF m 141 #[.val (.int p0), .val (.ref b1), .unset, .unset, .unset] [(.int (11 : Int32)), (.ref b1)])) rfl rfl (hb hby at_141) _ k) ?_
    show own_Wp p e below _ T39 (mkF m 142 #[.val (.int p0), .val (.ref b1), .unset, .unset, .unset] [(.ref (w11_MATCH Z))])
    refine own_step (fun _ k => XS.astoreN X39.here hx rfl (hb hby at_142) rfl rfl (l' := #[.val (.int p0), .val (.ref b1), .val (.ref (w11_MATCH Z)), .unset, .unset]) rfl k) ?_
    show own_Wp p e below _ T39 (mkF m 143 #[.val (.int p0), .val (.ref b1), .val (.ref (w11_MATCH Z)), .unset, .unset] [])
    refine own_step (fun _ k => XS.aloadN X39.here hx rfl (hb hby at_143) rfl rfl k) ?_
    show own_Wp p e below _ T39 (mkF m 144 #[.val (.int p0), .val (.ref b1), .val (.ref (w11_MATCH Z)), .unset, .unset] [(.ref (w11_MATCH Z))])
    obtain ⟨_, T98, L98, X98, hQ98, st98⟩ := own_callS X39 hx hZ hown (hw _ (List.mem_of_getElem? (i := 43) rfl)) (hw _ (List.mem_of_getElem? (i := 44) rfl)) (hw _ (List.mem_of_getElem? (i := 45) rfl)) (hw _ (List.mem_of_getElem? (i := 46) rfl)) (by decide) (rm1_14 l Z a0 hw hA hS hF [] h39 n0 O39) (W := 0) (by decide) (by decide) [(.ref (w11_MATCH Z))] rfl (lenOf pd4 rfl) (Ls := #[.val (.int p0), .val (.ref b1), .val (.ref (w11_MATCH Z)), .unset, .unset]) (by rw [hml]; rfl) (rest := []) (Nat.le_of_eq rfl) (hb hby at_144) e39 (by decide) (by decide)
    refine st98 _ ?_
    obtain ⟨b99, rfl, N98q, K98q, y98_0, F98_0, F98_1⟩ := hQ98
    have N98 := Fr.app N39 N98q
    have g98_0 : n0 ≤ b99 := Nat.le_trans (O39.1 ▸ O39.2.1) y98_0
    have ne98_0_0 : b1 ≠ b99 := Nat.ne_of_lt (Nat.lt_of_lt_of_le V39.lt y98_0)
    have u98_0 : h0.size ≤ b99 := Nat.le_trans (K39.1) y98_0
    have O98 := O39.keep K98q all0
    have K98 : Keep h0 T98.heap [] := Keep.trans K39 K98q all0
    show own_Wp p e below _ T98 (mkF m 147 #[.val (.int p0), .val (.ref b1), .val (.ref (w11_MATCH Z)), .unset, .unset] [(.ref b99)])
    refine own_step (fun _ k => XS.astoreN X98.here hx rfl (hb hby at_147) rfl rfl (l' := #[.val (.int p0), .val (.ref b1), .val (.ref (w11_MATCH Z)), .val (.ref b99), .unset]) rfl k) ?_
    show own_Wp p e below _ T98 (mkF m 148 #[.val (.int p0), .val (.ref b1), .val (.ref (w11_MATCH Z)), .val (.ref b99), .unset] [])
    refine own_step (fun _ k => XS.aloadN X98.here hx rfl (hb hby at_148) rfl rfl k) ?_
    show own_Wp p e below _ T98 (mkF m 149 #[.val (.int p0), .val (.ref b1), .val (.ref (w11_MATCH Z)), .val (.ref b99), .unset] [(.ref b99)])
    refine own_step (fun _ k => XS.aconstNull X98.here hx rfl (hb hby at_149) k) ?_
    show own_Wp p e below _ T98 (mkF m 150 #[.val (.int p0), .val (.ref b1), .val (.ref (w11_MATCH Z)), .val (.ref b99), .unset] [.null, (.ref b99)])
    obtain ⟨_, T100, L100, X100, hQ100, st100⟩ := own_callV X98 hx hZ hown (hw _ (List.mem_of_getElem? (i := 76) rfl)) (hw _ (List.mem_of_getElem? (i := 77) rfl)) (notFace_of_selects (args := #[]) (mvT hZ (hw _ (List.mem_of_getElem? (i := 79) rfl)))) (hw _ (List.mem_of_getElem? (i := 79) rfl)) (hw _ (List.mem_of_getElem? (i := 78) rfl)) (hw _ (List.mem_of_getElem? (i := 73) rfl)) (hw _ (List.mem_of_getElem? (i := 80) rfl)) (by decide) F98_0 (rm4_15 l Z a0 hw hA hS hF [] b99 T98.heap n0 O98 F98_1) (W := 0) (by decide) (by decide) [.null] rfl (lenOf pd5 rfl) (Ls := #[.val (.int p0), .val (.ref b1), .val (.ref (w11_MATCH Z)), .val (.ref b99), .unset]) (by rw [hml]; rfl) (rest := []) (Nat.le_of_eq rfl) (hb hby at_150) rfl (by decide) (by decide)
    refine st100 _ ?_
    obtain ⟨rfl, N100q, e100⟩ := hQ100
    have N100 := Fr.app N98 N100q
    show own_Wp p e below _ T100 (mkF m 153 #[.val (.int p0), .val (.ref b1), .val (.ref (w11_MATCH Z)), .val (.ref b99), .unset] [(.ref (w22_MATCH Z))])
    obtain ⟨T101, X101, e101, st101⟩ := castY X100 hx hZ hown (hw _ (List.mem_of_getElem? (i := 103) rfl)) e100 (Ins.self ((ex_w22_MATCH hw hA hS hF).ext O98.2)) (g := (mkF m 153 #[.val (.int p0), .val (.ref b1), .val (.ref (w11_MATCH Z)), .val (.ref b99), .unset] [(.ref (w22_MATCH Z))])) rfl rfl (hb hby at_153)
    refine own_step st101 ?_
    show own_Wp p e below _ T101 (mkF m 156 #[.val (.int p0), .val (.ref b1), .val (.ref (w11_MATCH Z)), .val (.ref b99), .unset] [(.ref (w22_MATCH Z))])
    refine own_step (fun _ k => XS.astore X101.here hx rfl (hb hby at_156) rfl rfl (l' := #[.val (.int p0), .val (.ref b1), .val (.ref (w11_MATCH Z)), .val (.ref b99), .val (.ref (w22_MATCH Z))]) rfl k) ?_
    show own_Wp p e below _ T101 (mkF m 158 #[.val (.int p0), .val (.ref b1), .val (.ref (w11_MATCH Z)), .val (.ref b99), .val (.ref (w22_MATCH Z))] [])
    refine own_step (fun _ k => XS.aload X101.here hx rfl (hb hby at_158) rfl rfl k) ?_
    show own_Wp p e below _ T101 (mkF m 160 #[.val (.int p0), .val (.ref b1), .val (.ref (w11_MATCH Z)), .val (.ref b99), .val (.ref (w22_MATCH Z))] [(.ref (w22_MATCH Z))])
    refine own_step (fun _ k => XS.aloadN X101.here hx rfl (hb hby at_160) rfl rfl k) ?_
    show own_Wp p e below _ T101 (mkF m 161 #[.val (.int p0), .val (.ref b1), .val (.ref (w11_MATCH Z)), .val (.ref b99), .val (.ref (w22_MATCH Z))] [(.ref (w11_MATCH Z)), (.ref (w22_MATCH Z))])
    obtain ⟨_, T102, L102, X102, hQ102, st102⟩ := own_callS X101 hx hZ hown (hw _ (List.mem_of_getElem? (i := 83) rfl)) (hw _ (List.mem_of_getElem? (i := 84) rfl)) (hw _ (List.mem_of_getElem? (i := 85) rfl)) (hw _ (List.mem_of_getElem? (i := 86) rfl)) (by decide) (rm5_16 l Z a0 hw hA hS hF [] T98.heap n0 O98) (W := 1) (by decide) (by decide) [(.ref (w11_MATCH Z))] rfl (lenOf pd7 rfl) (Ls := #[.val (.int p0), .val (.ref b1), .val (.ref (w11_MATCH Z)), .val (.ref b99), .val (.ref (w22_MATCH Z))]) (by rw [hml]; rfl) (rest := [(.ref (w22_MATCH Z))]) (Nat.le_of_eq rfl) (hb hby at_161) e101 (by decide) (by decide)
    refine st102 _ ?_
    obtain ⟨rfl, N102q, e102⟩ := hQ102
    have N102 := Fr.app N100 N102q
    show own_Wp p e below _ T102 (mkF m 164 #[.val (.int p0), .val (.ref b1), .val (.ref (w11_MATCH Z)), .val (.ref b99), .val (.ref (w22_MATCH Z))] [(.ref (w22_MATCH Z)), (.ref (w22_MATCH Z))])
    refine own_step (fun _ k => Jvm.RoadKit.acmp (g := (mkF m 164 #[.val (.int p0), .val (.ref b1), .val (.ref (w11_MATCH Z)), .val (.ref b99), .val (.ref (w22_MATCH Z))] [(.ref (w22_MATCH Z)), (.ref (w22_MATCH Z))])) X102 hx rfl rfl rfl (pc0 := 164) (pc' := 167) (same := true) rfl (hb hby at_164) rfl (decide_eq_true rfl) (by decide) (by decide) k) ?_
    show own_Wp p e below _ T102 (mkF m 167 #[.val (.int p0), .val (.ref b1), .val (.ref (w11_MATCH Z)), .val (.ref b99), .val (.ref (w22_MATCH Z))] [])
    refine own_step (fun _ k => XS.iconst X102.here hx rfl (hb hby at_167) k) ?_
    show own_Wp p e below _ T102 (mkF m 168 #[.val (.int p0), .val (.ref b1), .val (.ref (w11_MATCH Z)), .val (.ref b99), .val (.ref (w22_MATCH Z))] [(.int (1 : Int32))])
    refine own_step (fun _ k => XS.goto X102.here hx rfl (pc0 := 168) (pc' := 172) rfl (hb hby at_168) (by decide) (by decide) k) ?_
    show own_Wp p e below _ T102 (mkF m 172 #[.val (.int p0), .val (.ref b1), .val (.ref (w11_MATCH Z)), .val (.ref b99), .val (.ref (w22_MATCH Z))] [(.int (1 : Int32))])
    exact own_retN X102 hx (t := .boolean) hret (by simp) hlk (hb hby at_172) (by decide) (by decide) ⟨rfl, N102⟩
  · skip
    rw [hm]
    show own_Wp p e below _ T39 (mkF m 141 #[.val (.int p0), .val (.ref b1), .unset, .unset, .unset] [(.int (12 : Int32)), (.ref b1)])
    obtain ⟨c103, r103, q103, t103, u103, y103h, y103g⟩ := id V39
    have i103 : ¬ ((12 : Int32) < 0 ∨ c103.slots.size ≤ ((12 : Int32)).toNatClampNeg) := inb_of t103 ⟨by decide, by decide⟩
    refine own_step (fun _ k => X39.aaload hx (j := (12 : Int32)) (v := (.ref (w12_LESS_EQUAL Z))) (by rw [e39]; exact r103.1) (State.isArrayOf_alike hZ.alike r103.2.1) rfl r103.2.2 i103 (own_get t103 y103h i103 12 rfl) (g := (mkF m 141 #[.val (.int p0), .val (.ref b1), .unset, .unset, .unset] [(.int (12 : Int32)), (.ref b1)])) rfl rfl (hb hby at_141) _ k) ?_
    show own_Wp p e below _ T39 (mkF m 142 #[.val (.int p0), .val (.ref b1), .unset, .unset, .unset] [(.ref (w12_LESS_EQUAL Z))])
    refine own_step (fun _ k => XS.astoreN X39.here hx rfl (hb hby at_142) rfl rfl (l' := #[.val (.int p0), .val (.ref b1), .val (.ref (w12_LESS_EQUAL Z)), .unset, .unset]) rfl k) ?_
    show own_Wp p e below _ T39 (mkF m 143 #[.val (.int p0), .val (.ref b1), .val (.ref (w12_LESS_EQUAL Z)), .unset, .unset] [])
    refine own_step (fun _ k => XS.aloadN X39.here hx rfl (hb hby at_143) rfl rfl k) ?_
    show own_Wp p e below _ T39 (mkF m 144 #[.val (.int p0), .val (.ref b1), .val (.ref (w12_LESS_EQUAL Z)), .unset, .unset] [(.ref (w12_LESS_EQUAL Z))])
    obtain ⟨_, T104, L104, X104, hQ104, st104⟩ := own_callS X39 hx hZ hown (hw _ (List.mem_of_getElem? (i := 43) rfl)) (hw _ (List.mem_of_getElem? (i := 44) rfl)) (hw _ (List.mem_of_getElem? (i := 45) rfl)) (hw _ (List.mem_of_getElem? (i := 46) rfl)) (by decide) (rm1_17 l Z a0 hw hA hS hF [] h39 n0 O39) (W := 0) (by decide) (by decide) [(.ref (w12_LESS_EQUAL Z))] rfl (lenOf pd4 rfl) (Ls := #[.val (.int p0), .val (.ref b1), .val (.ref (w12_LESS_EQUAL Z)), .unset, .unset]) (by rw [hml]; rfl) (rest := []) (Nat.le_of_eq rfl) (hb hby at_144) e39 (by decide) (by decide)
    refine st104 _ ?_
    obtain ⟨b105, rfl, N104q, K104q, y104_0, F104_0, F104_1⟩ := hQ104
    have N104 := Fr.app N39 N104q
    have g104_0 : n0 ≤ b105 := Nat.le_trans (O39.1 ▸ O39.2.1) y104_0
    have ne104_0_0 : b1 ≠ b105 := Nat.ne_of_lt (Nat.lt_of_lt_of_le V39.lt y104_0)
    have u104_0 : h0.size ≤ b105 := Nat.le_trans (K39.1) y104_0
    have O104 := O39.keep K104q all0
    have K104 : Keep h0 T104.heap [] := Keep.trans K39 K104q all0
    show own_Wp p e below _ T104 (mkF m 147 #[.val (.int p0), .val (.ref b1), .val (.ref (w12_LESS_EQUAL Z)), .unset, .unset] [(.ref b105)])
    refine own_step (fun _ k => XS.astoreN X104.here hx rfl (hb hby at_147) rfl rfl (l' := #[.val (.int p0), .val (.ref b1), .val (.ref (w12_LESS_EQUAL Z)), .val (.ref b105), .unset]) rfl k) ?_
    show own_Wp p e below _ T104 (mkF m 148 #[.val (.int p0), .val (.ref b1), .val (.ref (w12_LESS_EQUAL Z)), .val (.ref b105), .unset] [])
    refine own_step (fun _ k => XS.aloadN X104.here hx rfl (hb hby at_148) rfl rfl k) ?_
    show own_Wp p e below _ T104 (mkF m 149 #[.val (.int p0), .val (.ref b1), .val (.ref (w12_LESS_EQUAL Z)), .val (.ref b105), .unset] [(.ref b105)])
    refine own_step (fun _ k => XS.aconstNull X104.here hx rfl (hb hby at_149) k) ?_
    show own_Wp p e below _ T104 (mkF m 150 #[.val (.int p0), .val (.ref b1), .val (.ref (w12_LESS_EQUAL Z)), .val (.ref b105), .unset] [.null, (.ref b105)])
    obtain ⟨_, T106, L106, X106, hQ106, st106⟩ := own_callV X104 hx hZ hown (hw _ (List.mem_of_getElem? (i := 76) rfl)) (hw _ (List.mem_of_getElem? (i := 77) rfl)) (notFace_of_selects (args := #[]) (mvT hZ (hw _ (List.mem_of_getElem? (i := 79) rfl)))) (hw _ (List.mem_of_getElem? (i := 79) rfl)) (hw _ (List.mem_of_getElem? (i := 78) rfl)) (hw _ (List.mem_of_getElem? (i := 73) rfl)) (hw _ (List.mem_of_getElem? (i := 80) rfl)) (by decide) F104_0 (rm4_18 l Z a0 hw hA hS hF [] b105 T104.heap n0 O104 F104_1) (W := 0) (by decide) (by decide) [.null] rfl (lenOf pd5 rfl) (Ls := #[.val (.int p0), .val (.ref b1), .val (.ref (w12_LESS_EQUAL Z)), .val (.ref b105), .unset]) (by rw [hml]; rfl) (rest := []) (Nat.le_of_eq rfl) (hb hby at_150) rfl (by decide) (by decide)
    refine st106 _ ?_
    obtain ⟨rfl, N106q, e106⟩ := hQ106
    have N106 := Fr.app N104 N106q
    show own_Wp p e below _ T106 (mkF m 153 #[.val (.int p0), .val (.ref b1), .val (.ref (w12_LESS_EQUAL Z)), .val (.ref b105), .unset] [(.ref (w24_LESS_EQUAL Z))])
    obtain ⟨T107, X107, e107, st107⟩ := castY X106 hx hZ hown (hw _ (List.mem_of_getElem? (i := 103) rfl)) e106 (Ins.self ((ex_w24_LESS_EQUAL hw hA hS hF).ext O104.2)) (g := (mkF m 153 #[.val (.int p0), .val (.ref b1), .val (.ref (w12_LESS_EQUAL Z)), .val (.ref b105), .unset] [(.ref (w24_LESS_EQUAL Z))])) rfl rfl (hb hby at_153)
    refine own_step st107 ?_
    show own_Wp p e below _ T107 (mkF m 156 #[.val (.int p0), .val (.ref b1), .val (.ref (w12_LESS_EQUAL Z)), .val (.ref b105), .unset] [(.ref (w24_LESS_EQUAL Z))])
    refine own_step (fun _ k => XS.astore X107.here hx rfl (hb hby at_156) rfl rfl (l' := #[.val (.int p0), .val (.ref b1), .val (.ref (w12_LESS_EQUAL Z)), .val (.ref b105), .val (.ref (w24_LESS_EQUAL Z))]) rfl k) ?_
    show own_Wp p e below _ T107 (mkF m 158 #[.val (.int p0), .val (.ref b1), .val (.ref (w12_LESS_EQUAL Z)), .val (.ref b105), .val (.ref (w24_LESS_EQUAL Z))] [])
    refine own_step (fun _ k => XS.aload X107.here hx rfl (hb hby at_158) rfl rfl k) ?_
    show own_Wp p e below _ T107 (mkF m 160 #[.val (.int p0), .val (.ref b1), .val (.ref (w12_LESS_EQUAL Z)), .val (.ref b105), .val (.ref (w24_LESS_EQUAL Z))] [(.ref (w24_LESS_EQUAL Z))])
    refine own_step (fun _ k => XS.aloadN X107.here hx rfl (hb hby at_160) rfl rfl k) ?_
    show own_Wp p e below _ T107 (mkF m 161 #[.val (.int p0), .val (.ref b1), .val (.ref (w12_LESS_EQUAL Z)), .val (.ref b105), .val (.ref (w24_LESS_EQUAL Z))] [(.ref (w12_LESS_EQUAL Z)), (.ref (w24_LESS_EQUAL Z))])
    obtain ⟨_, T108, L108, X108, hQ108, st108⟩ := own_callS X107 hx hZ hown (hw _ (List.mem_of_getElem? (i := 83) rfl)) (hw _ (List.mem_of_getElem? (i := 84) rfl)) (hw _ (List.mem_of_getElem? (i := 85) rfl)) (hw _ (List.mem_of_getElem? (i := 86) rfl)) (by decide) (rm5_19 l Z a0 hw hA hS hF [] T104.heap n0 O104) (W := 1) (by decide) (by decide) [(.ref (w12_LESS_EQUAL Z))] rfl (lenOf pd7 rfl) (Ls := #[.val (.int p0), .val (.ref b1), .val (.ref (w12_LESS_EQUAL Z)), .val (.ref b105), .val (.ref (w24_LESS_EQUAL Z))]) (by rw [hml]; rfl) (rest := [(.ref (w24_LESS_EQUAL Z))]) (Nat.le_of_eq rfl) (hb hby at_161) e107 (by decide) (by decide)
    refine st108 _ ?_
    obtain ⟨rfl, N108q, e108⟩ := hQ108
    have N108 := Fr.app N106 N108q
    show own_Wp p e below _ T108 (mkF m 164 #[.val (.int p0), .val (.ref b1), .val (.ref (w12_LESS_EQUAL Z)), .val (.ref b105), .val (.ref (w24_LESS_EQUAL Z))] [(.ref (w24_LESS_EQUAL Z)), (.ref (w24_LESS_EQUAL Z))])
    refine own_step (fun _ k => Jvm.RoadKit.acmp (g := (mkF m 164 #[.val (.int p0), .val (.ref b1), .val (.ref (w12_LESS_EQUAL Z)), .val (.ref b105), .val (.ref (w24_LESS_EQUAL Z))] [(.ref (w24_LESS_EQUAL Z)), (.ref (w24_LESS_EQUAL Z))])) X108 hx rfl rfl rfl (pc0 := 164) (pc' := 167) (same := true) rfl (hb hby at_164) rfl (decide_eq_true rfl) (by decide) (by decide) k) ?_
    show own_Wp p e below _ T108 (mkF m 167 #[.val (.int p0), .val (.ref b1), .val (.ref (w12_LESS_EQUAL Z)), .val (.ref b105), .val (.ref (w24_LESS_EQUAL Z))] [])
    refine own_step (fun _ k => XS.iconst X108.here hx rfl (hb hby at_167) k) ?_
    show own_Wp p e below _ T108 (mkF m 168 #[.val (.int p0), .val (.ref b1), .val (.ref (w12_LESS_EQUAL Z)), .val (.ref b105), .val (.ref (w24_LESS_EQUAL Z))] [(.int (1 : Int32))])
    refine own_step (fun _ k => XS.goto X108.here hx rfl (pc0 := 168) (pc' := 172) rfl (hb hby at_168) (by decide) (by decide) k) ?_
    show own_Wp p e below _ T108 (mkF m 172 #[.val (.int p0), .val (.ref b1), .val (.ref (w12_LESS_EQUAL Z)), .val (.ref b105), .val (.ref (w24_LESS_EQUAL Z))] [(.int (1 : Int32))])
    exact own_retN X108 hx (t := .boolean) hret (by simp) hlk (hb hby at_172) (by decide) (by decide) ⟨rfl, N108⟩
  · skip
    rw [hm]
    show own_Wp p e below _ T39 (mkF m 141 #[.val (.int p0), .val (.ref b1), .unset, .unset, .unset] [(.int (13 : Int32)), (.ref b1)])
    obtain ⟨c109, r109, q109, t109, u109, y109h, y109g⟩ := id V39
    have i109 : ¬ ((13 : Int32) < 0 ∨ c109.slots.size ≤ ((13 : Int32)).toNatClampNeg) := inb_of t109 ⟨by decide, by decide⟩
    refine own_step (fun _ k => X39.aaload hx (j := (13 : Int32)) (v := (.ref (w13_LESS Z))) (by rw [e39]; exact r109.1) (State.isArrayOf_alike hZ.alike r109.2.1) rfl r109.2.2 i109 (own_get t109 y109h i109 13 rfl) (g := (mkF m 141 #[.val (.int p0), .val (.ref b1), .unset, .unset, .unset] [(.int (13 : Int32)), (.ref b1)])) rfl rfl (hb hby at_141) _ k) ?_
    show own_Wp p e below _ T39 (mkF m 142 #[.val (.int p0), .val (.ref b1), .unset, .unset, .unset] [(.ref (w13_LESS Z))])
    refine own_step (fun _ k => XS.astoreN X39.here hx rfl (hb hby at_142) rfl rfl (l' := #[.val (.int p0), .val (.ref b1), .val (.ref (w13_LESS Z)), .unset, .unset]) rfl k) ?_
    show own_Wp p e below _ T39 (mkF m 143 #[.val (.int p0), .val (.ref b1), .val (.ref (w13_LESS Z)), .unset, .unset] [])
    refine own_step (fun _ k => XS.aloadN X39.here hx rfl (hb hby at_143) rfl rfl k) ?_
    show own_Wp p e below _ T39 (mkF m 144 #[.val (.int p0), .val (.ref b1), .val (.ref (w13_LESS Z)), .unset, .unset] [(.ref (w13_LESS Z))])
    obtain ⟨_, T110, L110, X110, hQ110, st110⟩ := own_callS X39 hx hZ hown (hw _ (List.mem_of_getElem? (i := 43) rfl)) (hw _ (List.mem_of_getElem? (i := 44) rfl)) (hw _ (List.mem_of_getElem? (i := 45) rfl)) (hw _ (List.mem_of_getElem? (i := 46) rfl)) (by decide) (rm1_20 l Z a0 hw hA hS hF [] h39 n0 O39) (W := 0) (by decide) (by decide) [(.ref (w13_LESS Z))] rfl (lenOf pd4 rfl) (Ls := #[.val (.int p0), .val (.ref b1), .val (.ref (w13_LESS Z)), .unset, .unset]) (by rw [hml]; rfl) (rest := []) (Nat.le_of_eq rfl) (hb hby at_144) e39 (by decide) (by decide)
    refine st110 _ ?_
    obtain ⟨b111, rfl, N110q, K110q, y110_0, F110_0, F110_1⟩ := hQ110
    have N110 := Fr.app N39 N110q
    have g110_0 : n0 ≤ b111 := Nat.le_trans (O39.1 ▸ O39.2.1) y110_0
    have ne110_0_0 : b1 ≠ b111 := Nat.ne_of_lt (Nat.lt_of_lt_of_le V39.lt y110_0)
    have u110_0 : h0.size ≤ b111 := Nat.le_trans (K39.1) y110_0
    have O110 := O39.keep K110q all0
    have K110 : Keep h0 T110.heap [] := Keep.trans K39 K110q all0
    show own_Wp p e below _ T110 (mkF m 147 #[.val (.int p0), .val (.ref b1), .val (.ref (w13_LESS Z)), .unset, .unset] [(.ref b111)])
    refine own_step (fun _ k => XS.astoreN X110.here hx rfl (hb hby at_147) rfl rfl (l' := #[.val (.int p0), .val (.ref b1), .val (.ref (w13_LESS Z)), .val (.ref b111), .unset]) rfl k) ?_
    show own_Wp p e below _ T110 (mkF m 148 #[.val (.int p0), .val (.ref b1), .val (.ref (w13_LESS Z)), .val (.ref b111), .unset] [])
    refine own_step (fun _ k => XS.aloadN X110.here hx rfl (hb hby at_148) rfl rfl k) ?_
    show own_Wp p e below _ T110 (mkF m 149 #[.val (.int p0), .val (.ref b1), .val (.ref (w13_LESS Z)), .val (.ref b111), .unset] [(.ref b111)])
    refine own_step (fun _ k => XS.aconstNull X110.here hx rfl (hb hby at_149) k) ?_
    show own_Wp p e below _ T110 (mkF m 150 #[.val (.int p0), .val (.ref b1), .val (.ref (w13_LESS Z)), .val (.ref b111), .unset] [.null, (.ref b111)])
    obtain ⟨_, T112, L112, X112, hQ112, st112⟩ := own_callV X110 hx hZ hown (hw _ (List.mem_of_getElem? (i := 76) rfl)) (hw _ (List.mem_of_getElem? (i := 77) rfl)) (notFace_of_selects (args := #[]) (mvT hZ (hw _ (List.mem_of_getElem? (i := 79) rfl)))) (hw _ (List.mem_of_getElem? (i := 79) rfl)) (hw _ (List.mem_of_getElem? (i := 78) rfl)) (hw _ (List.mem_of_getElem? (i := 73) rfl)) (hw _ (List.mem_of_getElem? (i := 80) rfl)) (by decide) F110_0 (rm4_21 l Z a0 hw hA hS hF [] b111 T110.heap n0 O110 F110_1) (W := 0) (by decide) (by decide) [.null] rfl (lenOf pd5 rfl) (Ls := #[.val (.int p0), .val (.ref b1), .val (.ref (w13_LESS Z)), .val (.ref b111), .unset]) (by rw [hml]; rfl) (rest := []) (Nat.le_of_eq rfl) (hb hby at_150) rfl (by decide) (by decide)
    refine st112 _ ?_
    obtain ⟨rfl, N112q, e112⟩ := hQ112
    have N112 := Fr.app N110 N112q
    show own_Wp p e below _ T112 (mkF m 153 #[.val (.int p0), .val (.ref b1), .val (.ref (w13_LESS Z)), .val (.ref b111), .unset] [(.ref (w23_LESS Z))])
    obtain ⟨T113, X113, e113, st113⟩ := castY X112 hx hZ hown (hw _ (List.mem_of_getElem? (i := 103) rfl)) e112 (Ins.self ((ex_w23_LESS hw hA hS hF).ext O110.2)) (g := (mkF m 153 #[.val (.int p0), .val (.ref b1), .val (.ref (w13_LESS Z)), .val (.ref b111), .unset] [(.ref (w23_LESS Z))])) rfl rfl (hb hby at_153)
    refine own_step st113 ?_
    show own_Wp p e below _ T113 (mkF m 156 #[.val (.int p0), .val (.ref b1), .val (.ref (w13_LESS Z)), .val (.ref b111), .unset] [(.ref (w23_LESS Z))])
    refine own_step (fun _ k => XS.astore X113.here hx rfl (hb hby at_156) rfl rfl (l' := #[.val (.int p0), .val (.ref b1), .val (.ref (w13_LESS Z)), .val (.ref b111), .val (.ref (w23_LESS Z))]) rfl k) ?_
    show own_Wp p e below _ T113 (mkF m 158 #[.val (.int p0), .val (.ref b1), .val (.ref (w13_LESS Z)), .val (.ref b111), .val (.ref (w23_LESS Z))] [])
    refine own_step (fun _ k => XS.aload X113.here hx rfl (hb hby at_158) rfl rfl k) ?_
    show own_Wp p e below _ T113 (mkF m 160 #[.val (.int p0), .val (.ref b1), .val (.ref (w13_LESS Z)), .val (.ref b111), .val (.ref (w23_LESS Z))] [(.ref (w23_LESS Z))])
    refine own_step (fun _ k => XS.aloadN X113.here hx rfl (hb hby at_160) rfl rfl k) ?_
    show own_Wp p e below _ T113 (mkF m 161 #[.val (.int p0), .val (.ref b1), .val (.ref (w13_LESS Z)), .val (.ref b111), .val (.ref (w23_LESS Z))] [(.ref (w13_LESS Z)), (.ref (w23_LESS Z))])
    obtain ⟨_, T114, L114, X114, hQ114, st114⟩ := own_callS X113 hx hZ hown (hw _ (List.mem_of_getElem? (i := 83) rfl)) (hw _ (List.mem_of_getElem? (i := 84) rfl)) (hw _ (List.mem_of_getElem? (i := 85) rfl)) (hw _ (List.mem_of_getElem? (i := 86) rfl)) (by decide) (rm5_22 l Z a0 hw hA hS hF [] T110.heap n0 O110) (W := 1) (by decide) (by decide) [(.ref (w13_LESS Z))] rfl (lenOf pd7 rfl) (Ls := #[.val (.int p0), .val (.ref b1), .val (.ref (w13_LESS Z)), .val (.ref b111), .val (.ref (w23_LESS Z))]) (by rw [hml]; rfl) (rest := [(.ref (w23_LESS Z))]) (Nat.le_of_eq rfl) (hb hby at_161) e113 (by decide) (by decide)
    refine st114 _ ?_
    obtain ⟨rfl, N114q, e114⟩ := hQ114
    have N114 := Fr.app N112 N114q
    show own_Wp p e below _ T114 (mkF m 164 #[.val (.int p0), .val (.ref b1), .val (.ref (w13_LESS Z)), .val (.ref b111), .val (.ref (w23_LESS Z))] [(.ref (w23_LESS Z)), (.ref (w23_LESS Z))])
    refine own_step (fun _ k => Jvm.RoadKit.acmp (g := (mkF m 164 #[.val (.int p0), .val (.ref b1), .val (.ref (w13_LESS Z)), .val (.ref b111), .val (.ref (w23_LESS Z))] [(.ref (w23_LESS Z)), (.ref (w23_LESS Z))])) X114 hx rfl rfl rfl (pc0 := 164) (pc' := 167) (same := true) rfl (hb hby at_164) rfl (decide_eq_true rfl) (by decide) (by decide) k) ?_
    show own_Wp p e below _ T114 (mkF m 167 #[.val (.int p0), .val (.ref b1), .val (.ref (w13_LESS Z)), .val (.ref b111), .val (.ref (w23_LESS Z))] [])
    refine own_step (fun _ k => XS.iconst X114.here hx rfl (hb hby at_167) k) ?_
    show own_Wp p e below _ T114 (mkF m 168 #[.val (.int p0), .val (.ref b1), .val (.ref (w13_LESS Z)), .val (.ref b111), .val (.ref (w23_LESS Z))] [(.int (1 : Int32))])
    refine own_step (fun _ k => XS.goto X114.here hx rfl (pc0 := 168) (pc' := 172) rfl (hb hby at_168) (by decide) (by decide) k) ?_
    show own_Wp p e below _ T114 (mkF m 172 #[.val (.int p0), .val (.ref b1), .val (.ref (w13_LESS Z)), .val (.ref b111), .val (.ref (w23_LESS Z))] [(.int (1 : Int32))])
    exact own_retN X114 hx (t := .boolean) hret (by simp) hlk (hb hby at_172) (by decide) (by decide) ⟨rfl, N114⟩
  · skip
    rw [hm]
    show own_Wp p e below _ T39 (mkF m 141 #[.val (.int p0), .val (.ref b1), .unset, .unset, .unset] [(.int (14 : Int32)), (.ref b1)])
    obtain ⟨c115, r115, q115, t115, u115, y115h, y115g⟩ := id V39
    have i115 : ¬ ((14 : Int32) < 0 ∨ c115.slots.size ≤ ((14 : Int32)).toNatClampNeg) := inb_of t115 ⟨by decide, by decide⟩
    refine own_step (fun _ k => X39.aaload hx (j := (14 : Int32)) (v := (.ref (w14_GREATER_EQUAL Z))) (by rw [e39]; exact r115.1) (State.isArrayOf_alike hZ.alike r115.2.1) rfl r115.2.2 i115 (own_get t115 y115h i115 14 rfl) (g := (mkF m 141 #[.val (.int p0), .val (.ref b1), .unset, .unset, .unset] [(.int (14 : Int32)), (.ref b1)])) rfl rfl (hb hby at_141) _ k) ?_
    show own_Wp p e below _ T39 (mkF m 142 #[.val (.int p0), .val (.ref b1), .unset, .unset, .unset] [(.ref (w14_GREATER_EQUAL Z))])
    refine own_step (fun _ k => XS.astoreN X39.here hx rfl (hb hby at_142) rfl rfl (l' := #[.val (.int p0), .val (.ref b1), .val (.ref (w14_GREATER_EQUAL Z)), .unset, .unset]) rfl k) ?_
    show own_Wp p e below _ T39 (mkF m 143 #[.val (.int p0), .val (.ref b1), .val (.ref (w14_GREATER_EQUAL Z)), .unset, .unset] [])
    refine own_step (fun _ k => XS.aloadN X39.here hx rfl (hb hby at_143) rfl rfl k) ?_
    show own_Wp p e below _ T39 (mkF m 144 #[.val (.int p0), .val (.ref b1), .val (.ref (w14_GREATER_EQUAL Z)), .unset, .unset] [(.ref (w14_GREATER_EQUAL Z))])
    obtain ⟨_, T116, L116, X116, hQ116, st116⟩ := own_callS X39 hx hZ hown (hw _ (List.mem_of_getElem? (i := 43) rfl)) (hw _ (List.mem_of_getElem? (i := 44) rfl)) (hw _ (List.mem_of_getElem? (i := 45) rfl)) (hw _ (List.mem_of_getElem? (i := 46) rfl)) (by decide) (rm1_23 l Z a0 hw hA hS hF [] h39 n0 O39) (W := 0) (by decide) (by decide) [(.ref (w14_GREATER_EQUAL Z))] rfl (lenOf pd4 rfl) (Ls := #[.val (.int p0), .val (.ref b1), .val (.ref (w14_GREATER_EQUAL Z)), .unset, .unset]) (by rw [hml]; rfl) (rest := []) (Nat.le_of_eq rfl) (hb hby at_144) e39 (by decide) (by decide)
    refine st116 _ ?_
    obtain ⟨b117, rfl, N116q, K116q, y116_0, F116_0, F116_1⟩ := hQ116
    have N116 := Fr.app N39 N116q
    have g116_0 : n0 ≤ b117 := Nat.le_trans (O39.1 ▸ O39.2.1) y116_0
    have ne116_0_0 : b1 ≠ b117 := Nat.ne_of_lt (Nat.lt_of_lt_of_le V39.lt y116_0)
    have u116_0 : h0.size ≤ b117 := Nat.le_trans (K39.1) y116_0
    have O116 := O39.keep K116q all0
    have K116 : Keep h0 T116.heap [] := Keep.trans K39 K116q all0
    show own_Wp p e below _ T116 (mkF m 147 #[.val (.int p0), .val (.ref b1), .val (.ref (w14_GREATER_EQUAL Z)), .unset, .unset] [(.ref b117)])
    refine own_step (fun _ k => XS.astoreN X116.here hx rfl (hb hby at_147) rfl rfl (l' := #[.val (.int p0), .val (.ref b1), .val (.ref (w14_GREATER_EQUAL Z)), .val (.ref b117), .unset]) rfl k) ?_
    show own_Wp p e below _ T116 (mkF m 148 #[.val (.int p0), .val (.ref b1), .val (.ref (w14_GREATER_EQUAL Z)), .val (.ref b117), .unset] [])
    refine own_step (fun _ k => XS.aloadN X116.here hx rfl (hb hby at_148) rfl rfl k) ?_
    show own_Wp p e below _ T116 (mkF m 149 #[.val (.int p0), .val (.ref b1), .val (.ref (w14_GREATER_EQUAL Z)), .val (.ref b117), .unset] [(.ref b117)])
    refine own_step (fun _ k => XS.aconstNull X116.here hx rfl (hb hby at_149) k) ?_
    show own_Wp p e below _ T116 (mkF m 150 #[.val (.int p0), .val (.ref b1), .val (.ref (w14_GREATER_EQUAL Z)), .val (.ref b117), .unset] [.null, (.ref b117)])
    obtain ⟨_, T118, L118, X118, hQ118, st118⟩ := own_callV X116 hx hZ hown (hw _ (List.mem_of_getElem? (i := 76) rfl)) (hw _ (List.mem_of_getElem? (i := 77) rfl)) (notFace_of_selects (args := #[]) (mvT hZ (hw _ (List.mem_of_getElem? (i := 79) rfl)))) (hw _ (List.mem_of_getElem? (i := 79) rfl)) (hw _ (List.mem_of_getElem? (i := 78) rfl)) (hw _ (List.mem_of_getElem? (i := 73) rfl)) (hw _ (List.mem_of_getElem? (i := 80) rfl)) (by decide) F116_0 (rm4_24 l Z a0 hw hA hS hF [] b117 T116.heap n0 O116 F116_1) (W := 0) (by decide) (by decide) [.null] rfl (lenOf pd5 rfl) (Ls := #[.val (.int p0), .val (.ref b1), .val (.ref (w14_GREATER_EQUAL Z)), .val (.ref b117), .unset]) (by rw [hml]; rfl) (rest := []) (Nat.le_of_eq rfl) (hb hby at_150) rfl (by decide) (by decide)
    refine st118 _ ?_
    obtain ⟨rfl, N118q, e118⟩ := hQ118
    have N118 := Fr.app N116 N118q
    show own_Wp p e below _ T118 (mkF m 153 #[.val (.int p0), .val (.ref b1), .val (.ref (w14_GREATER_EQUAL Z)), .val (.ref b117), .unset] [(.ref (w26_GREATER_EQUAL Z))])
    obtain ⟨T119, X119, e119, st119⟩ := castY X118 hx hZ hown (hw _ (List.mem_of_getElem? (i := 103) rfl)) e118 (Ins.self ((ex_w26_GREATER_EQUAL hw hA hS hF).ext O116.2)) (g := (mkF m 153 #[.val (.int p0), .val (.ref b1), .val (.ref (w14_GREATER_EQUAL Z)), .val (.ref b117), .unset] [(.ref (w26_GREATER_EQUAL Z))])) rfl rfl (hb hby at_153)
    refine own_step st119 ?_
    show own_Wp p e below _ T119 (mkF m 156 #[.val (.int p0), .val (.ref b1), .val (.ref (w14_GREATER_EQUAL Z)), .val (.ref b117), .unset] [(.ref (w26_GREATER_EQUAL Z))])
    refine own_step (fun _ k => XS.astore X119.here hx rfl (hb hby at_156) rfl rfl (l' := #[.val (.int p0), .val (.ref b1), .val (.ref (w14_GREATER_EQUAL Z)), .val (.ref b117), .val (.ref (w26_GREATER_EQUAL Z))]) rfl k) ?_
    show own_Wp p e below _ T119 (mkF m 158 #[.val (.int p0), .val (.ref b1), .val (.ref (w14_GREATER_EQUAL Z)), .val (.ref b117), .val (.ref (w26_GREATER_EQUAL Z))] [])
    refine own_step (fun _ k => XS.aload X119.here hx rfl (hb hby at_158) rfl rfl k) ?_
    show own_Wp p e below _ T119 (mkF m 160 #[.val (.int p0), .val (.ref b1), .val (.ref (w14_GREATER_EQUAL Z)), .val (.ref b117), .val (.ref (w26_GREATER_EQUAL Z))] [(.ref (w26_GREATER_EQUAL Z))])
    refine own_step (fun _ k => XS.aloadN X119.here hx rfl (hb hby at_160) rfl rfl k) ?_
    show own_Wp p e below _ T119 (mkF m 161 #[.val (.int p0), .val (.ref b1), .val (.ref (w14_GREATER_EQUAL Z)), .val (.ref b117), .val (.ref (w26_GREATER_EQUAL Z))] [(.ref (w14_GREATER_EQUAL Z)), (.ref (w26_GREATER_EQUAL Z))])
    obtain ⟨_, T120, L120, X120, hQ120, st120⟩ := own_callS X119 hx hZ hown (hw _ (List.mem_of_getElem? (i := 83) rfl)) (hw _ (List.mem_of_getElem? (i := 84) rfl)) (hw _ (List.mem_of_getElem? (i := 85) rfl)) (hw _ (List.mem_of_getElem? (i := 86) rfl)) (by decide) (rm5_25 l Z a0 hw hA hS hF [] T116.heap n0 O116) (W := 1) (by decide) (by decide) [(.ref (w14_GREATER_EQUAL Z))] rfl (lenOf pd7 rfl) (Ls := #[.val (.int p0), .val (.ref b1), .val (.ref (w14_GREATER_EQUAL Z)), .val (.ref b117), .val (.ref (w26_GREATER_EQUAL Z))]) (by rw [hml]; rfl) (rest := [(.ref (w26_GREATER_EQUAL Z))]) (Nat.le_of_eq rfl) (hb hby at_161) e119 (by decide) (by decide)
    refine st120 _ ?_
    obtain ⟨rfl, N120q, e120⟩ := hQ120
    have N120 := Fr.app N118 N120q
    show own_Wp p e below _ T120 (mkF m 164 #[.val (.int p0), .val (.ref b1), .val (.ref (w14_GREATER_EQUAL Z)), .val (.ref b117), .val (.ref (w26_GREATER_EQUAL Z))] [(.ref (w26_GREATER_EQUAL Z)), (.ref (w26_GREATER_EQUAL Z))])
    refine own_step (fun _ k => Jvm.RoadKit.acmp (g := (mkF m 164 #[.val (.int p0), .val (.ref b1), .val (.ref (w14_GREATER_EQUAL Z)), .val (.ref b117), .val (.ref (w26_GREATER_EQUAL Z))] [(.ref (w26_GREATER_EQUAL Z)), (.ref (w26_GREATER_EQUAL Z))])) X120 hx rfl rfl rfl (pc0 := 164) (pc' := 167) (same := true) rfl (hb hby at_164) rfl (decide_eq_true rfl) (by decide) (by decide) k) ?_
    show own_Wp p e below _ T120 (mkF m 167 #[.val (.int p0), .val (.ref b1), .val (.ref (w14_GREATER_EQUAL Z)), .val (.ref b117), .val (.ref (w26_GREATER_EQUAL Z))] [])
    refine own_step (fun _ k => XS.iconst X120.here hx rfl (hb hby at_167) k) ?_
    show own_Wp p e below _ T120 (mkF m 168 #[.val (.int p0), .val (.ref b1), .val (.ref (w14_GREATER_EQUAL Z)), .val (.ref b117), .val (.ref (w26_GREATER_EQUAL Z))] [(.int (1 : Int32))])
    refine own_step (fun _ k => XS.goto X120.here hx rfl (pc0 := 168) (pc' := 172) rfl (hb hby at_168) (by decide) (by decide) k) ?_
    show own_Wp p e below _ T120 (mkF m 172 #[.val (.int p0), .val (.ref b1), .val (.ref (w14_GREATER_EQUAL Z)), .val (.ref b117), .val (.ref (w26_GREATER_EQUAL Z))] [(.int (1 : Int32))])
    exact own_retN X120 hx (t := .boolean) hret (by simp) hlk (hb hby at_172) (by decide) (by decide) ⟨rfl, N120⟩
  · skip
    rw [hm]
    show own_Wp p e below _ T39 (mkF m 141 #[.val (.int p0), .val (.ref b1), .unset, .unset, .unset] [(.int (15 : Int32)), (.ref b1)])
    obtain ⟨c121, r121, q121, t121, u121, y121h, y121g⟩ := id V39
    have i121 : ¬ ((15 : Int32) < 0 ∨ c121.slots.size ≤ ((15 : Int32)).toNatClampNeg) := inb_of t121 ⟨by decide, by decide⟩
    refine own_step (fun _ k => X39.aaload hx (j := (15 : Int32)) (v := (.ref (w15_GREATER Z))) (by rw [e39]; exact r121.1) (State.isArrayOf_alike hZ.alike r121.2.1) rfl r121.2.2 i121 (own_get t121 y121h i121 15 rfl) (g := (mkF m 141 #[.val (.int p0), .val (.ref b1), .unset, .unset, .unset] [(.int (15 : Int32)), (.ref b1)])) rfl rfl (hb hby at_141) _ k) ?_
    show own_Wp p e below _ T39 (mkF m 142 #[.val (.int p0), .val (.ref b1), .unset, .unset, .unset] [(.ref (w15_GREATER Z))])
    refine own_step (fun _ k => XS.astoreN X39.here hx rfl (hb hby at_142) rfl rfl (l' := #[.val (.int p0), .val (.ref b1), .val (.ref (w15_GREATER Z)), .unset, .unset]) rfl k) ?_
    show own_Wp p e below _ T39 (mkF m 143 #[.val (.int p0), .val (.ref b1), .val (.ref (w15_GREATER Z)), .unset, .unset] [])
    refine own_step (fun _ k => XS.aloadN X39.here hx rfl (hb hby at_143) rfl rfl k) ?_
    show own_Wp p e below _ T39 (mkF m 144 #[.val (.int p0), .val (.ref b1), .val (.ref (w15_GREATER Z)), .unset, .unset] [(.ref (w15_GREATER Z))])
    obtain ⟨_, T122, L122, X122, hQ122, st122⟩ := own_callS X39 hx hZ hown (hw _ (List.mem_of_getElem? (i := 43) rfl)) (hw _ (List.mem_of_getElem? (i := 44) rfl)) (hw _ (List.mem_of_getElem? (i := 45) rfl)) (hw _ (List.mem_of_getElem? (i := 46) rfl)) (by decide) (rm1_26 l Z a0 hw hA hS hF [] h39 n0 O39) (W := 0) (by decide) (by decide) [(.ref (w15_GREATER Z))] rfl (lenOf pd4 rfl) (Ls := #[.val (.int p0), .val (.ref b1), .val (.ref (w15_GREATER Z)), .unset, .unset]) (by rw [hml]; rfl) (rest := []) (Nat.le_of_eq rfl) (hb hby at_144) e39 (by decide) (by decide)
    refine st122 _ ?_
    obtain ⟨b123, rfl, N122q, K122q, y122_0, F122_0, F122_1⟩ := hQ122
    have N122 := Fr.app N39 N122q
    have g122_0 : n0 ≤ b123 := Nat.le_trans (O39.1 ▸ O39.2.1) y122_0
    have ne122_0_0 : b1 ≠ b123 := Nat.ne_of_lt (Nat.lt_of_lt_of_le V39.lt y122_0)
    have u122_0 : h0.size ≤ b123 := Nat.le_trans (K39.1) y122_0
    have O122 := O39.keep K122q all0
    have K122 : Keep h0 T122.heap [] := Keep.trans K39 K122q all0
    show own_Wp p e below _ T122 (mkF m 147 #[.val (.int p0), .val (.ref b1), .val (.ref (w15_GREATER Z)), .unset, .unset] [(.ref b123)])
    refine own_step (fun _ k => XS.astoreN X122.here hx rfl (hb hby at_147) rfl rfl (l' := #[.val (.int p0), .val (.ref b1), .val (.ref (w15_GREATER Z)), .val (.ref b123), .unset]) rfl k) ?_
    show own_Wp p e below _ T122 (mkF m 148 #[.val (.int p0), .val (.ref b1), .val (.ref (w15_GREATER Z)), .val (.ref b123), .unset] [])
    refine own_step (fun _ k => XS.aloadN X122.here hx rfl (hb hby at_148) rfl rfl k) ?_
    show own_Wp p e below _ T122 (mkF m 149 #[.val (.int p0), .val (.ref b1), .val (.ref (w15_GREATER Z)), .val (.ref b123), .unset] [(.ref b123)])
    refine own_step (fun _ k => XS.aconstNull X122.here hx rfl (hb hby at_149) k) ?_
    show own_Wp p e below _ T122 (mkF m 150 #[.val (.int p0), .val (.ref b1), .val (.ref (w15_GREATER Z)), .val (.ref b123), .unset] [.null, (.ref b123)])
    obtain ⟨_, T124, L124, X124, hQ124, st124⟩ := own_callV X122 hx hZ hown (hw _ (List.mem_of_getElem? (i := 76) rfl)) (hw _ (List.mem_of_getElem? (i := 77) rfl)) (notFace_of_selects (args := #[]) (mvT hZ (hw _ (List.mem_of_getElem? (i := 79) rfl)))) (hw _ (List.mem_of_getElem? (i := 79) rfl)) (hw _ (List.mem_of_getElem? (i := 78) rfl)) (hw _ (List.mem_of_getElem? (i := 73) rfl)) (hw _ (List.mem_of_getElem? (i := 80) rfl)) (by decide) F122_0 (rm4_27 l Z a0 hw hA hS hF [] b123 T122.heap n0 O122 F122_1) (W := 0) (by decide) (by decide) [.null] rfl (lenOf pd5 rfl) (Ls := #[.val (.int p0), .val (.ref b1), .val (.ref (w15_GREATER Z)), .val (.ref b123), .unset]) (by rw [hml]; rfl) (rest := []) (Nat.le_of_eq rfl) (hb hby at_150) rfl (by decide) (by decide)
    refine st124 _ ?_
    obtain ⟨rfl, N124q, e124⟩ := hQ124
    have N124 := Fr.app N122 N124q
    show own_Wp p e below _ T124 (mkF m 153 #[.val (.int p0), .val (.ref b1), .val (.ref (w15_GREATER Z)), .val (.ref b123), .unset] [(.ref (w25_GREATER Z))])
    obtain ⟨T125, X125, e125, st125⟩ := castY X124 hx hZ hown (hw _ (List.mem_of_getElem? (i := 103) rfl)) e124 (Ins.self ((ex_w25_GREATER hw hA hS hF).ext O122.2)) (g := (mkF m 153 #[.val (.int p0), .val (.ref b1), .val (.ref (w15_GREATER Z)), .val (.ref b123), .unset] [(.ref (w25_GREATER Z))])) rfl rfl (hb hby at_153)
    refine own_step st125 ?_
    show own_Wp p e below _ T125 (mkF m 156 #[.val (.int p0), .val (.ref b1), .val (.ref (w15_GREATER Z)), .val (.ref b123), .unset] [(.ref (w25_GREATER Z))])
    refine own_step (fun _ k => XS.astore X125.here hx rfl (hb hby at_156) rfl rfl (l' := #[.val (.int p0), .val (.ref b1), .val (.ref (w15_GREATER Z)), .val (.ref b123), .val (.ref (w25_GREATER Z))]) rfl k) ?_
    show own_Wp p e below _ T125 (mkF m 158 #[.val (.int p0), .val (.ref b1), .val (.ref (w15_GREATER Z)), .val (.ref b123), .val (.ref (w25_GREATER Z))] [])
    refine own_step (fun _ k => XS.aload X125.here hx rfl (hb hby at_158) rfl rfl k) ?_
    show own_Wp p e below _ T125 (mkF m 160 #[.val (.int p0), .val (.ref b1), .val (.ref (w15_GREATER Z)), .val (.ref b123), .val (.ref (w25_GREATER Z))] [(.ref (w25_GREATER Z))])
    refine own_step (fun _ k => XS.aloadN X125.here hx rfl (hb hby at_160) rfl rfl k) ?_
    show own_Wp p e below _ T125 (mkF m 161 #[.val (.int p0), .val (.ref b1), .val (.ref (w15_GREATER Z)), .val (.ref b123), .val (.ref (w25_GREATER Z))] [(.ref (w15_GREATER Z)), (.ref (w25_GREATER Z))])
    obtain ⟨_, T126, L126, X126, hQ126, st126⟩ := own_callS X125 hx hZ hown (hw _ (List.mem_of_getElem? (i := 83) rfl)) (hw _ (List.mem_of_getElem? (i := 84) rfl)) (hw _ (List.mem_of_getElem? (i := 85) rfl)) (hw _ (List.mem_of_getElem? (i := 86) rfl)) (by decide) (rm5_28 l Z a0 hw hA hS hF [] T122.heap n0 O122) (W := 1) (by decide) (by decide) [(.ref (w15_GREATER Z))] rfl (lenOf pd7 rfl) (Ls := #[.val (.int p0), .val (.ref b1), .val (.ref (w15_GREATER Z)), .val (.ref b123), .val (.ref (w25_GREATER Z))]) (by rw [hml]; rfl) (rest := [(.ref (w25_GREATER Z))]) (Nat.le_of_eq rfl) (hb hby at_161) e125 (by decide) (by decide)
    refine st126 _ ?_
    obtain ⟨rfl, N126q, e126⟩ := hQ126
    have N126 := Fr.app N124 N126q
    show own_Wp p e below _ T126 (mkF m 164 #[.val (.int p0), .val (.ref b1), .val (.ref (w15_GREATER Z)), .val (.ref b123), .val (.ref (w25_GREATER Z))] [(.ref (w25_GREATER Z)), (.ref (w25_GREATER Z))])
    refine own_step (fun _ k => Jvm.RoadKit.acmp (g := (mkF m 164 #[.val (.int p0), .val (.ref b1), .val (.ref (w15_GREATER Z)), .val (.ref b123), .val (.ref (w25_GREATER Z))] [(.ref (w25_GREATER Z)), (.ref (w25_GREATER Z))])) X126 hx rfl rfl rfl (pc0 := 164) (pc' := 167) (same := true) rfl (hb hby at_164) rfl (decide_eq_true rfl) (by decide) (by decide) k) ?_
    show own_Wp p e below _ T126 (mkF m 167 #[.val (.int p0), .val (.ref b1), .val (.ref (w15_GREATER Z)), .val (.ref b123), .val (.ref (w25_GREATER Z))] [])
    refine own_step (fun _ k => XS.iconst X126.here hx rfl (hb hby at_167) k) ?_
    show own_Wp p e below _ T126 (mkF m 168 #[.val (.int p0), .val (.ref b1), .val (.ref (w15_GREATER Z)), .val (.ref b123), .val (.ref (w25_GREATER Z))] [(.int (1 : Int32))])
    refine own_step (fun _ k => XS.goto X126.here hx rfl (pc0 := 168) (pc' := 172) rfl (hb hby at_168) (by decide) (by decide) k) ?_
    show own_Wp p e below _ T126 (mkF m 172 #[.val (.int p0), .val (.ref b1), .val (.ref (w15_GREATER Z)), .val (.ref b123), .val (.ref (w25_GREATER Z))] [(.int (1 : Int32))])
    exact own_retN X126 hx (t := .boolean) hret (by simp) hlk (hb hby at_172) (by decide) (by decide) ⟨rfl, N126⟩
  · skip
    rw [hm]
    show own_Wp p e below _ T39 (mkF m 141 #[.val (.int p0), .val (.ref b1), .unset, .unset, .unset] [(.int (16 : Int32)), (.ref b1)])
    obtain ⟨c127, r127, q127, t127, u127, y127h, y127g⟩ := id V39
    have i127 : ¬ ((16 : Int32) < 0 ∨ c127.slots.size ≤ ((16 : Int32)).toNatClampNeg) := inb_of t127 ⟨by decide, by decide⟩
    refine own_step (fun _ k => X39.aaload hx (j := (16 : Int32)) (v := (.ref (w16_LEFT_PAREN Z))) (by rw [e39]; exact r127.1) (State.isArrayOf_alike hZ.alike r127.2.1) rfl r127.2.2 i127 (own_get t127 y127h i127 16 rfl) (g := (mkF m 141 #[.val (.int p0), .val (.ref b1), .unset, .unset, .unset] [(.int (16 : Int32)), (.ref b1)])) rfl rfl (hb hby at_141) _ k) ?_
    show own_Wp p e below _ T39 (mkF m 142 #[.val (.int p0), .val (.ref b1), .unset, .unset, .unset] [(.ref (w16_LEFT_PAREN Z))])
    refine own_step (fun _ k => XS.astoreN X39.here hx rfl (hb hby at_142) rfl rfl (l' := #[.val (.int p0), .val (.ref b1), .val (.ref (w16_LEFT_PAREN Z)), .unset, .unset]) rfl k) ?_
    show own_Wp p e below _ T39 (mkF m 143 #[.val (.int p0), .val (.ref b1), .val (.ref (w16_LEFT_PAREN Z)), .unset, .unset] [])
    refine own_step (fun _ k => XS.aloadN X39.here hx rfl (hb hby at_143) rfl rfl k) ?_
    show own_Wp p e below _ T39 (mkF m 144 #[.val (.int p0), .val (.ref b1), .val (.ref (w16_LEFT_PAREN Z)), .unset, .unset] [(.ref (w16_LEFT_PAREN Z))])
    obtain ⟨_, T128, L128, X128, hQ128, st128⟩ := own_callS X39 hx hZ hown (hw _ (List.mem_of_getElem? (i := 43) rfl)) (hw _ (List.mem_of_getElem? (i := 44) rfl)) (hw _ (List.mem_of_getElem? (i := 45) rfl)) (hw _ (List.mem_of_getElem? (i := 46) rfl)) (by decide) (rm1_2 l Z a0 hw hA hS hF [] (w16_LEFT_PAREN Z) h39 n0 O39 (Fld.ne (fl1 hw hA hS hF) (fl24 hw hA hS hF) (by decide)) (Fld.ne (fl4 hw hA hS hF) (fl24 hw hA hS hF) (by decide)) (Fld.ne (fl6 hw hA hS hF) (fl24 hw hA hS hF) (by decide)) (Fld.ne (fl8 hw hA hS hF) (fl24 hw hA hS hF) (by decide)) (Fld.ne (fl10 hw hA hS hF) (fl24 hw hA hS hF) (by decide)) (Fld.ne (fl12 hw hA hS hF) (fl24 hw hA hS hF) (by decide)) (Fld.ne (fl14 hw hA hS hF) (fl24 hw hA hS hF) (by decide))) (W := 0) (by decide) (by decide) [(.ref (w16_LEFT_PAREN Z))] rfl (lenOf pd4 rfl) (Ls := #[.val (.int p0), .val (.ref b1), .val (.ref (w16_LEFT_PAREN Z)), .unset, .unset]) (by rw [hml]; rfl) (rest := []) (Nat.le_of_eq rfl) (hb hby at_144) e39 (by decide) (by decide)
    refine st128 _ ?_
    obtain ⟨rfl, N128q, K128q⟩ := hQ128
    have N128 := Fr.app N39 N128q
    have O128 := O39.keep K128q all0
    have K128 : Keep h0 T128.heap [] := Keep.trans K39 K128q all0
    show own_Wp p e below _ T128 (mkF m 147 #[.val (.int p0), .val (.ref b1), .val (.ref (w16_LEFT_PAREN Z)), .unset, .unset] [(.ref (w27_EMPTY Z))])
    refine own_step (fun _ k => XS.astoreN X128.here hx rfl (hb hby at_147) rfl rfl (l' := #[.val (.int p0), .val (.ref b1), .val (.ref (w16_LEFT_PAREN Z)), .val (.ref (w27_EMPTY Z)), .unset]) rfl k) ?_
    show own_Wp p e below _ T128 (mkF m 148 #[.val (.int p0), .val (.ref b1), .val (.ref (w16_LEFT_PAREN Z)), .val (.ref (w27_EMPTY Z)), .unset] [])
    refine own_step (fun _ k => XS.aloadN X128.here hx rfl (hb hby at_148) rfl rfl k) ?_
    show own_Wp p e below _ T128 (mkF m 149 #[.val (.int p0), .val (.ref b1), .val (.ref (w16_LEFT_PAREN Z)), .val (.ref (w27_EMPTY Z)), .unset] [(.ref (w27_EMPTY Z))])
    refine own_step (fun _ k => XS.aconstNull X128.here hx rfl (hb hby at_149) k) ?_
    show own_Wp p e below _ T128 (mkF m 150 #[.val (.int p0), .val (.ref b1), .val (.ref (w16_LEFT_PAREN Z)), .val (.ref (w27_EMPTY Z)), .unset] [.null, (.ref (w27_EMPTY Z))])
    obtain ⟨_, T129, L129, X129, hQ129, st129⟩ := own_callV X128 hx hZ hown (hw _ (List.mem_of_getElem? (i := 76) rfl)) (hw _ (List.mem_of_getElem? (i := 77) rfl)) (notFace_of_selects (args := #[]) (mvT hZ (hw _ (List.mem_of_getElem? (i := 79) rfl)))) (hw _ (List.mem_of_getElem? (i := 79) rfl)) (hw _ (List.mem_of_getElem? (i := 78) rfl)) (hw _ (List.mem_of_getElem? (i := 73) rfl)) (hw _ (List.mem_of_getElem? (i := 80) rfl)) (by decide) ((ex_w27_EMPTY hw hA hS hF).ext O128.2) (rm4_3 l Z a0 hw hA hS hF [] (w27_EMPTY Z) T128.heap n0 O128 (fl26 hw hA hS hF)) (W := 0) (by decide) (by decide) [.null] rfl (lenOf pd5 rfl) (Ls := #[.val (.int p0), .val (.ref b1), .val (.ref (w16_LEFT_PAREN Z)), .val (.ref (w27_EMPTY Z)), .unset]) (by rw [hml]; rfl) (rest := []) (Nat.le_of_eq rfl) (hb hby at_150) rfl (by decide) (by decide)
    refine st129 _ ?_
    obtain ⟨rfl, N129q, e129⟩ := hQ129
    have N129 := Fr.app N128 N129q
    show own_Wp p e below _ T129 (mkF m 153 #[.val (.int p0), .val (.ref b1), .val (.ref (w16_LEFT_PAREN Z)), .val (.ref (w27_EMPTY Z)), .unset] [.null])
    refine own_step (fun _ k => X129.checkcastNull hx (g := (mkF m 153 #[.val (.int p0), .val (.ref b1), .val (.ref (w16_LEFT_PAREN Z)), .val (.ref (w27_EMPTY Z)), .unset] [.null])) rfl rfl (hb hby at_153) _ k) ?_
    show own_Wp p e below _ T129 (mkF m 156 #[.val (.int p0), .val (.ref b1), .val (.ref (w16_LEFT_PAREN Z)), .val (.ref (w27_EMPTY Z)), .unset] [.null])
    refine own_step (fun _ k => XS.astore X129.here hx rfl (hb hby at_156) rfl rfl (l' := #[.val (.int p0), .val (.ref b1), .val (.ref (w16_LEFT_PAREN Z)), .val (.ref (w27_EMPTY Z)), .val .null]) rfl k) ?_
    show own_Wp p e below _ T129 (mkF m 158 #[.val (.int p0), .val (.ref b1), .val (.ref (w16_LEFT_PAREN Z)), .val (.ref (w27_EMPTY Z)), .val .null] [])
    refine own_step (fun _ k => XS.aload X129.here hx rfl (hb hby at_158) rfl rfl k) ?_
    show own_Wp p e below _ T129 (mkF m 160 #[.val (.int p0), .val (.ref b1), .val (.ref (w16_LEFT_PAREN Z)), .val (.ref (w27_EMPTY Z)), .val .null] [.null])
    refine own_step (fun _ k => XS.aloadN X129.here hx rfl (hb hby at_160) rfl rfl k) ?_
    show own_Wp p e below _ T129 (mkF m 161 #[.val (.int p0), .val (.ref b1), .val (.ref (w16_LEFT_PAREN Z)), .val (.ref (w27_EMPTY Z)), .val .null] [(.ref (w16_LEFT_PAREN Z)), .null])
    obtain ⟨_, T131, L131, X131, hQ131, st131⟩ := own_callS X129 hx hZ hown (hw _ (List.mem_of_getElem? (i := 83) rfl)) (hw _ (List.mem_of_getElem? (i := 84) rfl)) (hw _ (List.mem_of_getElem? (i := 85) rfl)) (hw _ (List.mem_of_getElem? (i := 86) rfl)) (by decide) (rm5_4 l Z a0 hw hA hS hF [] (w16_LEFT_PAREN Z) T128.heap n0 O128 (Fld.ne (fl24 hw hA hS hF) (fl1 hw hA hS hF) (by decide)) (Fld.ne (fl24 hw hA hS hF) (fl4 hw hA hS hF) (by decide)) (Fld.ne (fl24 hw hA hS hF) (fl6 hw hA hS hF) (by decide)) (Fld.ne (fl24 hw hA hS hF) (fl8 hw hA hS hF) (by decide)) (Fld.ne (fl24 hw hA hS hF) (fl10 hw hA hS hF) (by decide)) (Fld.ne (fl24 hw hA hS hF) (fl12 hw hA hS hF) (by decide)) (Fld.ne (fl24 hw hA hS hF) (fl14 hw hA hS hF) (by decide))) (W := 1) (by decide) (by decide) [(.ref (w16_LEFT_PAREN Z))] rfl (lenOf pd7 rfl) (Ls := #[.val (.int p0), .val (.ref b1), .val (.ref (w16_LEFT_PAREN Z)), .val (.ref (w27_EMPTY Z)), .val .null]) (by rw [hml]; rfl) (rest := [.null]) (Nat.le_of_eq rfl) (hb hby at_161) e129 (by decide) (by decide)
    refine st131 _ ?_
    obtain ⟨rfl, N131q, e131⟩ := hQ131
    have N131 := Fr.app N129 N131q
    show own_Wp p e below _ T131 (mkF m 164 #[.val (.int p0), .val (.ref b1), .val (.ref (w16_LEFT_PAREN Z)), .val (.ref (w27_EMPTY Z)), .val .null] [.null, .null])
    refine own_step (fun _ k => Jvm.RoadKit.acmp (g := (mkF m 164 #[.val (.int p0), .val (.ref b1), .val (.ref (w16_LEFT_PAREN Z)), .val (.ref (w27_EMPTY Z)), .val .null] [.null, .null])) X131 hx rfl rfl rfl (pc0 := 164) (pc' := 167) (same := true) rfl (hb hby at_164) rfl (decide_eq_true rfl) (by decide) (by decide) k) ?_
    show own_Wp p e below _ T131 (mkF m 167 #[.val (.int p0), .val (.ref b1), .val (.ref (w16_LEFT_PAREN Z)), .val (.ref (w27_EMPTY Z)), .val .null] [])
    refine own_step (fun _ k => XS.iconst X131.here hx rfl (hb hby at_167) k) ?_
    show own_Wp p e below _ T131 (mkF m 168 #[.val (.int p0), .val (.ref b1), .val (.ref (w16_LEFT_PAREN Z)), .val (.ref (w27_EMPTY Z)), .val .null] [(.int (1 : Int32))])
    refine own_step (fun _ k => XS.goto X131.here hx rfl (pc0 := 168) (pc' := 172) rfl (hb hby at_168) (by decide) (by decide) k) ?_
    show own_Wp p e below _ T131 (mkF m 172 #[.val (.int p0), .val (.ref b1), .val (.ref (w16_LEFT_PAREN Z)), .val (.ref (w27_EMPTY Z)), .val .null] [(.int (1 : Int32))])
    exact own_retN X131 hx (t := .boolean) hret (by simp) hlk (hb hby at_172) (by decide) (by decide) ⟨rfl, N131⟩
  · skip
    rw [hm]
    show own_Wp p e below _ T39 (mkF m 141 #[.val (.int p0), .val (.ref b1), .unset, .unset, .unset] [(.int (17 : Int32)), (.ref b1)])
    obtain ⟨c132, r132, q132, t132, u132, y132h, y132g⟩ := id V39
    have i132 : ¬ ((17 : Int32) < 0 ∨ c132.slots.size ≤ ((17 : Int32)).toNatClampNeg) := inb_of t132 ⟨by decide, by decide⟩
    refine own_step (fun _ k => X39.aaload hx (j := (17 : Int32)) (v := (.ref (w17_RIGHT_PAREN Z))) (by rw [e39]; exact r132.1) (State.isArrayOf_alike hZ.alike r132.2.1) rfl r132.2.2 i132 (own_get t132 y132h i132 17 rfl) (g := (mkF m 141 #[.val (.int p0), .val (.ref b1), .unset, .unset, .unset] [(.int (17 : Int32)), (.ref b1)])) rfl rfl (hb hby at_141) _ k) ?_
    show own_Wp p e below _ T39 (mkF m 142 #[.val (.int p0), .val (.ref b1), .unset, .unset, .unset] [(.ref (w17_RIGHT_PAREN Z))])
    refine own_step (fun _ k => XS.astoreN X39.here hx rfl (hb hby at_142) rfl rfl (l' := #[.val (.int p0), .val (.ref b1), .val (.ref (w17_RIGHT_PAREN Z)), .unset, .unset]) rfl k) ?_
    show own_Wp p e below _ T39 (mkF m 143 #[.val (.int p0), .val (.ref b1), .val (.ref (w17_RIGHT_PAREN Z)), .unset, .unset] [])
    refine own_step (fun _ k => XS.aloadN X39.here hx rfl (hb hby at_143) rfl rfl k) ?_
    show own_Wp p e below _ T39 (mkF m 144 #[.val (.int p0), .val (.ref b1), .val (.ref (w17_RIGHT_PAREN Z)), .unset, .unset] [(.ref (w17_RIGHT_PAREN Z))])
    obtain ⟨_, T133, L133, X133, hQ133, st133⟩ := own_callS X39 hx hZ hown (hw _ (List.mem_of_getElem? (i := 43) rfl)) (hw _ (List.mem_of_getElem? (i := 44) rfl)) (hw _ (List.mem_of_getElem? (i := 45) rfl)) (hw _ (List.mem_of_getElem? (i := 46) rfl)) (by decide) (rm1_2 l Z a0 hw hA hS hF [] (w17_RIGHT_PAREN Z) h39 n0 O39 (Fld.ne (fl1 hw hA hS hF) (fl17 hw hA hS hF) (by decide)) (Fld.ne (fl4 hw hA hS hF) (fl17 hw hA hS hF) (by decide)) (Fld.ne (fl6 hw hA hS hF) (fl17 hw hA hS hF) (by decide)) (Fld.ne (fl8 hw hA hS hF) (fl17 hw hA hS hF) (by decide)) (Fld.ne (fl10 hw hA hS hF) (fl17 hw hA hS hF) (by decide)) (Fld.ne (fl12 hw hA hS hF) (fl17 hw hA hS hF) (by decide)) (Fld.ne (fl14 hw hA hS hF) (fl17 hw hA hS hF) (by decide))) (W := 0) (by decide) (by decide) [(.ref (w17_RIGHT_PAREN Z))] rfl (lenOf pd4 rfl) (Ls := #[.val (.int p0), .val (.ref b1), .val (.ref (w17_RIGHT_PAREN Z)), .unset, .unset]) (by rw [hml]; rfl) (rest := []) (Nat.le_of_eq rfl) (hb hby at_144) e39 (by decide) (by decide)
    refine st133 _ ?_
    obtain ⟨rfl, N133q, K133q⟩ := hQ133
    have N133 := Fr.app N39 N133q
    have O133 := O39.keep K133q all0
    have K133 : Keep h0 T133.heap [] := Keep.trans K39 K133q all0
    show own_Wp p e below _ T133 (mkF m 147 #[.val (.int p0), .val (.ref b1), .val (.ref (w17_RIGHT_PAREN Z)), .unset, .unset] [(.ref (w27_EMPTY Z))])
    refine own_step (fun _ k => XS.astoreN X133.here hx rfl (hb hby at_147) rfl rfl (l' := #[.val (.int p0), .val (.ref b1), .val (.ref (w17_RIGHT_PAREN Z)), .val (.ref (w27_EMPTY Z)), .unset]) rfl k) ?_
    show own_Wp p e below _ T133 (mkF m 148 #[.val (.int p0), .val (.ref b1), .val (.ref (w17_RIGHT_PAREN Z)), .val (.ref (w27_EMPTY Z)), .unset] [])
    refine own_step (fun _ k => XS.aloadN X133.here hx rfl (hb hby at_148) rfl rfl k) ?_
    show own_Wp p e below _ T133 (mkF m 149 #[.val (.int p0), .val (.ref b1), .val (.ref (w17_RIGHT_PAREN Z)), .val (.ref (w27_EMPTY Z)), .unset] [(.ref (w27_EMPTY Z))])
    refine own_step (fun _ k => XS.aconstNull X133.here hx rfl (hb hby at_149) k) ?_
    show own_Wp p e below _ T133 (mkF m 150 #[.val (.int p0), .val (.ref b1), .val (.ref (w17_RIGHT_PAREN Z)), .val (.ref (w27_EMPTY Z)), .unset] [.null, (.ref (w27_EMPTY Z))])
    obtain ⟨_, T134, L134, X134, hQ134, st134⟩ := own_callV X133 hx hZ hown (hw _ (List.mem_of_getElem? (i := 76) rfl)) (hw _ (List.mem_of_getElem? (i := 77) rfl)) (notFace_of_selects (args := #[]) (mvT hZ (hw _ (List.mem_of_getElem? (i := 79) rfl)))) (hw _ (List.mem_of_getElem? (i := 79) rfl)) (hw _ (List.mem_of_getElem? (i := 78) rfl)) (hw _ (List.mem_of_getElem? (i := 73) rfl)) (hw _ (List.mem_of_getElem? (i := 80) rfl)) (by decide) ((ex_w27_EMPTY hw hA hS hF).ext O133.2) (rm4_3 l Z a0 hw hA hS hF [] (w27_EMPTY Z) T133.heap n0 O133 (fl26 hw hA hS hF)) (W := 0) (by decide) (by decide) [.null] rfl (lenOf pd5 rfl) (Ls := #[.val (.int p0), .val (.ref b1), .val (.ref (w17_RIGHT_PAREN Z)), .val (.ref (w27_EMPTY Z)), .unset]) (by rw [hml]; rfl) (rest := []) (Nat.le_of_eq rfl) (hb hby at_150) rfl (by decide) (by decide)
    refine st134 _ ?_
    obtain ⟨rfl, N134q, e134⟩ := hQ134
    have N134 := Fr.app N133 N134q
    show own_Wp p e below _ T134 (mkF m 153 #[.val (.int p0), .val (.ref b1), .val (.ref (w17_RIGHT_PAREN Z)), .val (.ref (w27_EMPTY Z)), .unset] [.null])
    refine own_step (fun _ k => X134.checkcastNull hx (g := (mkF m 153 #[.val (.int p0), .val (.ref b1), .val (.ref (w17_RIGHT_PAREN Z)), .val (.ref (w27_EMPTY Z)), .unset] [.null])) rfl rfl (hb hby at_153) _ k) ?_
    show own_Wp p e below _ T134 (mkF m 156 #[.val (.int p0), .val (.ref b1), .val (.ref (w17_RIGHT_PAREN Z)), .val (.ref (w27_EMPTY Z)), .unset] [.null])
    refine own_step (fun _ k => XS.astore X134.here hx rfl (hb hby at_156) rfl rfl (l' := #[.val (.int p0), .val (.ref b1), .val (.ref (w17_RIGHT_PAREN Z)), .val (.ref (w27_EMPTY Z)), .val .null]) rfl k) ?_
    show own_Wp p e below _ T134 (mkF m 158 #[.val (.int p0), .val (.ref b1), .val (.ref (w17_RIGHT_PAREN Z)), .val (.ref (w27_EMPTY Z)), .val .null] [])
    refine own_step (fun _ k => XS.aload X134.here hx rfl (hb hby at_158) rfl rfl k) ?_
    show own_Wp p e below _ T134 (mkF m 160 #[.val (.int p0), .val (.ref b1), .val (.ref (w17_RIGHT_PAREN Z)), .val (.ref (w27_EMPTY Z)), .val .null] [.null])
    refine own_step (fun _ k => XS.aloadN X134.here hx rfl (hb hby at_160) rfl rfl k) ?_
    show own_Wp p e below _ T134 (mkF m 161 #[.val (.int p0), .val (.ref b1), .val (.ref (w17_RIGHT_PAREN Z)), .val (.ref (w27_EMPTY Z)), .val .null] [(.ref (w17_RIGHT_PAREN Z)), .null])
    obtain ⟨_, T136, L136, X136, hQ136, st136⟩ := own_callS X134 hx hZ hown (hw _ (List.mem_of_getElem? (i := 83) rfl)) (hw _ (List.mem_of_getElem? (i := 84) rfl)) (hw _ (List.mem_of_getElem? (i := 85) rfl)) (hw _ (List.mem_of_getElem? (i := 86) rfl)) (by decide) (rm5_4 l Z a0 hw hA hS hF [] (w17_RIGHT_PAREN Z) T133.heap n0 O133 (Fld.ne (fl17 hw hA hS hF) (fl1 hw hA hS hF) (by decide)) (Fld.ne (fl17 hw hA hS hF) (fl4 hw hA hS hF) (by decide)) (Fld.ne (fl17 hw hA hS hF) (fl6 hw hA hS hF) (by decide)) (Fld.ne (fl17 hw hA hS hF) (fl8 hw hA hS hF) (by decide)) (Fld.ne (fl17 hw hA hS hF) (fl10 hw hA hS hF) (by decide)) (Fld.ne (fl17 hw hA hS hF) (fl12 hw hA hS hF) (by decide)) (Fld.ne (fl17 hw hA hS hF) (fl14 hw hA hS hF) (by decide))) (W := 1) (by decide) (by decide) [(.ref (w17_RIGHT_PAREN Z))] rfl (lenOf pd7 rfl) (Ls := #[.val (.int p0), .val (.ref b1), .val (.ref (w17_RIGHT_PAREN Z)), .val (.ref (w27_EMPTY Z)), .val .null]) (by rw [hml]; rfl) (rest := [.null]) (Nat.le_of_eq rfl) (hb hby at_161) e134 (by decide) (by decide)
    refine st136 _ ?_
    obtain ⟨rfl, N136q, e136⟩ := hQ136
    have N136 := Fr.app N134 N136q
    show own_Wp p e below _ T136 (mkF m 164 #[.val (.int p0), .val (.ref b1), .val (.ref (w17_RIGHT_PAREN Z)), .val (.ref (w27_EMPTY Z)), .val .null] [.null, .null])
    refine own_step (fun _ k => Jvm.RoadKit.acmp (g := (mkF m 164 #[.val (.int p0), .val (.ref b1), .val (.ref (w17_RIGHT_PAREN Z)), .val (.ref (w27_EMPTY Z)), .val .null] [.null, .null])) X136 hx rfl rfl rfl (pc0 := 164) (pc' := 167) (same := true) rfl (hb hby at_164) rfl (decide_eq_true rfl) (by decide) (by decide) k) ?_
    show own_Wp p e below _ T136 (mkF m 167 #[.val (.int p0), .val (.ref b1), .val (.ref (w17_RIGHT_PAREN Z)), .val (.ref (w27_EMPTY Z)), .val .null] [])
    refine own_step (fun _ k => XS.iconst X136.here hx rfl (hb hby at_167) k) ?_
    show own_Wp p e below _ T136 (mkF m 168 #[.val (.int p0), .val (.ref b1), .val (.ref (w17_RIGHT_PAREN Z)), .val (.ref (w27_EMPTY Z)), .val .null] [(.int (1 : Int32))])
    refine own_step (fun _ k => XS.goto X136.here hx rfl (pc0 := 168) (pc' := 172) rfl (hb hby at_168) (by decide) (by decide) k) ?_
    show own_Wp p e below _ T136 (mkF m 172 #[.val (.int p0), .val (.ref b1), .val (.ref (w17_RIGHT_PAREN Z)), .val (.ref (w27_EMPTY Z)), .val .null] [(.int (1 : Int32))])
    exact own_retN X136 hx (t := .boolean) hret (by simp) hlk (hb hby at_172) (by decide) (by decide) ⟨rfl, N136⟩
  · skip
    rw [hm]
    show own_Wp p e below _ T39 (mkF m 141 #[.val (.int p0), .val (.ref b1), .unset, .unset, .unset] [(.int (18 : Int32)), (.ref b1)])
    obtain ⟨c137, r137, q137, t137, u137, y137h, y137g⟩ := id V39
    have i137 : ¬ ((18 : Int32) < 0 ∨ c137.slots.size ≤ ((18 : Int32)).toNatClampNeg) := inb_of t137 ⟨by decide, by decide⟩
    refine own_step (fun _ k => X39.aaload hx (j := (18 : Int32)) (v := (.ref (w18_COMMA Z))) (by rw [e39]; exact r137.1) (State.isArrayOf_alike hZ.alike r137.2.1) rfl r137.2.2 i137 (own_get t137 y137h i137 18 rfl) (g := (mkF m 141 #[.val (.int p0), .val (.ref b1), .unset, .unset, .unset] [(.int (18 : Int32)), (.ref b1)])) rfl rfl (hb hby at_141) _ k) ?_
    show own_Wp p e below _ T39 (mkF m 142 #[.val (.int p0), .val (.ref b1), .unset, .unset, .unset] [(.ref (w18_COMMA Z))])
    refine own_step (fun _ k => XS.astoreN X39.here hx rfl (hb hby at_142) rfl rfl (l' := #[.val (.int p0), .val (.ref b1), .val (.ref (w18_COMMA Z)), .unset, .unset]) rfl k) ?_
    show own_Wp p e below _ T39 (mkF m 143 #[.val (.int p0), .val (.ref b1), .val (.ref (w18_COMMA Z)), .unset, .unset] [])
    refine own_step (fun _ k => XS.aloadN X39.here hx rfl (hb hby at_143) rfl rfl k) ?_
    show own_Wp p e below _ T39 (mkF m 144 #[.val (.int p0), .val (.ref b1), .val (.ref (w18_COMMA Z)), .unset, .unset] [(.ref (w18_COMMA Z))])
    obtain ⟨_, T138, L138, X138, hQ138, st138⟩ := own_callS X39 hx hZ hown (hw _ (List.mem_of_getElem? (i := 43) rfl)) (hw _ (List.mem_of_getElem? (i := 44) rfl)) (hw _ (List.mem_of_getElem? (i := 45) rfl)) (hw _ (List.mem_of_getElem? (i := 46) rfl)) (by decide) (rm1_2 l Z a0 hw hA hS hF [] (w18_COMMA Z) h39 n0 O39 (Fld.ne (fl1 hw hA hS hF) (fl22 hw hA hS hF) (by decide)) (Fld.ne (fl4 hw hA hS hF) (fl22 hw hA hS hF) (by decide)) (Fld.ne (fl6 hw hA hS hF) (fl22 hw hA hS hF) (by decide)) (Fld.ne (fl8 hw hA hS hF) (fl22 hw hA hS hF) (by decide)) (Fld.ne (fl10 hw hA hS hF) (fl22 hw hA hS hF) (by decide)) (Fld.ne (fl12 hw hA hS hF) (fl22 hw hA hS hF) (by decide)) (Fld.ne (fl14 hw hA hS hF) (fl22 hw hA hS hF) (by decide))) (W := 0) (by decide) (by decide) [(.ref (w18_COMMA Z))] rfl (lenOf pd4 rfl) (Ls := #[.val (.int p0), .val (.ref b1), .val (.ref (w18_COMMA Z)), .unset, .unset]) (by rw [hml]; rfl) (rest := []) (Nat.le_of_eq rfl) (hb hby at_144) e39 (by decide) (by decide)
    refine st138 _ ?_
    obtain ⟨rfl, N138q, K138q⟩ := hQ138
    have N138 := Fr.app N39 N138q
    have O138 := O39.keep K138q all0
    have K138 : Keep h0 T138.heap [] := Keep.trans K39 K138q all0
    show own_Wp p e below _ T138 (mkF m 147 #[.val (.int p0), .val (.ref b1), .val (.ref (w18_COMMA Z)), .unset, .unset] [(.ref (w27_EMPTY Z))])
    refine own_step (fun _ k => XS.astoreN X138.here hx rfl (hb hby at_147) rfl rfl (l' := #[.val (.int p0), .val (.ref b1), .val (.ref (w18_COMMA Z)), .val (.ref (w27_EMPTY Z)), .unset]) rfl k) ?_
    show own_Wp p e below _ T138 (mkF m 148 #[.val (.int p0), .val (.ref b1), .val (.ref (w18_COMMA Z)), .val (.ref (w27_EMPTY Z)), .unset] [])
    refine own_step (fun _ k => XS.aloadN X138.here hx rfl (hb hby at_148) rfl rfl k) ?_
    show own_Wp p e below _ T138 (mkF m 149 #[.val (.int p0), .val (.ref b1), .val (.ref (w18_COMMA Z)), .val (.ref (w27_EMPTY Z)), .unset] [(.ref (w27_EMPTY Z))])
    refine own_step (fun _ k => XS.aconstNull X138.here hx rfl (hb hby at_149) k) ?_
    show own_Wp p e below _ T138 (mkF m 150 #[.val (.int p0), .val (.ref b1), .val (.ref (w18_COMMA Z)), .val (.ref (w27_EMPTY Z)), .unset] [.null, (.ref (w27_EMPTY Z))])
    obtain ⟨_, T139, L139, X139, hQ139, st139⟩ := own_callV X138 hx hZ hown (hw _ (List.mem_of_getElem? (i := 76) rfl)) (hw _ (List.mem_of_getElem? (i := 77) rfl)) (notFace_of_selects (args := #[]) (mvT hZ (hw _ (List.mem_of_getElem? (i := 79) rfl)))) (hw _ (List.mem_of_getElem? (i := 79) rfl)) (hw _ (List.mem_of_getElem? (i := 78) rfl)) (hw _ (List.mem_of_getElem? (i := 73) rfl)) (hw _ (List.mem_of_getElem? (i := 80) rfl)) (by decide) ((ex_w27_EMPTY hw hA hS hF).ext O138.2) (rm4_3 l Z a0 hw hA hS hF [] (w27_EMPTY Z) T138.heap n0 O138 (fl26 hw hA hS hF)) (W := 0) (by decide) (by decide) [.null] rfl (lenOf pd5 rfl) (Ls := #[.val (.int p0), .val (.ref b1), .val (.ref (w18_COMMA Z)), .val (.ref (w27_EMPTY Z)), .unset]) (by rw [hml]; rfl) (rest := []) (Nat.le_of_eq rfl) (hb hby at_150) rfl (by decide) (by decide)
    refine st139 _ ?_
    obtain ⟨rfl, N139q, e139⟩ := hQ139
    have N139 := Fr.app N138 N139q
    show own_Wp p e below _ T139 (mkF m 153 #[.val (.int p0), .val (.ref b1), .val (.ref (w18_COMMA Z)), .val (.ref (w27_EMPTY Z)), .unset] [.null])
    refine own_step (fun _ k => X139.checkcastNull hx (g := (mkF m 153 #[.val (.int p0), .val (.ref b1), .val (.ref (w18_COMMA Z)), .val (.ref (w27_EMPTY Z)), .unset] [.null])) rfl rfl (hb hby at_153) _ k) ?_
    show own_Wp p e below _ T139 (mkF m 156 #[.val (.int p0), .val (.ref b1), .val (.ref (w18_COMMA Z)), .val (.ref (w27_EMPTY Z)), .unset] [.null])
    refine own_step (fun _ k => XS.astore X139.here hx rfl (hb hby at_156) rfl rfl (l' := #[.val (.int p0), .val (.ref b1), .val (.ref (w18_COMMA Z)), .val (.ref (w27_EMPTY Z)), .val .null]) rfl k) ?_
    show own_Wp p e below _ T139 (mkF m 158 #[.val (.int p0), .val (.ref b1), .val (.ref (w18_COMMA Z)), .val (.ref (w27_EMPTY Z)), .val .null] [])
    refine own_step (fun _ k => XS.aload X139.here hx rfl (hb hby at_158) rfl rfl k) ?_
    show own_Wp p e below _ T139 (mkF m 160 #[.val (.int p0), .val (.ref b1), .val (.ref (w18_COMMA Z)), .val (.ref (w27_EMPTY Z)), .val .null] [.null])
    refine own_step (fun _ k => XS.aloadN X139.here hx rfl (hb hby at_160) rfl rfl k) ?_
    show own_Wp p e below _ T139 (mkF m 161 #[.val (.int p0), .val (.ref b1), .val (.ref (w18_COMMA Z)), .val (.ref (w27_EMPTY Z)), .val .null] [(.ref (w18_COMMA Z)), .null])
    obtain ⟨_, T141, L141, X141, hQ141, st141⟩ := own_callS X139 hx hZ hown (hw _ (List.mem_of_getElem? (i := 83) rfl)) (hw _ (List.mem_of_getElem? (i := 84) rfl)) (hw _ (List.mem_of_getElem? (i := 85) rfl)) (hw _ (List.mem_of_getElem? (i := 86) rfl)) (by decide) (rm5_4 l Z a0 hw hA hS hF [] (w18_COMMA Z) T138.heap n0 O138 (Fld.ne (fl22 hw hA hS hF) (fl1 hw hA hS hF) (by decide)) (Fld.ne (fl22 hw hA hS hF) (fl4 hw hA hS hF) (by decide)) (Fld.ne (fl22 hw hA hS hF) (fl6 hw hA hS hF) (by decide)) (Fld.ne (fl22 hw hA hS hF) (fl8 hw hA hS hF) (by decide)) (Fld.ne (fl22 hw hA hS hF) (fl10 hw hA hS hF) (by decide)) (Fld.ne (fl22 hw hA hS hF) (fl12 hw hA hS hF) (by decide)) (Fld.ne (fl22 hw hA hS hF) (fl14 hw hA hS hF) (by decide))) (W := 1) (by decide) (by decide) [(.ref (w18_COMMA Z))] rfl (lenOf pd7 rfl) (Ls := #[.val (.int p0), .val (.ref b1), .val (.ref (w18_COMMA Z)), .val (.ref (w27_EMPTY Z)), .val .null]) (by rw [hml]; rfl) (rest := [.null]) (Nat.le_of_eq rfl) (hb hby at_161) e139 (by decide) (by decide)
    refine st141 _ ?_
    obtain ⟨rfl, N141q, e141⟩ := hQ141
    have N141 := Fr.app N139 N141q
    show own_Wp p e below _ T141 (mkF m 164 #[.val (.int p0), .val (.ref b1), .val (.ref (w18_COMMA Z)), .val (.ref (w27_EMPTY Z)), .val .null] [.null, .null])
    refine own_step (fun _ k => Jvm.RoadKit.acmp (g := (mkF m 164 #[.val (.int p0), .val (.ref b1), .val (.ref (w18_COMMA Z)), .val (.ref (w27_EMPTY Z)), .val .null] [.null, .null])) X141 hx rfl rfl rfl (pc0 := 164) (pc' := 167) (same := true) rfl (hb hby at_164) rfl (decide_eq_true rfl) (by decide) (by decide) k) ?_
    show own_Wp p e below _ T141 (mkF m 167 #[.val (.int p0), .val (.ref b1), .val (.ref (w18_COMMA Z)), .val (.ref (w27_EMPTY Z)), .val .null] [])
    refine own_step (fun _ k => XS.iconst X141.here hx rfl (hb hby at_167) k) ?_
    show own_Wp p e below _ T141 (mkF m 168 #[.val (.int p0), .val (.ref b1), .val (.ref (w18_COMMA Z)), .val (.ref (w27_EMPTY Z)), .val .null] [(.int (1 : Int32))])
    refine own_step (fun _ k => XS.goto X141.here hx rfl (pc0 := 168) (pc' := 172) rfl (hb hby at_168) (by decide) (by decide) k) ?_
    show own_Wp p e below _ T141 (mkF m 172 #[.val (.int p0), .val (.ref b1), .val (.ref (w18_COMMA Z)), .val (.ref (w27_EMPTY Z)), .val .null] [(.int (1 : Int32))])
    exact own_retN X141 hx (t := .boolean) hret (by simp) hlk (hb hby at_172) (by decide) (by decide) ⟨rfl, N141⟩
set_option maxRecDepth 65536 in
set_option maxHeartbeats 40000000 in
theorem comes_1 {Post : Tables → Env → Array Value → State → Outcome → State → Prop} (hpost : ∀ tb e args s v u, (limb_1_1.after args s (.returned v) u = true ∧ limb_1_2.after args s (.returned v) u = true ∧ True) → FrameEnd s (.returned v) u (Jvm.fieldLocs frame_1_writes args s ++ Jvm.arrayLocs frame_1_arrays args s ++ Jvm.staticLocs frame_1_statics s) 16 128 → Post tb e args s (.returned v) u) :
    ArmFor flags0 classFile x code maxLocals ret World_1 tables_1 room_1 Calls_1 rest_1 Pre_1 Post := by
  intro l hfl _ _ p e ha hc hk s m args below hf hA hF happ hP
  obtain ⟨hcalls, hrest, hpre⟩ := hP
  obtain ⟨-, -, -, hnamed, -, -, -, hat⟩ := (Spec.applies_iff hf).mp happ
  obtain ⟨hg, hn⟩ := and_e (Cond.before_iff.mp (show (Jvm.Cond.and given_1 narrow_1).before args s = true from hpre))
  obtain ⟨gg1, gg2⟩ := and_e hg
  obtain ⟨w0, rfl⟩ : ∃ w0 : Value, args = #[w0] := by
    have hs : args.size = 1 := by simpa [Cond.value, given_1] using gg1
    obtain ⟨L⟩ := args
    match L, hs with
    | [w0], _ => exact ⟨w0, rfl⟩
  have hw := fun d (hd : d ∈ tables_1) => atoms_spec (ws := Jvm.Cond.code x code maxLocals ret :: tables_1) hat d (List.mem_cons_of_mem _ hd)
  have hfit : Fit s := fun {y c} hc i hi => by
    obtain ⟨ha, rfl⟩ := Array.getElem?_eq_some_iff.mp hc
    have q := List.all_eq_true.mp ((Array.all_eq_true_iff_forall_mem.mp hF) _ (Array.getElem_mem ha)) i (List.mem_range.mpr hi)
    simpa [Array.getElem?_eq_getElem hi] using q
  obtain ⟨hsets, hown0⟩ := atoms_of _ (rest_1_c_eq ▸ (show rest_1_c.before _ s = true from hrest))
  have hr0 := Cond.before_iff.mp hown0
  obtain ⟨i0, ei0⟩ := is_v gg2
  obtain rfl : w0 = (.int i0) := Option.some.inj ei0
  obtain ⟨n, o, h1, h2, h3, _, L, rfl, ⟨rfl, N⟩, hq⟩ := rm0 l s _ hw (own_mem narrow_1 hn) hsets hfit tables_1 i0 s.heap s.heap.size (Old.start s) p e ha hc hk s m _ below hf ((Spec.applies_iff_loose hf).mp happ).1 ⟨rfl, State.Warmed39.refl s, rfl⟩ trivial
  refine ⟨n, _, h1, h2, h3, hpost _ _ _ _ _ _ ⟨Cond.after_iff.mpr rfl, Cond.after_iff.mpr (eq_i res_at (Term.int_eval (1)) rfl), trivial⟩ ⟨hq.1, hq.2.1, (hq.2.2.sift fun y hy => Or.inr (N y hy)).mono (by decide) (by decide)⟩⟩
theorem main_1_1 : Claimed_1_1 := comes_1 fun _ _ _ _ _ _ h hF => ⟨h.1, hF⟩
theorem main_1_2 : Claimed_1_2 := comes_1 fun _ _ _ _ _ _ h hF => ⟨h.2.1, hF⟩

end Jvm.Pilot.@@N@@
namespace Jvm.Pilot.@@N@@
open Jvm Jvm.ClassFile Sem Op Lib Jvm.Free Jvm.Stand Jvm.Pilot.@@N@@.Jvm.D
/-! MADE BY PROGRAM (witnessworld.py) out of the Statement's table words and the real class files: 17 classes; the members and pool entries that the words name. The judged class is class 1, her method 1. -/
namespace start1
open Jvm.ClassFile
def u (s : String) : CpInfo := .utf8 (stringToUtf16 s)
/-- a pool by its gaps: so many unusable entries, then the entry; so many at the end -/
def gap : Nat → List CpInfo → List CpInfo
  | 0, r => r
  | n + 1, r => .unusable :: gap n r
def poolList (es : List (Nat × CpInfo)) (last : Nat) : List CpInfo := es.foldr (fun e r => gap e.1 (e.2 :: r)) (gap last [])
def pool (es : List (Nat × CpInfo)) (last : Nat) : Array CpInfo := ⟨poolList es last⟩
def fileOf (pool : Array CpInfo) (this : Nat) (attrs : Array Attribute := #[]) (ms : Array MethodInfo := #[]) (fl : Nat := 33) (sup : Nat := 0) (ifs : Array Nat := #[]) (fds : Array FieldInfo := #[]) : ClassFile where
  minorVersion := 0
  majorVersion := 65
  constantPool := pool
  accessFlags := fl
  thisClass := this
  superClass := sup
  interfaces := ifs
  fields := fds
  methods := ms
  attributes := attrs
def plain (name : String) (sup : Option ClassId) : Class where
  name := name
  kind := .ordinary
  loader := none
  accessFlags := 33
  super := sup
  interfaces := #[]
  cf := none
  fields := #[]
  methods := #[]
  instanceTypes := #[]
  staticTypes := #[]
  resolved := #[]
  callSites := []
  init := .initialized
  statics := none
  mirror := none

def pool0 : Array CpInfo := pool [(5, u "<init>"), (0, u "()V"), (1, .class_ 10), (1, u "java/lang/Object"), (85, u "clone"), (0, u "()Ljava/lang/Object;")] 26

def k0c0 : Code := { maxStack := 0, maxLocals := 1, code := object_method_1_code, exceptionTable := #[], attributes := #[] }
def k0m0 : Method := { name := "<init>", desc := "()V", sig := { parameters := [], returnType := none }, accessFlags := 1, code := some k0c0 }
def k0m1 : Method := { name := "clone", desc := "()Ljava/lang/Object;", sig := { parameters := [], returnType := some (.object "java/lang/Object") }, accessFlags := 260, code := none }
/-- java/lang/Object -/
def k0 : Class := { plain "java/lang/Object" none with
  accessFlags := 33
  interfaces := #[]
  cf := some (fileOf pool0 8 #[] #[{ accessFlags := 1, nameIndex := 5, descriptorIndex := 6, attributes := #[] }, { accessFlags := 260, nameIndex := 96, descriptorIndex := 97, attributes := #[] }] 33 0 #[] #[])
  fields := #[]
  methods := #[k0m0, k0m1]
  instanceTypes := #[]
  staticTypes := #[]
  resolved := Array.replicate 124 none
  statics := none }

def pool1 : Array CpInfo := pool [(2, .class_ 4), (1, u "java/lang/Object"), (0, u "<init>"), (0, u "()V"), (0, .class_ 8), (0, u "com/example/proviso/proviso/expression/Lexer$Kind"), (0, .fieldref 7 10), (0, .nameAndType 11 12), (0, u "NAME"), (0, u "Lcom/example/proviso/proviso/expression/Lexer$Kind;"), (0, .fieldref 7 14), (0, .nameAndType 15 12), (0, u "STRING"), (0, .fieldref 7 17), (0, .nameAndType 18 12), (0, u "INTEGER"), (0, .fieldref 7 20), (0, .nameAndType 21 12), (0, u "END"), (0, .fieldref 7 23), (0, .nameAndType 24 12), (0, u "NOT"), (0, .fieldref 7 26), (0, .nameAndType 27 12), (0, u "AND"), (0, .fieldref 7 29), (0, .nameAndType 30 12), (0, u "OR"), (0, .fieldref 7 32), (0, .nameAndType 33 12), (0, u "TRUE"), (0, .fieldref 7 35), (0, .nameAndType 36 12), (0, u "FALSE"), (0, .fieldref 7 38), (0, .nameAndType 39 12), (0, u "EQUAL"), (0, .fieldref 7 41), (0, .nameAndType 42 12), (0, u "NOT_EQUAL"), (0, .fieldref 7 44), (0, .nameAndType 45 12), (0, u "MATCH"), (0, .fieldref 7 47), (0, .nameAndType 48 12), (0, u "LESS_EQUAL"), (0, .fieldref 7 50), (0, .nameAndType 51 12), (0, u "LESS"), (0, .fieldref 7 53), (0, .nameAndType 54 12), (0, u "GREATER_EQUAL"), (0, .fieldref 7 56), (0, .nameAndType 57 12), (0, u "GREATER"), (0, .fieldref 7 59), (0, .nameAndType 60 12), (0, u "LEFT_PAREN"), (0, .fieldref 7 62), (0, .nameAndType 63 12), (0, u "RIGHT_PAREN"), (0, .fieldref 7 65), (0, .nameAndType 66 12), (0, u "COMMA"), (0, .integer 2147483647), (0, .methodref 69 70), (0, .class_ 71), (0, .nameAndType 72 73), (0, u "com/example/proviso/proviso/expression/ComparisonOperator"), (0, u "spelledBy"), (0, u "(Lcom/example/proviso/proviso/expression/Lexer$Kind;)Ljava/util/Optional;"), (0, .methodref 75 76), (0, .class_ 77), (0, .nameAndType 78 79), (0, u "java/util/Optional"), (0, u "orElse"), (0, u "(Ljava/lang/Object;)Ljava/lang/Object;"), (0, .methodref 81 82), (0, .class_ 83), (0, .nameAndType 84 85), (0, u "com/example/proviso/proviso/expression/ComparisonOperatorSpelledByPinLaw"), (0, u "expected"), (0, u "(Lcom/example/proviso/proviso/expression/Lexer$Kind;)Lcom/example/proviso/proviso/expression/ComparisonOperator;"), (0, .fieldref 69 87), (0, .nameAndType 39 88), (0, u "Lcom/example/proviso/proviso/expression/ComparisonOperator;"), (0, .fieldref 69 90), (0, .nameAndType 42 88), (0, .fieldref 69 92), (0, .nameAndType 45 88), (0, .fieldref 69 94), (0, .nameAndType 51 88), (0, .fieldref 69 96), (0, .nameAndType 48 88), (0, .fieldref 69 98), (0, .nameAndType 57 88), (0, .fieldref 69 100), (0, .nameAndType 54 88), (2, u "law"), (0, u "(I)Z")] 9

def k1m0 : Method := { name := "<init>", desc := "()V", sig := { parameters := [], returnType := none }, accessFlags := 1, code := none }
def k1c1 : Code := { maxStack := 4, maxLocals := 5, code := code, exceptionTable := #[], attributes := #[] }
def k1m1 : Method := { name := "law", desc := "(I)Z", sig := { parameters := [.int], returnType := some .boolean }, accessFlags := 9, code := some k1c1 }
def k1c2 : Code := { maxStack := 2, maxLocals := 1, code := method_3_code, exceptionTable := #[], attributes := #[] }
def k1m2 : Method := { name := "expected", desc := "(Lcom/example/proviso/proviso/expression/Lexer$Kind;)Lcom/example/proviso/proviso/expression/ComparisonOperator;", sig := { parameters := [(.object "com/example/proviso/proviso/expression/Lexer$Kind")], returnType := some (.object "com/example/proviso/proviso/expression/ComparisonOperator") }, accessFlags := 10, code := some k1c2 }
/-- com/example/proviso/proviso/expression/ComparisonOperatorSpelledByPinLaw -/
def k1 : Class := { plain "com/example/proviso/proviso/expression/ComparisonOperatorSpelledByPinLaw" (some 0) with
  accessFlags := 49
  interfaces := #[]
  cf := some (fileOf pool1 81 #[] #[{ accessFlags := 1, nameIndex := 5, descriptorIndex := 6, attributes := #[] }, { accessFlags := 9, nameIndex := 103, descriptorIndex := 104, attributes := #[] }, { accessFlags := 10, nameIndex := 84, descriptorIndex := 85, attributes := #[] }] 49 2 #[] #[])
  fields := #[]
  methods := #[k1m0, k1m1, k1m2]
  instanceTypes := #[]
  staticTypes := #[]
  resolved := Array.replicate 114 none
  statics := none }

def pool2 : Array CpInfo := pool [(1, .class_ 2), (0, u "java/lang/constant/Constable"), (0, .class_ 4), (0, u "java/lang/Object")] 6

/-- java/lang/constant/Constable -/
def k2 : Class := { plain "java/lang/constant/Constable" (some 0) with
  accessFlags := 1537
  interfaces := #[]
  cf := some (fileOf pool2 1 #[] #[] 1537 3 #[] #[])
  fields := #[]
  methods := #[]
  instanceTypes := #[]
  staticTypes := #[]
  resolved := Array.replicate 11 none
  statics := none }

def pool3 : Array CpInfo := pool [(1, .class_ 2), (0, u "java/lang/Comparable"), (0, .class_ 4), (0, u "java/lang/Object")] 7

/-- java/lang/Comparable -/
def k3 : Class := { plain "java/lang/Comparable" (some 0) with
  accessFlags := 1537
  interfaces := #[]
  cf := some (fileOf pool3 1 #[] #[] 1537 3 #[] #[])
  fields := #[]
  methods := #[]
  instanceTypes := #[]
  staticTypes := #[]
  resolved := Array.replicate 12 none
  statics := none }

def pool4 : Array CpInfo := pool [(1, .class_ 2), (0, u "java/io/Serializable"), (0, .class_ 4), (0, u "java/lang/Object")] 2

/-- java/io/Serializable -/
def k4 : Class := { plain "java/io/Serializable" (some 0) with
  accessFlags := 1537
  interfaces := #[]
  cf := some (fileOf pool4 1 #[] #[] 1537 3 #[] #[])
  fields := #[]
  methods := #[]
  instanceTypes := #[]
  staticTypes := #[]
  resolved := Array.replicate 7 none
  statics := none }

def pool5 : Array CpInfo := pool [(2, .class_ 4), (1, u "java/lang/Enum"), (0, u "name"), (0, u "Ljava/lang/String;"), (2, u "ordinal"), (0, u "I"), (1, .class_ 14), (1, u "java/lang/Object"), (4, u "hash"), (86, .class_ 108), (1, u "java/lang/Enum$EnumDesc"), (2, .class_ 112), (0, u "java/lang/constant/Constable"), (0, .class_ 114), (0, u "java/lang/Comparable"), (0, .class_ 116), (0, u "java/io/Serializable")] 87

/-- java/lang/Enum -/
def k5 : Class := { plain "java/lang/Enum" (some 0) with
  accessFlags := 1057
  interfaces := #[2, 3, 4]
  cf := some (fileOf pool5 2 #[.nestMembers #[106]] #[] 1057 12 #[111, 113, 115] #[{ accessFlags := 18, nameIndex := 5, descriptorIndex := 6, attributes := #[] }, { accessFlags := 18, nameIndex := 9, descriptorIndex := 10, attributes := #[] }, { accessFlags := 2, nameIndex := 19, descriptorIndex := 10, attributes := #[] }])
  fields := #[{ name := "name", type := (.object "java/lang/String"), accessFlags := 18, slot := 0, constantValue := 0 }, { name := "ordinal", type := .int, accessFlags := 18, slot := 1, constantValue := 0 }, { name := "hash", type := .int, accessFlags := 2, slot := 2, constantValue := 0 }]
  methods := #[]
  instanceTypes := #[(.object "java/lang/String"), .int, .int]
  staticTypes := #[]
  resolved := Array.replicate 204 none
  statics := none }

def pool6 : Array CpInfo := pool [(1, .class_ 2), (0, u "com/example/proviso/proviso/expression/Lexer$Kind"), (2, u "NAME"), (0, u "Lcom/example/proviso/proviso/expression/Lexer$Kind;"), (2, u "STRING"), (2, u "INTEGER"), (2, u "END"), (2, u "NOT"), (2, u "AND"), (2, u "OR"), (2, u "TRUE"), (2, u "FALSE"), (2, u "EQUAL"), (2, u "NOT_EQUAL"), (2, u "MATCH"), (2, u "LESS_EQUAL"), (2, u "LESS"), (2, u "GREATER_EQUAL"), (2, u "GREATER"), (2, u "LEFT_PAREN"), (2, u "RIGHT_PAREN"), (2, u "COMMA"), (2, u "$VALUES"), (0, u "[Lcom/example/proviso/proviso/expression/Lexer$Kind;"), (6, .class_ 73), (1, u "java/lang/Enum"), (8, u "symbol"), (0, u "Ljava/lang/String;"), (69, .class_ 154), (0, u "com/example/proviso/proviso/expression/Lexer")] 2

/-- com/example/proviso/proviso/expression/Lexer$Kind -/
def k6 : Class := { plain "com/example/proviso/proviso/expression/Lexer$Kind" (some 5) with
  accessFlags := 16432
  interfaces := #[]
  cf := some (fileOf pool6 1 #[.nestHost 153] #[] 16432 71 #[] #[{ accessFlags := 16409, nameIndex := 5, descriptorIndex := 6, attributes := #[] }, { accessFlags := 16409, nameIndex := 9, descriptorIndex := 6, attributes := #[] }, { accessFlags := 16409, nameIndex := 12, descriptorIndex := 6, attributes := #[] }, { accessFlags := 16409, nameIndex := 15, descriptorIndex := 6, attributes := #[] }, { accessFlags := 16409, nameIndex := 18, descriptorIndex := 6, attributes := #[] }, { accessFlags := 16409, nameIndex := 21, descriptorIndex := 6, attributes := #[] }, { accessFlags := 16409, nameIndex := 24, descriptorIndex := 6, attributes := #[] }, { accessFlags := 16409, nameIndex := 27, descriptorIndex := 6, attributes := #[] }, { accessFlags := 16409, nameIndex := 30, descriptorIndex := 6, attributes := #[] }, { accessFlags := 16409, nameIndex := 33, descriptorIndex := 6, attributes := #[] }, { accessFlags := 16409, nameIndex := 36, descriptorIndex := 6, attributes := #[] }, { accessFlags := 16409, nameIndex := 39, descriptorIndex := 6, attributes := #[] }, { accessFlags := 16409, nameIndex := 42, descriptorIndex := 6, attributes := #[] }, { accessFlags := 16409, nameIndex := 45, descriptorIndex := 6, attributes := #[] }, { accessFlags := 16409, nameIndex := 48, descriptorIndex := 6, attributes := #[] }, { accessFlags := 16409, nameIndex := 51, descriptorIndex := 6, attributes := #[] }, { accessFlags := 16409, nameIndex := 54, descriptorIndex := 6, attributes := #[] }, { accessFlags := 16409, nameIndex := 57, descriptorIndex := 6, attributes := #[] }, { accessFlags := 16409, nameIndex := 60, descriptorIndex := 6, attributes := #[] }, { accessFlags := 18, nameIndex := 82, descriptorIndex := 83, attributes := #[] }, { accessFlags := 4122, nameIndex := 63, descriptorIndex := 64, attributes := #[] }])
  fields := #[{ name := "NAME", type := (.object "com/example/proviso/proviso/expression/Lexer$Kind"), accessFlags := 16409, slot := 0, constantValue := 0 }, { name := "STRING", type := (.object "com/example/proviso/proviso/expression/Lexer$Kind"), accessFlags := 16409, slot := 1, constantValue := 0 }, { name := "INTEGER", type := (.object "com/example/proviso/proviso/expression/Lexer$Kind"), accessFlags := 16409, slot := 2, constantValue := 0 }, { name := "END", type := (.object "com/example/proviso/proviso/expression/Lexer$Kind"), accessFlags := 16409, slot := 3, constantValue := 0 }, { name := "NOT", type := (.object "com/example/proviso/proviso/expression/Lexer$Kind"), accessFlags := 16409, slot := 4, constantValue := 0 }, { name := "AND", type := (.object "com/example/proviso/proviso/expression/Lexer$Kind"), accessFlags := 16409, slot := 5, constantValue := 0 }, { name := "OR", type := (.object "com/example/proviso/proviso/expression/Lexer$Kind"), accessFlags := 16409, slot := 6, constantValue := 0 }, { name := "TRUE", type := (.object "com/example/proviso/proviso/expression/Lexer$Kind"), accessFlags := 16409, slot := 7, constantValue := 0 }, { name := "FALSE", type := (.object "com/example/proviso/proviso/expression/Lexer$Kind"), accessFlags := 16409, slot := 8, constantValue := 0 }, { name := "EQUAL", type := (.object "com/example/proviso/proviso/expression/Lexer$Kind"), accessFlags := 16409, slot := 9, constantValue := 0 }, { name := "NOT_EQUAL", type := (.object "com/example/proviso/proviso/expression/Lexer$Kind"), accessFlags := 16409, slot := 10, constantValue := 0 }, { name := "MATCH", type := (.object "com/example/proviso/proviso/expression/Lexer$Kind"), accessFlags := 16409, slot := 11, constantValue := 0 }, { name := "LESS_EQUAL", type := (.object "com/example/proviso/proviso/expression/Lexer$Kind"), accessFlags := 16409, slot := 12, constantValue := 0 }, { name := "LESS", type := (.object "com/example/proviso/proviso/expression/Lexer$Kind"), accessFlags := 16409, slot := 13, constantValue := 0 }, { name := "GREATER_EQUAL", type := (.object "com/example/proviso/proviso/expression/Lexer$Kind"), accessFlags := 16409, slot := 14, constantValue := 0 }, { name := "GREATER", type := (.object "com/example/proviso/proviso/expression/Lexer$Kind"), accessFlags := 16409, slot := 15, constantValue := 0 }, { name := "LEFT_PAREN", type := (.object "com/example/proviso/proviso/expression/Lexer$Kind"), accessFlags := 16409, slot := 16, constantValue := 0 }, { name := "RIGHT_PAREN", type := (.object "com/example/proviso/proviso/expression/Lexer$Kind"), accessFlags := 16409, slot := 17, constantValue := 0 }, { name := "COMMA", type := (.object "com/example/proviso/proviso/expression/Lexer$Kind"), accessFlags := 16409, slot := 18, constantValue := 0 }, { name := "symbol", type := (.object "java/lang/String"), accessFlags := 18, slot := 3, constantValue := 0 }, { name := "$VALUES", type := (.array (.object "com/example/proviso/proviso/expression/Lexer$Kind")), accessFlags := 4122, slot := 19, constantValue := 0 }]
  methods := #[]
  instanceTypes := #[(.object "java/lang/String"), .int, .int, (.object "java/lang/String")]
  staticTypes := #[(.object "com/example/proviso/proviso/expression/Lexer$Kind"), (.object "com/example/proviso/proviso/expression/Lexer$Kind"), (.object "com/example/proviso/proviso/expression/Lexer$Kind"), (.object "com/example/proviso/proviso/expression/Lexer$Kind"), (.object "com/example/proviso/proviso/expression/Lexer$Kind"), (.object "com/example/proviso/proviso/expression/Lexer$Kind"), (.object "com/example/proviso/proviso/expression/Lexer$Kind"), (.object "com/example/proviso/proviso/expression/Lexer$Kind"), (.object "com/example/proviso/proviso/expression/Lexer$Kind"), (.object "com/example/proviso/proviso/expression/Lexer$Kind"), (.object "com/example/proviso/proviso/expression/Lexer$Kind"), (.object "com/example/proviso/proviso/expression/Lexer$Kind"), (.object "com/example/proviso/proviso/expression/Lexer$Kind"), (.object "com/example/proviso/proviso/expression/Lexer$Kind"), (.object "com/example/proviso/proviso/expression/Lexer$Kind"), (.object "com/example/proviso/proviso/expression/Lexer$Kind"), (.object "com/example/proviso/proviso/expression/Lexer$Kind"), (.object "com/example/proviso/proviso/expression/Lexer$Kind"), (.object "com/example/proviso/proviso/expression/Lexer$Kind"), (.array (.object "com/example/proviso/proviso/expression/Lexer$Kind"))]
  resolved := Array.replicate 157 none
  statics := some 0 }

def pool7 : Array CpInfo := pool [(1, .class_ 2), (0, u "com/example/proviso/proviso/expression/ComparisonOperator"), (2, u "EQUAL"), (0, u "Lcom/example/proviso/proviso/expression/ComparisonOperator;"), (2, u "NOT_EQUAL"), (2, u "MATCH"), (2, u "LESS"), (2, u "LESS_EQUAL"), (2, u "GREATER"), (2, u "GREATER_EQUAL"), (0, .fieldref 1 26), (0, .nameAndType 27 28), (0, u "$VALUES"), (0, u "[Lcom/example/proviso/proviso/expression/ComparisonOperator;"), (0, .methodref 30 31), (0, .class_ 28), (0, .nameAndType 32 33), (0, u "clone"), (0, u "()Ljava/lang/Object;"), (1, .class_ 37), (1, u "java/lang/Enum"), (6, .fieldref 1 45), (0, .nameAndType 46 47), (0, u "token"), (0, u "Lcom/example/proviso/proviso/expression/Lexer$Kind;"), (0, .methodref 1 49), (0, .nameAndType 50 51), (0, u "values"), (0, u "()[Lcom/example/proviso/proviso/expression/ComparisonOperator;"), (0, .methodref 53 54), (0, .class_ 55), (0, .nameAndType 56 57), (0, u "java/util/Optional"), (0, u "of"), (0, u "(Ljava/lang/Object;)Ljava/util/Optional;"), (0, .methodref 53 59), (0, .nameAndType 60 61), (0, u "empty"), (0, u "()Ljava/util/Optional;"), (116, u "spelledBy"), (0, u "(Lcom/example/proviso/proviso/expression/Lexer$Kind;)Ljava/util/Optional;")] 17

def k7c0 : Code := { maxStack := 1, maxLocals := 0, code := prog_2_method_1_code, exceptionTable := #[], attributes := #[] }
def k7m0 : Method := { name := "values", desc := "()[Lcom/example/proviso/proviso/expression/ComparisonOperator;", sig := { parameters := [], returnType := some (.array (.object "com/example/proviso/proviso/expression/ComparisonOperator")) }, accessFlags := 9, code := some k7c0 }
def k7c1 : Code := { maxStack := 2, maxLocals := 5, code := prog_2_method_4_code, exceptionTable := #[], attributes := #[] }
def k7m1 : Method := { name := "spelledBy", desc := "(Lcom/example/proviso/proviso/expression/Lexer$Kind;)Ljava/util/Optional;", sig := { parameters := [(.object "com/example/proviso/proviso/expression/Lexer$Kind")], returnType := some (.object "java/util/Optional") }, accessFlags := 8, code := some k7c1 }
/-- com/example/proviso/proviso/expression/ComparisonOperator -/
def k7 : Class := { plain "com/example/proviso/proviso/expression/ComparisonOperator" (some 5) with
  accessFlags := 16432
  interfaces := #[]
  cf := some (fileOf pool7 1 #[] #[{ accessFlags := 9, nameIndex := 50, descriptorIndex := 51, attributes := #[] }, { accessFlags := 8, nameIndex := 178, descriptorIndex := 179, attributes := #[] }] 16432 35 #[] #[{ accessFlags := 16409, nameIndex := 5, descriptorIndex := 6, attributes := #[] }, { accessFlags := 16409, nameIndex := 9, descriptorIndex := 6, attributes := #[] }, { accessFlags := 16409, nameIndex := 12, descriptorIndex := 6, attributes := #[] }, { accessFlags := 16409, nameIndex := 15, descriptorIndex := 6, attributes := #[] }, { accessFlags := 16409, nameIndex := 18, descriptorIndex := 6, attributes := #[] }, { accessFlags := 16409, nameIndex := 21, descriptorIndex := 6, attributes := #[] }, { accessFlags := 16409, nameIndex := 24, descriptorIndex := 6, attributes := #[] }, { accessFlags := 18, nameIndex := 46, descriptorIndex := 47, attributes := #[] }, { accessFlags := 4122, nameIndex := 27, descriptorIndex := 28, attributes := #[] }])
  fields := #[{ name := "EQUAL", type := (.object "com/example/proviso/proviso/expression/ComparisonOperator"), accessFlags := 16409, slot := 0, constantValue := 0 }, { name := "NOT_EQUAL", type := (.object "com/example/proviso/proviso/expression/ComparisonOperator"), accessFlags := 16409, slot := 1, constantValue := 0 }, { name := "MATCH", type := (.object "com/example/proviso/proviso/expression/ComparisonOperator"), accessFlags := 16409, slot := 2, constantValue := 0 }, { name := "LESS", type := (.object "com/example/proviso/proviso/expression/ComparisonOperator"), accessFlags := 16409, slot := 3, constantValue := 0 }, { name := "LESS_EQUAL", type := (.object "com/example/proviso/proviso/expression/ComparisonOperator"), accessFlags := 16409, slot := 4, constantValue := 0 }, { name := "GREATER", type := (.object "com/example/proviso/proviso/expression/ComparisonOperator"), accessFlags := 16409, slot := 5, constantValue := 0 }, { name := "GREATER_EQUAL", type := (.object "com/example/proviso/proviso/expression/ComparisonOperator"), accessFlags := 16409, slot := 6, constantValue := 0 }, { name := "token", type := (.object "com/example/proviso/proviso/expression/Lexer$Kind"), accessFlags := 18, slot := 3, constantValue := 0 }, { name := "$VALUES", type := (.array (.object "com/example/proviso/proviso/expression/ComparisonOperator")), accessFlags := 4122, slot := 7, constantValue := 0 }]
  methods := #[k7m0, k7m1]
  instanceTypes := #[(.object "java/lang/String"), .int, .int, (.object "com/example/proviso/proviso/expression/Lexer$Kind")]
  staticTypes := #[(.object "com/example/proviso/proviso/expression/ComparisonOperator"), (.object "com/example/proviso/proviso/expression/ComparisonOperator"), (.object "com/example/proviso/proviso/expression/ComparisonOperator"), (.object "com/example/proviso/proviso/expression/ComparisonOperator"), (.object "com/example/proviso/proviso/expression/ComparisonOperator"), (.object "com/example/proviso/proviso/expression/ComparisonOperator"), (.object "com/example/proviso/proviso/expression/ComparisonOperator"), (.array (.object "com/example/proviso/proviso/expression/ComparisonOperator"))]
  resolved := Array.replicate 197 none
  statics := some 1 }

def pool8 : Array CpInfo := pool [(1, .class_ 2), (0, u "java/lang/Cloneable"), (0, .class_ 4), (0, u "java/lang/Object")] 2

/-- java/lang/Cloneable -/
def k8 : Class := { plain "java/lang/Cloneable" (some 0) with
  accessFlags := 1537
  interfaces := #[]
  cf := some (fileOf pool8 1 #[] #[] 1537 3 #[] #[])
  fields := #[]
  methods := #[]
  instanceTypes := #[]
  staticTypes := #[]
  resolved := Array.replicate 7 none
  statics := none }

def pool9 : Array CpInfo := pool [(1, .fieldref 2 3), (0, .class_ 4), (0, .nameAndType 5 6), (0, u "java/util/Optional"), (0, u "EMPTY"), (0, u "Ljava/util/Optional;"), (0, .methodref 8 9), (0, .class_ 10), (0, .nameAndType 11 12), (0, u "java/lang/Object"), (0, u "<init>"), (0, u "()V"), (0, .fieldref 2 14), (0, .nameAndType 15 16), (0, u "value"), (0, u "Ljava/lang/Object;"), (0, .methodref 18 19), (0, .class_ 20), (0, .nameAndType 21 22), (0, u "java/util/Objects"), (0, u "requireNonNull"), (0, u "(Ljava/lang/Object;)Ljava/lang/Object;"), (0, .methodref 2 24), (0, .nameAndType 11 25), (0, u "(Ljava/lang/Object;)V"), (29, u "empty"), (0, u "()Ljava/util/Optional;"), (8, u "(Ljava/lang/Object;)Ljava/util/Optional;"), (16, u "of"), (82, u "orElse")] 21

def k9c0 : Code := { maxStack := 1, maxLocals := 1, code := jdk_32_method_1_code, exceptionTable := #[], attributes := #[] }
def k9m0 : Method := { name := "empty", desc := "()Ljava/util/Optional;", sig := { parameters := [], returnType := some (.object "java/util/Optional") }, accessFlags := 9, code := some k9c0 }
def k9c1 : Code := { maxStack := 2, maxLocals := 2, code := jdk_32_method_2_code, exceptionTable := #[], attributes := #[] }
def k9m1 : Method := { name := "<init>", desc := "(Ljava/lang/Object;)V", sig := { parameters := [(.object "java/lang/Object")], returnType := none }, accessFlags := 2, code := some k9c1 }
def k9c2 : Code := { maxStack := 3, maxLocals := 1, code := jdk_32_method_3_code, exceptionTable := #[], attributes := #[] }
def k9m2 : Method := { name := "of", desc := "(Ljava/lang/Object;)Ljava/util/Optional;", sig := { parameters := [(.object "java/lang/Object")], returnType := some (.object "java/util/Optional") }, accessFlags := 9, code := some k9c2 }
def k9c3 : Code := { maxStack := 1, maxLocals := 2, code := jdk_32_method_15_code, exceptionTable := #[], attributes := #[] }
def k9m3 : Method := { name := "orElse", desc := "(Ljava/lang/Object;)Ljava/lang/Object;", sig := { parameters := [(.object "java/lang/Object")], returnType := some (.object "java/lang/Object") }, accessFlags := 1, code := some k9c3 }
/-- java/util/Optional -/
def k9 : Class := { plain "java/util/Optional" (some 0) with
  accessFlags := 49
  interfaces := #[]
  cf := some (fileOf pool9 2 #[] #[{ accessFlags := 9, nameIndex := 55, descriptorIndex := 56, attributes := #[] }, { accessFlags := 2, nameIndex := 11, descriptorIndex := 25, attributes := #[] }, { accessFlags := 9, nameIndex := 82, descriptorIndex := 65, attributes := #[] }, { accessFlags := 1, nameIndex := 165, descriptorIndex := 22, attributes := #[] }] 49 8 #[] #[{ accessFlags := 26, nameIndex := 5, descriptorIndex := 6, attributes := #[] }, { accessFlags := 18, nameIndex := 15, descriptorIndex := 16, attributes := #[] }])
  fields := #[{ name := "EMPTY", type := (.object "java/util/Optional"), accessFlags := 26, slot := 0, constantValue := 0 }, { name := "value", type := (.object "java/lang/Object"), accessFlags := 18, slot := 0, constantValue := 0 }]
  methods := #[k9m0, k9m1, k9m2, k9m3]
  instanceTypes := #[(.object "java/lang/Object")]
  staticTypes := #[(.object "java/util/Optional")]
  resolved := Array.replicate 187 none
  statics := some 2 }

def pool10 : Array CpInfo := pool [(2, .class_ 4), (1, u "java/lang/Object"), (0, u "<init>"), (0, u "()V"), (35, .class_ 44), (1, u "java/util/Objects"), (0, u "requireNonNull"), (0, u "(Ljava/lang/Object;)Ljava/lang/Object;")] 137

def k10m0 : Method := { name := "<init>", desc := "()V", sig := { parameters := [], returnType := none }, accessFlags := 2, code := none }
def k10c1 : Code := { maxStack := 2, maxLocals := 1, code := jdk_31_method_10_code, exceptionTable := #[], attributes := #[] }
def k10m1 : Method := { name := "requireNonNull", desc := "(Ljava/lang/Object;)Ljava/lang/Object;", sig := { parameters := [(.object "java/lang/Object")], returnType := some (.object "java/lang/Object") }, accessFlags := 9, code := some k10c1 }
/-- java/util/Objects -/
def k10 : Class := { plain "java/util/Objects" (some 0) with
  accessFlags := 49
  interfaces := #[]
  cf := some (fileOf pool10 42 #[] #[{ accessFlags := 2, nameIndex := 5, descriptorIndex := 6, attributes := #[] }, { accessFlags := 9, nameIndex := 45, descriptorIndex := 46, attributes := #[] }] 49 2 #[] #[])
  fields := #[]
  methods := #[k10m0, k10m1]
  instanceTypes := #[]
  staticTypes := #[]
  resolved := Array.replicate 184 none
  statics := none }

/-- the primitive byte -/
def k11 : Class := { plain "byte" none with kind := .primitive 'B', accessFlags := 0x411 }
/-- [B -/
def k12 : Class := { plain "[B" (some 0) with kind := .array 11 .byte, interfaces := #[8, 4], accessFlags := 1041 }

/-- the primitive int -/
def k13 : Class := { plain "int" none with kind := .primitive 'I', accessFlags := 0x411 }
/-- [I -/
def k14 : Class := { plain "[I" (some 0) with kind := .array 13 .int, interfaces := #[8, 4], accessFlags := 1041 }

/-- [Lcom/example/proviso/proviso/expression/ComparisonOperator; -/
def k15 : Class := { plain "[Lcom/example/proviso/proviso/expression/ComparisonOperator;" (some 0) with kind := .array 7 (.object "com/example/proviso/proviso/expression/ComparisonOperator"), interfaces := #[8, 4], accessFlags := 1041 }

/-- [Lcom/example/proviso/proviso/expression/Lexer$Kind; -/
def k16 : Class := { plain "[Lcom/example/proviso/proviso/expression/Lexer$Kind;" (some 0) with kind := .array 6 (.object "com/example/proviso/proviso/expression/Lexer$Kind"), interfaces := #[8, 4], accessFlags := 1041 }

def heap : Heap := #[{ cls := 6, slots := #[.ref 4, .ref 5, .ref 6, .ref 7, .ref 8, .ref 9, .ref 10, .ref 11, .ref 12, .ref 13, .ref 14, .ref 15, .ref 16, .ref 17, .ref 18, .ref 19, .ref 20, .ref 21, .ref 22, .null], vm := .statics 6 },
  { cls := 7, slots := #[.ref 23, .ref 24, .ref 25, .ref 26, .ref 27, .ref 28, .ref 29, .ref 3], vm := .statics 7 },
  { cls := 9, slots := #[.ref 30], vm := .statics 9 },
  { cls := 15, slots := #[.ref 23, .ref 24, .ref 25, .ref 26, .ref 27, .ref 28, .ref 29], vm := .none },
  { cls := 6, slots := #[.null, .int 0, .int 0, .null], vm := .none },
  { cls := 6, slots := #[.null, .int 1, .int 0, .null], vm := .none },
  { cls := 6, slots := #[.null, .int 2, .int 0, .null], vm := .none },
  { cls := 6, slots := #[.null, .int 3, .int 0, .null], vm := .none },
  { cls := 6, slots := #[.null, .int 4, .int 0, .null], vm := .none },
  { cls := 6, slots := #[.null, .int 5, .int 0, .null], vm := .none },
  { cls := 6, slots := #[.null, .int 6, .int 0, .null], vm := .none },
  { cls := 6, slots := #[.null, .int 7, .int 0, .null], vm := .none },
  { cls := 6, slots := #[.null, .int 8, .int 0, .null], vm := .none },
  { cls := 6, slots := #[.null, .int 9, .int 0, .null], vm := .none },
  { cls := 6, slots := #[.null, .int 10, .int 0, .null], vm := .none },
  { cls := 6, slots := #[.null, .int 11, .int 0, .null], vm := .none },
  { cls := 6, slots := #[.null, .int 12, .int 0, .null], vm := .none },
  { cls := 6, slots := #[.null, .int 13, .int 0, .null], vm := .none },
  { cls := 6, slots := #[.null, .int 14, .int 0, .null], vm := .none },
  { cls := 6, slots := #[.null, .int 15, .int 0, .null], vm := .none },
  { cls := 6, slots := #[.null, .int 16, .int 0, .null], vm := .none },
  { cls := 6, slots := #[.null, .int 17, .int 0, .null], vm := .none },
  { cls := 6, slots := #[.null, .int 18, .int 0, .null], vm := .none },
  { cls := 7, slots := #[.null, .int 0, .int 0, .ref 13], vm := .none },
  { cls := 7, slots := #[.null, .int 0, .int 0, .ref 14], vm := .none },
  { cls := 7, slots := #[.null, .int 0, .int 0, .ref 15], vm := .none },
  { cls := 7, slots := #[.null, .int 0, .int 0, .ref 17], vm := .none },
  { cls := 7, slots := #[.null, .int 0, .int 0, .ref 16], vm := .none },
  { cls := 7, slots := #[.null, .int 0, .int 0, .ref 19], vm := .none },
  { cls := 7, slots := #[.null, .int 0, .int 0, .ref 18], vm := .none },
  { cls := 9, slots := #[.null], vm := .none }]
def classes : Array Class := #[k0, k1, k2, k3, k4, k5, k6, k7, k8, k9, k10, k11, k12, k13, k14, k15, k16]
def interned : List (Array UInt16 × Addr) := []
def slotsUsed : Nat := 141
def theMethod : MethodId := ⟨1, 1⟩
def args0 : Array Value := #[.int 5]
def aboutOver (below : List Frame) : State where
  vm := { classes := classes, interned := interned.toArray }
  heap := heap
  slotsUsed := slotsUsed
  threads := #[{ frames := .invoking theMethod args0 :: below }]
def below0 : List Frame := [.native { method := ⟨0, 0⟩, args := #[] }]
def about1 : State := aboutOver below0
def p0 : Program := .bare "" "" ""
def e0 : Env := launch0.env 0 0 0
theorem w_frames : about1.frames = Frame.invoking theMethod args0 :: below0 := rfl
set_option maxRecDepth 65536 in
theorem w_args : argsFit about1.vm theMethod args0 = true := by decide +kernel
set_option maxRecDepth 65536 in
theorem w_heap : heapFits about1 = true := by decide +kernel
set_option maxRecDepth 65536 in
theorem w_runnable : about1.curStatus? = some .runnable := by decide +kernel
set_option maxRecDepth 65536 in
theorem w_alone : about1.alone = true := by decide +kernel
set_option maxRecDepth 65536 in
theorem w_named : about1.methodNamed? x = some theMethod := by decide +kernel
set_option maxRecDepth 65536 in
theorem w_hears : about1.hears theMethod below0 = true := by decide +kernel
set_option maxRecDepth 65536 in
theorem w_ripe : about1.ripe theMethod args0 below0 = true := by decide +kernel
theorem w_running : about1.status = .running := rfl
set_option maxRecDepth 65536 in
theorem w_room : about1.hasRoom e0.platform room_1 = true :=
  launch0.hasRoom_least _ room_1 (by decide +kernel) (by decide +kernel) (by decide +kernel) (by decide +kernel) (by decide +kernel) (by decide +kernel)
theorem allAtoms_all (ts : List Jvm.Cond) (a : Array Jvm.Value) (st : Jvm.State) : (allAtoms ts).before a st = ts.all (fun c => c.before a st) := by
  induction ts with
  | nil => rfl
  | cons c t ih =>
    show (Jvm.Cond.and c (allAtoms t)).before a st = _
    rw [Jvm.Cond.before_and, ih, List.all_cons]
def words1 : List Jvm.Cond := Jvm.Cond.code x code maxLocals ret :: tables_1
/-- a 'code' word, met by the world's own term for the bytes: nothing is compared byte by byte -/
theorem code_word {y : MethodName} {bytes : ByteArray} {mx : Nat} {rt : Option FieldType} {a : Array Value} {s : State} {m : MethodId} {meth : Method} {c : Code} (h1 : s.methodNamed? y = some m) (h2 : s.vm.method? m = some meth) (h3 : meth.code = some c) (h4 : c.code = bytes)
    (h5 : (c.maxLocals == mx && c.exceptionTable.isEmpty && decide (c.maxStack ≤ mostOperands) && decide (meth.sig.returnType = rt) && !meth.locks && decide (parseMethodDescriptor y.desc = some meth.sig)) = true) : (Jvm.Cond.code y bytes mx rt).before a s = true := by
  simp only [Bool.and_eq_true, beq_iff_eq, Bool.not_eq_true', decide_eq_true_eq] at h5
  obtain ⟨⟨⟨⟨⟨g1, g2⟩, g3⟩, g4⟩, g5⟩, g6⟩ := h5
  simp [Cond.before, Cond.holds, Cond.value, h1, h2, h3, h4, g1, g2, g3, g4, g5, g6]
def isCode : Jvm.Cond → Bool
  | .code _ _ _ _ => true
  | _ => false
theorem all_split {L : List Jvm.Cond} {P : Jvm.Cond → Bool} (h1 : L.all (fun c => isCode c || P c) = true) (h2 : ∀ c ∈ L.filter isCode, P c = true) : L.all P = true := by
  refine List.all_eq_true.mpr fun c hc => ?_
  have h := List.all_eq_true.mp h1 c hc
  rcases Bool.eq_false_or_eq_true (isCode c) with hi | hi
  · exact h2 c (List.mem_filter.mpr ⟨hc, hi⟩)
  · simpa [hi] using h
set_option maxRecDepth 65536 in
theorem w_c0 : (Jvm.Cond.code x code maxLocals ret).before args0 about1 = true := code_word (m := ⟨1, 1⟩) (meth := k1m1) (c := k1c1) (by decide +kernel) rfl rfl rfl (by decide +kernel)
set_option maxRecDepth 65536 in
theorem w_c1 : (Jvm.Cond.code ({ cls := "com/example/proviso/proviso/expression/ComparisonOperator", name := "spelledBy", desc := "(Lcom/example/proviso/proviso/expression/Lexer$Kind;)Ljava/util/Optional;" } : Jvm.MethodName) prog_2_method_4_code (5 : Nat) (Option.some (Jvm.ClassFile.FieldType.object "java/util/Optional"))).before args0 about1 = true := code_word (m := ⟨7, 1⟩) (meth := k7m1) (c := k7c1) (by decide +kernel) rfl rfl rfl (by decide +kernel)
set_option maxRecDepth 65536 in
theorem w_c2 : (Jvm.Cond.code ({ cls := "com/example/proviso/proviso/expression/ComparisonOperator", name := "values", desc := "()[Lcom/example/proviso/proviso/expression/ComparisonOperator;" } : Jvm.MethodName) prog_2_method_1_code (0 : Nat) (Option.some (Jvm.ClassFile.FieldType.array (Jvm.ClassFile.FieldType.object "com/example/proviso/proviso/expression/ComparisonOperator")))).before args0 about1 = true := code_word (m := ⟨7, 0⟩) (meth := k7m0) (c := k7c0) (by decide +kernel) rfl rfl rfl (by decide +kernel)
set_option maxRecDepth 65536 in
theorem w_c3 : (Jvm.Cond.code ({ cls := "java/util/Optional", name := "empty", desc := "()Ljava/util/Optional;" } : Jvm.MethodName) jdk_32_method_1_code (1 : Nat) (Option.some (Jvm.ClassFile.FieldType.object "java/util/Optional"))).before args0 about1 = true := code_word (m := ⟨9, 0⟩) (meth := k9m0) (c := k9c0) (by decide +kernel) rfl rfl rfl (by decide +kernel)
set_option maxRecDepth 65536 in
theorem w_c4 : (Jvm.Cond.code ({ cls := "java/util/Optional", name := "orElse", desc := "(Ljava/lang/Object;)Ljava/lang/Object;" } : Jvm.MethodName) jdk_32_method_15_code (2 : Nat) (Option.some (Jvm.ClassFile.FieldType.object "java/lang/Object"))).before args0 about1 = true := code_word (m := ⟨9, 3⟩) (meth := k9m3) (c := k9c3) (by decide +kernel) rfl rfl rfl (by decide +kernel)
set_option maxRecDepth 65536 in
theorem w_c5 : (Jvm.Cond.code ({ cls := "com/example/proviso/proviso/expression/ComparisonOperatorSpelledByPinLaw", name := "expected", desc := "(Lcom/example/proviso/proviso/expression/Lexer$Kind;)Lcom/example/proviso/proviso/expression/ComparisonOperator;" } : Jvm.MethodName) method_3_code (1 : Nat) (Option.some (Jvm.ClassFile.FieldType.object "com/example/proviso/proviso/expression/ComparisonOperator"))).before args0 about1 = true := code_word (m := ⟨1, 2⟩) (meth := k1m2) (c := k1c2) (by decide +kernel) rfl rfl rfl (by decide +kernel)
set_option maxRecDepth 65536 in
theorem w_c6 : (Jvm.Cond.code ({ cls := "java/util/Optional", name := "of", desc := "(Ljava/lang/Object;)Ljava/util/Optional;" } : Jvm.MethodName) jdk_32_method_3_code (1 : Nat) (Option.some (Jvm.ClassFile.FieldType.object "java/util/Optional"))).before args0 about1 = true := code_word (m := ⟨9, 2⟩) (meth := k9m2) (c := k9c2) (by decide +kernel) rfl rfl rfl (by decide +kernel)
set_option maxRecDepth 65536 in
theorem w_c7 : (Jvm.Cond.code ({ cls := "java/util/Objects", name := "requireNonNull", desc := "(Ljava/lang/Object;)Ljava/lang/Object;" } : Jvm.MethodName) jdk_31_method_10_code (1 : Nat) (Option.some (Jvm.ClassFile.FieldType.object "java/lang/Object"))).before args0 about1 = true := code_word (m := ⟨10, 1⟩) (meth := k10m1) (c := k10c1) (by decide +kernel) rfl rfl rfl (by decide +kernel)
set_option maxRecDepth 65536 in
theorem w_c8 : (Jvm.Cond.code ({ cls := "java/util/Optional", name := "<init>", desc := "(Ljava/lang/Object;)V" } : Jvm.MethodName) jdk_32_method_2_code (2 : Nat) (Option.none : Option Jvm.ClassFile.FieldType)).before args0 about1 = true := code_word (m := ⟨9, 1⟩) (meth := k9m1) (c := k9c1) (by decide +kernel) rfl rfl rfl (by decide +kernel)
set_option maxRecDepth 65536 in
theorem w_c9 : (Jvm.Cond.code ({ cls := "java/lang/Object", name := "<init>", desc := "()V" } : Jvm.MethodName) object_method_1_code (1 : Nat) (Option.none : Option Jvm.ClassFile.FieldType)).before args0 about1 = true := code_word (m := ⟨0, 0⟩) (meth := k0m0) (c := k0c0) (by decide +kernel) rfl rfl rfl (by decide +kernel)
def codes1 : List Jvm.Cond := [Jvm.Cond.code x code maxLocals ret, Jvm.Cond.code ({ cls := "com/example/proviso/proviso/expression/ComparisonOperator", name := "spelledBy", desc := "(Lcom/example/proviso/proviso/expression/Lexer$Kind;)Ljava/util/Optional;" } : Jvm.MethodName) prog_2_method_4_code (5 : Nat) (Option.some (Jvm.ClassFile.FieldType.object "java/util/Optional")), Jvm.Cond.code ({ cls := "com/example/proviso/proviso/expression/ComparisonOperator", name := "values", desc := "()[Lcom/example/proviso/proviso/expression/ComparisonOperator;" } : Jvm.MethodName) prog_2_method_1_code (0 : Nat) (Option.some (Jvm.ClassFile.FieldType.array (Jvm.ClassFile.FieldType.object "com/example/proviso/proviso/expression/ComparisonOperator"))), Jvm.Cond.code ({ cls := "java/util/Optional", name := "empty", desc := "()Ljava/util/Optional;" } : Jvm.MethodName) jdk_32_method_1_code (1 : Nat) (Option.some (Jvm.ClassFile.FieldType.object "java/util/Optional")), Jvm.Cond.code ({ cls := "java/util/Optional", name := "orElse", desc := "(Ljava/lang/Object;)Ljava/lang/Object;" } : Jvm.MethodName) jdk_32_method_15_code (2 : Nat) (Option.some (Jvm.ClassFile.FieldType.object "java/lang/Object")), Jvm.Cond.code ({ cls := "com/example/proviso/proviso/expression/ComparisonOperatorSpelledByPinLaw", name := "expected", desc := "(Lcom/example/proviso/proviso/expression/Lexer$Kind;)Lcom/example/proviso/proviso/expression/ComparisonOperator;" } : Jvm.MethodName) method_3_code (1 : Nat) (Option.some (Jvm.ClassFile.FieldType.object "com/example/proviso/proviso/expression/ComparisonOperator")), Jvm.Cond.code ({ cls := "java/util/Optional", name := "of", desc := "(Ljava/lang/Object;)Ljava/util/Optional;" } : Jvm.MethodName) jdk_32_method_3_code (1 : Nat) (Option.some (Jvm.ClassFile.FieldType.object "java/util/Optional")), Jvm.Cond.code ({ cls := "java/util/Objects", name := "requireNonNull", desc := "(Ljava/lang/Object;)Ljava/lang/Object;" } : Jvm.MethodName) jdk_31_method_10_code (1 : Nat) (Option.some (Jvm.ClassFile.FieldType.object "java/lang/Object")), Jvm.Cond.code ({ cls := "java/util/Optional", name := "<init>", desc := "(Ljava/lang/Object;)V" } : Jvm.MethodName) jdk_32_method_2_code (2 : Nat) (Option.none : Option Jvm.ClassFile.FieldType), Jvm.Cond.code ({ cls := "java/lang/Object", name := "<init>", desc := "()V" } : Jvm.MethodName) object_method_1_code (1 : Nat) (Option.none : Option Jvm.ClassFile.FieldType)]
set_option maxRecDepth 65536 in
theorem codes_eq : words1.filter isCode = codes1 := rfl
theorem w_codes : ∀ c ∈ words1.filter isCode, c.before args0 about1 = true := by
  rw [codes_eq]
  intro c hc
  simp only [codes1, List.mem_cons, List.not_mem_nil, or_false] at hc
  rcases hc with rfl | rfl | rfl | rfl | rfl | rfl | rfl | rfl | rfl | rfl
  · exact w_c0
  · exact w_c1
  · exact w_c2
  · exact w_c3
  · exact w_c4
  · exact w_c5
  · exact w_c6
  · exact w_c7
  · exact w_c8
  · exact w_c9
set_option maxRecDepth 65536 in
theorem w_t1 : (words1.take 24).all (fun c => isCode c || c.before args0 about1) = true := by decide +kernel
set_option maxRecDepth 65536 in
theorem w_t2 : ((words1.drop 24).take 24).all (fun c => isCode c || c.before args0 about1) = true := by decide +kernel
set_option maxRecDepth 65536 in
theorem w_t3 : (((words1.drop 24).drop 24).take 24).all (fun c => isCode c || c.before args0 about1) = true := by decide +kernel
set_option maxRecDepth 65536 in
theorem w_t4 : ((((words1.drop 24).drop 24).drop 24).take 24).all (fun c => isCode c || c.before args0 about1) = true := by decide +kernel
set_option maxRecDepth 65536 in
theorem w_t5 : ((((words1.drop 24).drop 24).drop 24).drop 24).all (fun c => isCode c || c.before args0 about1) = true := by decide +kernel
theorem w_tables : (allAtoms (Jvm.Cond.code x code maxLocals ret :: tables_1)).before args0 about1 = true := by
  rw [allAtoms_all]
  show words1.all (fun c => c.before args0 about1) = true
  refine all_split ?_ w_codes
  rw [← List.take_append_drop 24 words1, List.all_append, w_t1, ← List.take_append_drop 24 (words1.drop 24), List.all_append, w_t2, ← List.take_append_drop 24 ((words1.drop 24).drop 24), List.all_append, w_t3, ← List.take_append_drop 24 (((words1.drop 24).drop 24).drop 24), List.all_append, w_t4, w_t5]
  rfl
set_option maxRecDepth 65536 in
theorem w_rest : rest_1_c.before args0 about1 = true := by decide +kernel
set_option maxRecDepth 65536 in
theorem w_case : (Jvm.Cond.and given_1 narrow_1).before args0 about1 = true := by decide +kernel
theorem w_applies : (headSpec (Jvm.Cond.code x code maxLocals ret :: tables_1) room_1).applies x e0.platform about1 = true :=
  (Spec.applies_iff w_frames).mpr ⟨w_running, w_runnable, w_alone, w_named, w_hears, w_ripe, w_room, w_tables⟩
theorem atStart : AtStart classFile x code maxLocals ret World_1 tables_1 room_1 Calls_1 rest_1 Pre_1 launch0 p0 e0 about1 theMethod args0 below0 :=
  ⟨lists_1, trivial, launch0.admits_env _ _ _, launch0.least_env, fairChoices_fair.cas, fairChoices_fair.clock, w_frames, w_args, w_heap, w_applies, trivial, w_rest, w_case⟩
end start1
theorem witness_1 : WitnessClaimed_1 := ⟨start1.p0, start1.e0, start1.about1, start1.theMethod, start1.args0, start1.below0, start1.atStart⟩
end Jvm.Pilot.@@N@@
