import JvmDerived
import JvmDerived.Pilot.@@N@@Statement
import JvmDerived.Pilot.@@N@@Code
set_option linter.unusedVariables false
set_option linter.unusedSimpArgs false
@@BLOCK:Masks.lean.txt@@
@@BLOCK:NumsL.lean.txt@@
namespace Jvm.Pilot.@@N@@
open Jvm Jvm.ClassFile Sem Op Lib Jvm.Free Jvm.Stand Jvm.LawKit Jvm.RoadKit Bundle Jvm.Pilot.@@N@@.Jvm.D
/-! own layer: a walk as "from here the body comes to a good end" (own_Wp), so that a walk may fork in its middle -/
section OwnLayer
variable {p : Program} {l : Launch} {e : Env} {R : Room} {s : State} {m : MethodId} {args : Array Value} {below : List Frame} {meth : Method} {c : Code} {T T' : State} {locs : List Loc} {cells slots cs sl pc : Nat} {g g' : JFrame} {F : State → Outcome → Prop} {Q : Option Value → Heap → List Loc → Prop} {Ls : Array Slot} {rest : List Value} {Z : State} {a0 : Array Value} {h : Heap}
def own_Wp (p : Program) (e : Env) (below : List Frame) (F : State → Outcome → Prop) (T : State) (g : JFrame) : Prop := ∃ s₂ o, Steps p.tables e below (T.setTop g) s₂ ∧ F s₂ o
def own_Fin (below : List Frame) (s : State) (Q : Option Value → Heap → List Loc → Prop) (cs sl : Nat) (s₂ : State) (o : Outcome) : Prop := s₂.status = .running ∧ Ended s₂ below o ∧ ∃ v L, o = .returned v ∧ Q v s₂.heap L ∧ FrameEnd s o s₂ L cs sl
theorem own_step (st : ∀ target, Steps p.tables e below (T'.setTop g') target → Steps p.tables e below (T.setTop g) target) (k : own_Wp p e below F T' g') : own_Wp p e below F T g := by
  obtain ⟨a, b, h1, h2⟩ := k
  exact ⟨a, b, st _ h1, h2⟩
theorem own_cast (q : g = g') (k : own_Wp p e below F T g') : own_Wp p e below F T g := q ▸ k
theorem own_leave {v : Option Value} {fs : List Frame} (st : Steps p.tables e below (T.setTop g) (T.setFrames fs)) (hrun : (T.setFrames fs).status = .running) (hended : Ended (T.setFrames fs) below (.returned v)) (hW : s.WarmedH (T.setFrames fs).vm) (hsame : s.sameButNew ({ T.setFrames fs with vm := s.vm } : State) locs cells slots) (hc : cells ≤ cs) (hs : slots ≤ sl) (hQ : Q v T.heap locs) : own_Wp p e below (own_Fin below s Q cs sl) T g :=
  ⟨_, _, st, hrun, hended, v, locs, rfl, hQ, ⟨_, rfl⟩, hW, hsame.mono hc hs⟩
theorem own_retN (X : Stand p l e R s m args below meth c T locs cells slots) (hx : p.tables.exec = Jvm.exec) {t : FieldType} {z : Int32} (hret : meth.sig.returnType = some t) (ht : t = .boolean ∨ t = .byte ∨ t = .char ∨ t = .short) (hlocks : meth.locks = false) (hd : decode c.code pc = .ok (.ireturn, 1)) (hc : cells ≤ cs) (hs : slots ≤ sl) (hQ : Q (some (.int (nar t z))) T.heap locs) : own_Wp p e below (own_Fin below s Q cs sl) T (mkF m pc Ls (.int z :: rest)) := by
  obtain ⟨fs, hr, hrun, hended, hW, hsame⟩ := X.leave (v := some (.int (nar t z))) (fun h => by rw [hret] at h; cases h) hlocks
  exact own_leave (retN X hx hret ht hd hr) hrun hended hW hsame hc hs hQ
theorem own_retI (X : Stand p l e R s m args below meth c T locs cells slots) (hx : p.tables.exec = Jvm.exec) {z : Int32} (hret : meth.sig.returnType = some .int) (hlocks : meth.locks = false) (hd : decode c.code pc = .ok (.ireturn, 1)) (hc : cells ≤ cs) (hs : slots ≤ sl) (hQ : Q (some (.int z)) T.heap locs) : own_Wp p e below (own_Fin below s Q cs sl) T (mkF m pc Ls (.int z :: rest)) := by
  obtain ⟨fs, hr, hrun, hended, hW, hsame⟩ := X.leave (v := some (.int z)) (fun h => by rw [hret] at h; cases h) hlocks
  refine own_leave ?_ hrun hended hW hsame hc hs hQ
  have hm' : T.vm.method? m = some meth := X.method'
  have hn : narrow .int (.int z) = .int z := rfl
  show Steps p.tables e below (T.setTop { method := m, pc := pc, locals := Ls, stack := _ :: rest, locked := none }) _
  jvm_step X.here [X.here.top, hx, hd, hm', hret, hn]
  first | (intro acts; rw [hr _ acts rfl rfl rfl]) | rw [hr _ _ rfl rfl rfl]
  exact Steps.refl _
theorem own_retJ (X : Stand p l e R s m args below meth c T locs cells slots) (hx : p.tables.exec = Jvm.exec) {z : Int64} (hret : meth.sig.returnType = some .long) (hlocks : meth.locks = false) (hd : decode c.code pc = .ok (.lreturn, 1)) (hc : cells ≤ cs) (hs : slots ≤ sl) (hQ : Q (some (.long z)) T.heap locs) : own_Wp p e below (own_Fin below s Q cs sl) T (mkF m pc Ls (.long z :: rest)) := by
  obtain ⟨fs, hr, hrun, hended, hW, hsame⟩ := X.leave (v := some (.long z)) (fun h => by rw [hret] at h; cases h) hlocks
  refine own_leave ?_ hrun hended hW hsame hc hs hQ
  have hm' : T.vm.method? m = some meth := X.method'
  have hn : narrow .long (.long z) = .long z := rfl
  show Steps p.tables e below (T.setTop { method := m, pc := pc, locals := Ls, stack := _ :: rest, locked := none }) _
  jvm_step X.here [X.here.top, hx, hd, hm', hret, hn]
  first | (intro acts; rw [hr _ acts rfl rfl rfl]) | rw [hr _ _ rfl rfl rfl]
  exact Steps.refl _
theorem own_retA (X : Stand p l e R s m args below meth c T locs cells slots) (hx : p.tables.exec = Jvm.exec) {t : FieldType} {v : Value} (hret : meth.sig.returnType = some t) (ht : t.isReference = true) (hv : v.isRef = true) (hlocks : meth.locks = false) (hd : decode c.code pc = .ok (.areturn, 1)) (hc : cells ≤ cs) (hs : slots ≤ sl) (hQ : Q (some v) T.heap locs) : own_Wp p e below (own_Fin below s Q cs sl) T (mkF m pc Ls (v :: rest)) := by
  obtain ⟨fs, hr, hrun, hended, hW, hsame⟩ := X.leave (v := some v) (fun h => by rw [hret] at h; cases h) hlocks
  refine own_leave ?_ hrun hended hW hsame hc hs hQ
  have hm' : T.vm.method? m = some meth := X.method'
  rcases ref_cases hv with rfl | ⟨a, rfl⟩
  · show Steps p.tables e below (T.setTop { method := m, pc := pc, locals := Ls, stack := _ :: rest, locked := none }) _
    jvm_step X.here [X.here.top, hx, hd, hm', hret, Value.isRef, ht]
    first | (intro acts; rw [hr _ acts rfl rfl rfl]) | rw [hr _ _ rfl rfl rfl]
    exact Steps.refl _
  · show Steps p.tables e below (T.setTop { method := m, pc := pc, locals := Ls, stack := _ :: rest, locked := none }) _
    jvm_step X.here [X.here.top, hx, hd, hm', hret, Value.isRef, ht]
    first | (intro acts; rw [hr _ acts rfl rfl rfl]) | rw [hr _ _ rfl rfl rfl]
    exact Steps.refl _
theorem own_retV (X : Stand p l e R s m args below meth c T locs cells slots) (hx : p.tables.exec = Jvm.exec) (hret : meth.sig.returnType = none) (hlocks : meth.locks = false) (hd : decode c.code pc = .ok (.return_, 1)) (hc : cells ≤ cs) (hs : slots ≤ sl) (hQ : Q none T.heap locs) : own_Wp p e below (own_Fin below s Q cs sl) T (mkF m pc Ls []) := by
  obtain ⟨fs, hr, hrun, hended, hW, hsame⟩ := X.leave (v := none) (fun _ => rfl) hlocks
  exact own_leave (X.returnOut hx hret hd hr) hrun hended hW hsame hc hs hQ
/-- a contract, as every body of this text has one -/
def own_Met (l : Launch) (Z : State) (y : MethodName) (cd : Cond) (ws : List Cond) (rm : Room) (as' : Array Value) (h : Heap) (Q : Option Value → Heap → List Loc → Prop) : Prop :=
  MetFree l y (head1 (cd :: ws) rm) (fun a U => a = as' ∧ Z.Warmed39 U.vm ∧ U.heap = h) (fun _ _ _ _ _ => True) (fun _ U o U' => ∃ v L, o = .returned v ∧ Q v U'.heap L ∧ FrameEnd U o U' L rm.cells rm.slots)
theorem own_met {y : MethodName} {bytes : ByteArray} {maxL : Nat} {ret : Option FieldType} {ws : List Cond} {rm : Room} {as' : Array Value} {own : String} (hpl : plainFor y = true) (ho : y.cls = own)
    (body : ∀ p e s m below meth c s₁, p.tables.exec = Jvm.exec → c.code = bytes → c.maxLocals = maxL → s.vm.findClass own = some m.cls → meth.name = y.name → meth.sig.returnType = ret → meth.locks = false → Z.Warmed39 s.vm → s₁.heap = h →
      Stand p l e rm s m as' below meth c s₁ [] 0 0 → own_Wp p e below (own_Fin below s Q rm.cells rm.slots) s₁ (entryFrame m as' maxL)) : own_Met l Z y (Cond.code y bytes maxL ret) ws rm as' h Q := by
  refine MetFree.of_bodySF hpl hisR ?_
  intro p e s m args below meth c s₁ Bd hml0 hP hK
  obtain ⟨rfl, hZ, hh⟩ := hP
  exact body p e s m below meth c s₁ Bd.exec Bd.bytes hml0 (ho ▸ findClass_of_methodNamed Bd.named) (name_of_methodNamed Bd.named Bd.method).1 Bd.returns Bd.notSynchronized hZ (by rw [← hh, Bd.state]; rfl) (Stand.of_body Bd)
theorem own_callS (X : Stand p l e R s m args below meth c T locs cells slots) (hx : p.tables.exec = Jvm.exec) (hZ : Z.Warmed39 s.vm) {own : String} {index : Nat} {y : MethodName} {bytes : ByteArray} {maxL W : Nat} {ret : Option FieldType} {rm : Room} {as' : Array Value}
    (hown : s.vm.findClass own = some m.cls) (w1 : (Cond.methodLink own index y).before a0 Z = true) (w2 : (Cond.static y).before a0 Z = true) (w3 : (Cond.initialized y.cls).before a0 Z = true) (w4 : (Cond.code y bytes maxL ret).before a0 Z = true) (hy : y.cls ≠ "java/lang/invoke/MethodHandle" ∧ y.cls ≠ "java/lang/invoke/VarHandle")
    (hM : own_Met l Z y (Cond.code y bytes maxL ret) [] rm as' h Q) (hf : rm.frames + 1 ≤ R.frames) (hl : W + (maxL + 11) + rm.locals ≤ R.locals) (argsL : List Value) (ha : argsL.toArray = as') (hlen : ∀ sig, parseMethodDescriptor y.desc = some sig → argsL.length = sig.parameters.length)
    (hsz : Ls.size = c.maxLocals) (hW : (rest.map fun v => v.category).sum ≤ W) (hd : decode c.code pc = .ok (.invokestatic index, 3)) (eT : T.heap = h) (hc : cells + rm.cells ≤ R.cells) (hs : slots + rm.slots ≤ R.slots) :
    ∃ (v : Option Value) (T' : State) (L : List Loc), Stand p l e R s m args below meth c T' (locs ++ L) (cells + rm.cells) (slots + rm.slots) ∧ Q v T'.heap L ∧ ∀ F, own_Wp p e below F T' (mkF m (pc + 3) Ls (v.toList ++ rest)) → own_Wp p e below F T (mkF m pc Ls (argsL.reverse ++ rest)) := by
  obtain ⟨v, _, ⟨T1, L1, k1, n1⟩, -, X1, ⟨Lc, hQ, l1, y1, z1⟩, st⟩ := Jvm.LawKit.callS X hx (y := y) hown (mvT hZ w1) (mvT hZ w2) (mvT hZ w3) (mvT hZ w4) hy (backOf (W := W) hM hZ w4 w3 hf hl) (g := mkF m pc Ls (argsL.reverse ++ rest)) rfl hsz (argsL := argsL) (rest := rest) hlen rfl (by show 2 * 0 + _ ≤ _; omega) hd (fun _ _ => ⟨ha, eT, hc, hs⟩)
  dsimp only [Pt.U, Pt.locs, Pt.cells, Pt.slots] at X1 l1 y1 z1 st hQ
  subst l1 y1 z1
  exact ⟨v, T1, Lc, X1, hQ, fun F k => own_step st k⟩
theorem own_callV (X : Stand p l e R s m args below meth c T locs cells slots) (hx : p.tables.exec = Jvm.exec) (hZ : Z.Warmed39 s.vm) {own C : String} {index : Nat} {y z : MethodName} {bytes : ByteArray} {maxL W : Nat} {ret : Option FieldType} {rm : Room} {as' : Array Value} {b : Addr}
    (hown : s.vm.findClass own = some m.cls) (w1 : (Cond.methodLink own index y).before a0 Z = true) (w2 : (Cond.declares y).before a0 Z = true) (hnf : NotFace s y) (w3 : (Cond.selects C y z).before a0 Z = true) (w5 : (Cond.instanceMethod z).before a0 Z = true) (w6 : (Cond.initialized z.cls).before a0 Z = true) (w4 : (Cond.code z bytes maxL ret).before a0 Z = true) (hy : y.cls ≠ "java/lang/invoke/MethodHandle" ∧ y.cls ≠ "java/lang/invoke/VarHandle") (E : Exa Z h b C)
    (hM : own_Met l Z z (Cond.code z bytes maxL ret) [] rm as' h Q) (hf : rm.frames + 1 ≤ R.frames) (hl : W + (maxL + 11) + rm.locals ≤ R.locals) (argsL : List Value) (ha : (.ref b :: argsL).toArray = as') (hlen : ∀ sig, parseMethodDescriptor y.desc = some sig → argsL.length = sig.parameters.length)
    (hsz : Ls.size = c.maxLocals) (hW : (rest.map fun v => v.category).sum ≤ W) (hd : decode c.code pc = .ok (.invokevirtual index, 3)) (eT : T.heap = h) (hc : cells + rm.cells ≤ R.cells) (hs : slots + rm.slots ≤ R.slots) :
    ∃ (v : Option Value) (T' : State) (L : List Loc), Stand p l e R s m args below meth c T' (locs ++ L) (cells + rm.cells) (slots + rm.slots) ∧ Q v T'.heap L ∧ ∀ F, own_Wp p e below F T' (mkF m (pc + 3) Ls (v.toList ++ rest)) → own_Wp p e below F T (mkF m pc Ls (argsL.reverse ++ .ref b :: rest)) := by
  obtain ⟨cq, kq, qa, qb, qc⟩ := isOf hZ eT E
  obtain ⟨v, _, ⟨T1, L1, k1, n1⟩, -, X1, ⟨Lc, hQ, l1, y1, z1⟩, st⟩ := X.virtualBack hx (y := y) (z := z) hown (mvT hZ w1) (mvT hZ w2) hnf (mvT hZ w3) (mvT hZ w5) hy (backOf (W := W) hM hZ w4 w6 hf hl) qa qc (g := mkF m pc Ls (argsL.reverse ++ .ref b :: rest)) rfl hsz (Steps.refl _) (argsL := argsL) (rest := rest) hlen rfl (by show 2 * 0 + _ ≤ _; omega) hd (fun _ _ => ⟨ha, eT, hc, hs⟩)
  dsimp only [Pt.U, Pt.locs, Pt.cells, Pt.slots] at X1 l1 y1 z1 st hQ
  subst l1 y1 z1
  exact ⟨v, T1, Lc, X1, hQ, fun F k => own_step (fun _ q => st.trans q) k⟩
theorem own_callN (X : Stand p l e R s m args below meth c T locs cells slots) (hx : p.tables.exec = Jvm.exec) (hZ : Z.Warmed39 s.vm) {own : String} {index : Nat} {y : MethodName} {bytes : ByteArray} {maxL W : Nat} {rm : Room} {as' : Array Value} {b : Addr}
    (hn : y.name = "<init>") (hown : s.vm.findClass own = some m.cls) (w1 : (Cond.methodLink own index y).before a0 Z = true) (w5 : (Cond.instanceMethod y).before a0 Z = true) (w6 : (Cond.initialized y.cls).before a0 Z = true) (w4 : (Cond.code y bytes maxL none).before a0 Z = true) (hy : y.cls ≠ "java/lang/invoke/MethodHandle" ∧ y.cls ≠ "java/lang/invoke/VarHandle")
    (hM : own_Met l Z y (Cond.code y bytes maxL none) [] rm as' h Q) (hf : rm.frames + 1 ≤ R.frames) (hl : W + (maxL + 11) + rm.locals ≤ R.locals) (argsL : List Value) (ha : (.ref b :: argsL).toArray = as') (hlen : ∀ sig, parseMethodDescriptor y.desc = some sig → argsL.length = sig.parameters.length)
    (hsz : Ls.size = c.maxLocals) (hW : (rest.map fun v => v.category).sum ≤ W) (hd : decode c.code pc = .ok (.invokespecial index, 3)) (eT : T.heap = h) (hc : cells + rm.cells ≤ R.cells) (hs : slots + rm.slots ≤ R.slots) :
    ∃ (v : Option Value) (T' : State) (L : List Loc), Stand p l e R s m args below meth c T' (locs ++ L) (cells + rm.cells) (slots + rm.slots) ∧ Q v T'.heap L ∧ ∀ F, own_Wp p e below F T' (mkF m (pc + 3) Ls (v.toList ++ rest)) → own_Wp p e below F T (mkF m pc Ls (argsL.reverse ++ .ref b :: rest)) := by
  obtain ⟨v, _, ⟨T1, L1, k1, n1⟩, -, X1, ⟨Lc, hQ, l1, y1, z1⟩, st⟩ := X.specialBack hx (y := y) hn hown (mvT hZ w1) (mvT hZ w5) (mvT hZ w4) hy (backOf (W := W) hM hZ w4 w6 hf hl) (g := mkF m pc Ls (argsL.reverse ++ .ref b :: rest)) rfl hsz (Steps.refl _) (a := b) (argsL := argsL) (rest := rest) hlen rfl (by show 2 * 0 + _ ≤ _; omega) hd (fun _ _ => ⟨ha, eT, hc, hs⟩)
  dsimp only [Pt.U, Pt.locs, Pt.cells, Pt.slots] at X1 l1 y1 z1 st hQ
  subst l1 y1 z1
  exact ⟨v, T1, Lc, X1, hQ, fun F k => own_step (fun _ q => st.trans q) k⟩
theorem own_callU (X : Stand p l e R s m args below meth c T locs cells slots) (hx : p.tables.exec = Jvm.exec) (hZ : Z.Warmed39 s.vm) {own C owner : String} {index : Nat} {y z : MethodName} {bytes : ByteArray} {maxL W : Nat} {ret : Option FieldType} {rm : Room} {as' : Array Value} {b : Addr}
    (hown : s.vm.findClass own = some m.cls) (w1 : (Cond.methodLink own index y).before a0 Z = true) (w2 : (Cond.sameMethod y.cls owner y.name y.desc).before a0 Z = true) (w7 : (Cond.declares ⟨owner, y.name, y.desc⟩).before a0 Z = true) (w3 : (Cond.selects C y z).before a0 Z = true) (w5 : (Cond.instanceMethod z).before a0 Z = true) (w6 : (Cond.initialized z.cls).before a0 Z = true) (w4 : (Cond.code z bytes maxL ret).before a0 Z = true) (hy : owner ≠ "java/lang/invoke/MethodHandle" ∧ owner ≠ "java/lang/invoke/VarHandle") (E : Exa Z h b C)
    (hM : own_Met l Z z (Cond.code z bytes maxL ret) [] rm as' h Q) (hf : rm.frames + 1 ≤ R.frames) (hl : W + (maxL + 11) + rm.locals ≤ R.locals) (argsL : List Value) (ha : (.ref b :: argsL).toArray = as') (hlen : ∀ sig, parseMethodDescriptor y.desc = some sig → argsL.length = sig.parameters.length)
    (hsz : Ls.size = c.maxLocals) (hW : (rest.map fun v => v.category).sum ≤ W) (hd : decode c.code pc = .ok (.invokevirtual index, 3)) (eT : T.heap = h) (hc : cells + rm.cells ≤ R.cells) (hs : slots + rm.slots ≤ R.slots) :
    ∃ (v : Option Value) (T' : State) (L : List Loc), Stand p l e R s m args below meth c T' (locs ++ L) (cells + rm.cells) (slots + rm.slots) ∧ Q v T'.heap L ∧ ∀ F, own_Wp p e below F T' (mkF m (pc + 3) Ls (v.toList ++ rest)) → own_Wp p e below F T (mkF m pc Ls (argsL.reverse ++ .ref b :: rest)) := by
  obtain ⟨cq, kq, qa, qb, qc⟩ := isOf hZ eT E
  obtain ⟨v, _, ⟨T1, L1, k1, n1⟩, -, X1, ⟨Lc, hQ, l1, y1, z1⟩, st⟩ := X.virtualBackUp hx (x := y) (y := z) hown (mvT hZ w1) (mvT hZ w2) (mvT hZ w7) hy (mvT hZ w3) (mvT hZ w5) (backOf (W := W) hM hZ w4 w6 hf hl) qa qc (g := mkF m pc Ls (argsL.reverse ++ .ref b :: rest)) rfl hsz (Steps.refl _) (argsL := argsL) (rest := rest) hlen rfl (by show 2 * 0 + _ ≤ _; omega) hd (fun _ _ => ⟨ha, eT, hc, hs⟩)
  dsimp only [Pt.U, Pt.locs, Pt.cells, Pt.slots] at X1 l1 y1 z1 st hQ
  subst l1 y1 z1
  exact ⟨v, T1, Lc, X1, hQ, fun F k => own_step (fun _ q => st.trans q) k⟩
theorem own_callF (X : Stand p l e R s m args below meth c T locs cells slots) (hx : p.tables.exec = Jvm.exec) (hZ : Z.Warmed39 s.vm) {own C : String} {index count : Nat} {y z : MethodName} {bytes : ByteArray} {maxL W : Nat} {ret : Option FieldType} {rm : Room} {as' : Array Value} {b : Addr}
    (hown : s.vm.findClass own = some m.cls) (w1 : (Cond.methodLink own index y).before a0 Z = true) (w2 : (Cond.declares y).before a0 Z = true) (w7 : (Cond.interfaceMethod y.cls y.cls y.name y.desc).before a0 Z = true) (hfa : ((Cond.interfaceMethod y.cls y.cls y.name y.desc).onTables && (Cond.interfaceMethod y.cls y.cls y.name y.desc).keepsFace) = true) (w3 : (Cond.selects C y z).before a0 Z = true) (w5 : (Cond.instanceMethod z).before a0 Z = true) (w8 : (Cond.publicMethod z).before a0 Z = true) (w9 : (Cond.unhidden C y.name y.desc).before a0 Z = true) (w10 : (Cond.castable C y.cls).before a0 Z = true) (w6 : (Cond.initialized z.cls).before a0 Z = true) (w4 : (Cond.code z bytes maxL ret).before a0 Z = true) (hy : y.cls ≠ "java/lang/invoke/MethodHandle" ∧ y.cls ≠ "java/lang/invoke/VarHandle") (E : Exa Z h b C)
    (hM : own_Met l Z z (Cond.code z bytes maxL ret) [] rm as' h Q) (hf : rm.frames + 1 ≤ R.frames) (hl : W + (maxL + 11) + rm.locals ≤ R.locals) (argsL : List Value) (ha : (.ref b :: argsL).toArray = as') (hlen : ∀ sig, parseMethodDescriptor y.desc = some sig → argsL.length = sig.parameters.length)
    (hsz : Ls.size = c.maxLocals) (hW : (rest.map fun v => v.category).sum ≤ W) (hd : decode c.code pc = .ok (.invokeinterface index count, 5)) (eT : T.heap = h) (hc : cells + rm.cells ≤ R.cells) (hs : slots + rm.slots ≤ R.slots) :
    ∃ (v : Option Value) (T' : State) (L : List Loc), Stand p l e R s m args below meth c T' (locs ++ L) (cells + rm.cells) (slots + rm.slots) ∧ Q v T'.heap L ∧ ∀ F, own_Wp p e below F T' (mkF m (pc + 5) Ls (v.toList ++ rest)) → own_Wp p e below F T (mkF m pc Ls (argsL.reverse ++ .ref b :: rest)) := by
  obtain ⟨cq, kq, qa, qb, qc⟩ := isOf hZ eT E
  obtain ⟨v, _, ⟨T1, L1, k1, n1⟩, -, X1, ⟨Lc, hQ, l1, y1, z1⟩, st⟩ := X.interfaceBack hx (xi := y) (y := z) hown (mvT hZ w1) (mvT hZ w2) (mvT hZ w7 hfa) (mvT hZ w3) (mvT hZ w5) (mvT hZ w8) (mvT hZ w9) (mvT hZ w10) hy (backOf (W := W) hM hZ w4 w6 hf hl) qa qb qc (g := mkF m pc Ls (argsL.reverse ++ .ref b :: rest)) rfl hsz (Steps.refl _) (argsL := argsL) (rest := rest) hlen rfl (by show 2 * 0 + _ ≤ _; omega) hd (fun _ _ => ⟨ha, eT, hc, hs⟩)
  dsimp only [Pt.U, Pt.locs, Pt.cells, Pt.slots] at X1 l1 y1 z1 st hQ
  subst l1 y1 z1
  exact ⟨v, T1, Lc, X1, hQ, fun F k => own_step (fun _ q => st.trans q) k⟩
theorem own_callP (X : Stand p l e R s m args below meth c T locs cells slots) (hx : p.tables.exec = Jvm.exec) (hZ : Z.Warmed39 s.vm) {own : String} {index : Nat} {y : MethodName} {bytes : ByteArray} {maxL W : Nat} {ret : Option FieldType} {rm : Room} {as' : Array Value} {b : Addr}
    (hown : s.vm.findClass own = some m.cls) (w1 : (Cond.methodLink own index y).before a0 Z = true) (w5 : (Cond.instanceMethod y).before a0 Z = true) (w7 : (Cond.selects y.cls y y).before a0 Z = true) (w8 : (Cond.privateMethod y).before a0 Z = true) (w6 : (Cond.initialized y.cls).before a0 Z = true) (w4 : (Cond.code y bytes maxL ret).before a0 Z = true) (hy : y.cls ≠ "java/lang/invoke/MethodHandle" ∧ y.cls ≠ "java/lang/invoke/VarHandle") {C : String} (E : Exa Z h b C)
    (hM : own_Met l Z y (Cond.code y bytes maxL ret) [] rm as' h Q) (hf : rm.frames + 1 ≤ R.frames) (hl : W + (maxL + 11) + rm.locals ≤ R.locals) (argsL : List Value) (ha : (.ref b :: argsL).toArray = as') (hlen : ∀ sig, parseMethodDescriptor y.desc = some sig → argsL.length = sig.parameters.length)
    (hsz : Ls.size = c.maxLocals) (hW : (rest.map fun v => v.category).sum ≤ W) (hd : decode c.code pc = .ok (.invokevirtual index, 3)) (eT : T.heap = h) (hc : cells + rm.cells ≤ R.cells) (hs : slots + rm.slots ≤ R.slots) :
    ∃ (v : Option Value) (T' : State) (L : List Loc), Stand p l e R s m args below meth c T' (locs ++ L) (cells + rm.cells) (slots + rm.slots) ∧ Q v T'.heap L ∧ ∀ F, own_Wp p e below F T' (mkF m (pc + 3) Ls (v.toList ++ rest)) → own_Wp p e below F T (mkF m pc Ls (argsL.reverse ++ .ref b :: rest)) := by
  obtain ⟨cq, q1, q2⟩ := E.cell
  obtain ⟨v, _, ⟨T1, L1, k1, n1⟩, -, X1, ⟨Lc, hQ, l1, y1, z1⟩, st⟩ := X.privateBack hx (y := y) hown (mvT hZ w1) (mvT hZ w5) (mvT hZ w7) (Cond.privateMethod_at (mvP hZ w8 (args := #[]))) (mvT hZ w4) hy (backOf (W := W) hM hZ w4 w6 hf hl) (g := mkF m pc Ls (argsL.reverse ++ .ref b :: rest)) rfl hsz (Steps.refl _) (a := b) (by rw [eT]; exact q1) q2 (argsL := argsL) (rest := rest) hlen rfl (by show 2 * 0 + _ ≤ _; omega) hd (fun _ _ => ⟨ha, eT, hc, hs⟩)
  dsimp only [Pt.U, Pt.locs, Pt.cells, Pt.slots] at X1 l1 y1 z1 st hQ
  subst l1 y1 z1
  exact ⟨v, T1, Lc, X1, hQ, fun F k => own_step (fun _ q => st.trans q) k⟩
/-- the words of a long conjunction, as a list -/
def own_flat : Cond → List Cond
  | .and a b => a :: own_flat b
  | c => [c]
theorem own_mem {args : Array Value} {Z : State} : ∀ c : Cond, c.value args Z none Z [] = some true → ∀ d ∈ own_flat c, d.value args Z none Z [] = some true
  | .and a b, h, d, hd => by
    obtain ⟨h1, h2⟩ := and_e h
    rcases List.mem_cons.mp hd with rfl | q
    · exact h1
    · exact own_mem b h2 d q
  | .tt, h, d, hd => by cases List.mem_singleton.mp hd; exact h
  | c, h, d, hd => by
    unfold own_flat at hd
    split at hd
    · rename_i a b
      obtain ⟨h1, h2⟩ := and_e h
      rcases List.mem_cons.mp hd with rfl | q
      · exact h1
      · exact own_mem b h2 d q
    · cases List.mem_singleton.mp hd; exact h
/-- the object that a term of the start names -/
def own_t (Z : State) (t : Term) : Addr := match t.eval #[] Z none [] Z with
  | some (.ref a) => a
  | _ => 0
theorem own_t_eq {t : Term} {a : Addr} (h : t.eval a0 Z none [] Z = some (.ref a)) (hr : t.eval a0 Z none [] Z = t.eval #[] Z none [] Z) : own_t Z t = a := by
  rw [hr] at h
  simp only [own_t, h]
theorem own_ev {t : Term} {K : String} (h : (Cond.exactly t K).value a0 Z none Z [] = some true) (hr : t.eval a0 Z none [] Z = t.eval #[] Z none [] Z) : t.eval a0 Z none [] Z = some (.ref (own_t Z t)) := by
  obtain ⟨a, ev⟩ := exa_v h
  rw [own_t_eq ev hr]
  exact ev
theorem own_evA {t : Term} {ty : FieldType} (h : (Cond.arrayOf t ty).value a0 Z none Z [] = some true) (hr : t.eval a0 Z none [] Z = t.eval #[] Z none [] Z) : t.eval a0 Z none [] Z = some (.ref (own_t Z t)) := by
  obtain ⟨a, ev⟩ := arr_v h
  rw [own_t_eq ev hr]
  exact ev
theorem own_eqI {t : Term} {z : Int32} (q : (Cond.eq t (.int z)).value a0 Z none Z [] = some true) : t.eval a0 Z none [] Z = some (.int z) := by
  cases hf : t.eval a0 Z none [] Z with
  | none => simp [Cond.value, hf] at q
  | some v => cases v <;> simp [Cond.value, Term.eval, hf] at q <;> first | (rw [q]; done) | exact congrArg (fun z => some (Value.int z)) q | skip
theorem own_eqR {t u : Term} {b : Addr} (q : (Cond.eq t u).value a0 Z none Z [] = some true) (ev : u.eval a0 Z none [] Z = some (.ref b)) : t.eval a0 Z none [] Z = some (.ref b) := by
  cases hf : t.eval a0 Z none [] Z with
  | none => simp [Cond.value, hf] at q
  | some v => cases v <;> simp [Cond.value, hf, ev] at q <;> first | (rw [q]; done) | exact congrArg (fun z => some (Value.ref z)) q | skip
theorem own_fld {t : Term} {O f d : String} {a : Addr} {v : Value} (ev : t.eval a0 Z none [] Z = some (.ref a)) (q : (Term.field t O f d).eval a0 Z none [] Z = some v) : Fld Z Z.heap a O f d v := by
  refine Fld.start ?_
  simp only [Term.eval, ev, Option.bind_eq_bind, Option.bind_some] at q
  exact q
theorem own_len {t : Term} {ty : FieldType} {a : Addr} {cl : Cell} {z : Int32} (A : Arr Z Z.heap a cl ty) (ev : t.eval a0 Z none [] Z = some (.ref a)) (q : (Cond.eq (.length t) (.int z)).value a0 Z none Z [] = some true) : cl.slots.size < 2 ^ 31 ∧ cl.slots.size.toInt32 = z := by
  have e0 : Z.arrayAt? a = some cl := Arr.fin (Vm.Alike.refl _) A
  have q2 := own_eqI q
  simp only [Term.eval, ev, e0, Option.bind_eq_bind, Option.bind_some] at q2
  split at q2
  · rename_i g
    exact ⟨g, by simpa using q2⟩
  · cases q2
theorem own_el {t : Term} {ty : FieldType} {a : Addr} {cl : Cell} {i : Int32} {v : Value} (A : Arr Z Z.heap a cl ty) (ev : t.eval a0 Z none [] Z = some (.ref a)) (q : (Term.elem t (.int i)).eval a0 Z none [] Z = some v) : cl.slots[i.toNatClampNeg]? = some v := by
  have e0 : Z.arrayAt? a = some cl := Arr.fin (Vm.Alike.refl _) A
  simp only [Term.eval, ev, e0, Option.bind_eq_bind, Option.bind_some] at q
  split at q
  · cases q
  · exact q
def own_i (Z : State) (t : Term) : Int32 := match t.eval #[] Z none [] Z with
  | some (.int a) => a
  | _ => 0
theorem own_evI {t : Term} (h : (Cond.isInt t).value a0 Z none Z [] = some true) (hr : t.eval a0 Z none [] Z = t.eval #[] Z none [] Z) : t.eval a0 Z none [] Z = some (.int (own_i Z t)) := by
  obtain ⟨a, ev⟩ := is_v h
  have q := ev
  rw [hr] at q
  have e : own_i Z t = a := by simp only [own_i, q]
  rw [e]
  exact ev
theorem own_neI {t : Term} {z a : Int32} (h : (Cond.not (.eq t (.int z))).value a0 Z none Z [] = some true) (ev : t.eval a0 Z none [] Z = some (.int a)) : ¬ (a = z) := by
  have q := not_v h
  simp only [Cond.value, ev, Term.eval] at q
  intro e
  subst e
  simp at q
theorem own_fitc {c : Int32} (h : nar .char c = c) : fits .char (.int c) = true := by
  have q := fits_nar_char c
  rw [h] at q
  exact q
theorem own_narb {c : Int32} (h : c = (0 : Int32) ∨ c = (1 : Int32)) : nar .boolean c = c := by rcases h with rfl | rfl <;> rfl
theorem own_nb {c : Int32} (h : c = (0 : Int32) ∨ c = (1 : Int32)) : narrow .boolean (.int c) = .int c := by rcases h with rfl | rfl <;> rfl
theorem own_fb {c : Int32} (h : c = (0 : Int32) ∨ c = (1 : Int32)) : fits .boolean (.int c) = true := by rcases h with rfl | rfl <;> rfl
theorem own_lc3 (a b : Int64) : (a < b ∧ lcmpW a b = -1) ∨ (a = b ∧ lcmpW a b = 0) ∨ (b < a ∧ lcmpW a b = 1) := by
  by_cases h : b < a
  · exact Or.inr (Or.inr ⟨h, if_pos h⟩)
  · by_cases h2 : a = b
    · exact Or.inr (Or.inl ⟨h2, (if_neg h).trans (if_pos h2)⟩)
    · refine Or.inl ⟨?_, (if_neg h).trans (if_neg h2)⟩
      simp only [Int64.lt_iff_toInt_lt, ← Int64.toInt_inj] at h h2 ⊢
      omega
theorem own_lcltY {a b : Int64} (h : a < b) : ifCond.holds .lt (lcmpW a b) = true := by
  rcases own_lc3 a b with ⟨h1, e⟩ | ⟨h1, e⟩ | ⟨h1, e⟩ <;> first | (rw [e]; decide) | (exfalso; simp only [Int64.lt_iff_toInt_lt, ← Int64.toInt_inj] at h h1; omega)
theorem own_lcltN {a b : Int64} (h : ¬ (a < b)) : ifCond.holds .lt (lcmpW a b) = false := by
  rcases own_lc3 a b with ⟨h1, e⟩ | ⟨h1, e⟩ | ⟨h1, e⟩ <;> first | (rw [e]; decide) | (exfalso; simp only [Int64.lt_iff_toInt_lt, ← Int64.toInt_inj] at h h1; omega)
theorem own_lcgeY {a b : Int64} (h : ¬ (a < b)) : ifCond.holds .ge (lcmpW a b) = true := by
  rcases own_lc3 a b with ⟨h1, e⟩ | ⟨h1, e⟩ | ⟨h1, e⟩ <;> first | (rw [e]; decide) | (exfalso; simp only [Int64.lt_iff_toInt_lt, ← Int64.toInt_inj] at h h1; omega)
theorem own_lcgeN {a b : Int64} (h : a < b) : ifCond.holds .ge (lcmpW a b) = false := by
  rcases own_lc3 a b with ⟨h1, e⟩ | ⟨h1, e⟩ | ⟨h1, e⟩ <;> first | (rw [e]; decide) | (exfalso; simp only [Int64.lt_iff_toInt_lt, ← Int64.toInt_inj] at h h1; omega)
theorem own_lcgtY {a b : Int64} (h : b < a) : ifCond.holds .gt (lcmpW a b) = true := by
  rcases own_lc3 a b with ⟨h1, e⟩ | ⟨h1, e⟩ | ⟨h1, e⟩ <;> first | (rw [e]; decide) | (exfalso; simp only [Int64.lt_iff_toInt_lt, ← Int64.toInt_inj] at h h1; omega)
theorem own_lcgtN {a b : Int64} (h : ¬ (b < a)) : ifCond.holds .gt (lcmpW a b) = false := by
  rcases own_lc3 a b with ⟨h1, e⟩ | ⟨h1, e⟩ | ⟨h1, e⟩ <;> first | (rw [e]; decide) | (exfalso; simp only [Int64.lt_iff_toInt_lt, ← Int64.toInt_inj] at h h1; omega)
theorem own_lcleY {a b : Int64} (h : ¬ (b < a)) : ifCond.holds .le (lcmpW a b) = true := by
  rcases own_lc3 a b with ⟨h1, e⟩ | ⟨h1, e⟩ | ⟨h1, e⟩ <;> first | (rw [e]; decide) | (exfalso; simp only [Int64.lt_iff_toInt_lt, ← Int64.toInt_inj] at h h1; omega)
theorem own_lcleN {a b : Int64} (h : b < a) : ifCond.holds .le (lcmpW a b) = false := by
  rcases own_lc3 a b with ⟨h1, e⟩ | ⟨h1, e⟩ | ⟨h1, e⟩ <;> first | (rw [e]; decide) | (exfalso; simp only [Int64.lt_iff_toInt_lt, ← Int64.toInt_inj] at h h1; omega)
theorem own_lceqY {a b : Int64} (h : a = b) : ifCond.holds .eq (lcmpW a b) = true := by
  rcases own_lc3 a b with ⟨h1, e⟩ | ⟨h1, e⟩ | ⟨h1, e⟩ <;> first | (rw [e]; decide) | (exfalso; simp only [Int64.lt_iff_toInt_lt, ← Int64.toInt_inj] at h h1; omega)
theorem own_lceqN {a b : Int64} (h : ¬ (a = b)) : ifCond.holds .eq (lcmpW a b) = false := by
  rcases own_lc3 a b with ⟨h1, e⟩ | ⟨h1, e⟩ | ⟨h1, e⟩ <;> first | (rw [e]; decide) | (exfalso; simp only [Int64.lt_iff_toInt_lt, ← Int64.toInt_inj] at h h1; omega)
theorem own_lcneY {a b : Int64} (h : ¬ (a = b)) : ifCond.holds .ne (lcmpW a b) = true := by
  rcases own_lc3 a b with ⟨h1, e⟩ | ⟨h1, e⟩ | ⟨h1, e⟩ <;> first | (rw [e]; decide) | (exfalso; simp only [Int64.lt_iff_toInt_lt, ← Int64.toInt_inj] at h h1; omega)
theorem own_lcneN {a b : Int64} (h : a = b) : ifCond.holds .ne (lcmpW a b) = false := by
  rcases own_lc3 a b with ⟨h1, e⟩ | ⟨h1, e⟩ | ⟨h1, e⟩ <;> first | (rw [e]; decide) | (exfalso; simp only [Int64.lt_iff_toInt_lt, ← Int64.toInt_inj] at h h1; omega)
end OwnLayer
theorem own_get {c : Cell} {vs : List Value} {d : Value} {z j : Int32} (S : c.slots.size = z.toNatClampNeg) (H : Has c vs d) (q : ¬ (j < 0 ∨ c.slots.size ≤ j.toNatClampNeg)) (i : Nat) (hj : j.toNatClampNeg = i) : c.slots[j.toNatClampNeg]? = some (vs.getD i d) := by
  subst hj
  exact H _ (Nat.lt_of_not_le fun r => q (Or.inr r))
theorem own_mod (x : Int32) {n : Int32} (hn : 0 < n.toInt) : 0 ≤ ((x &&& (2147483647 : Int32)) % n).toInt ∧ ((x &&& (2147483647 : Int32)) % n).toInt < n.toInt := by
  have h := (Jvm.Kit.i32_and_bounds x (m := (2147483647 : Int32)) (by decide)).1
  have h0 : 0 ≤ (x &&& (2147483647 : Int32)).toInt := Jvm.Kit.i32_nonneg.mp h
  rw [Int32.toInt_mod]
  exact ⟨Int.tmod_nonneg _ h0, Int.tmod_lt_of_pos _ hn⟩
theorem own_mod5 (x : Int32) : (x &&& (2147483647 : Int32)) % (5 : Int32) = (0 : Int32) ∨ (x &&& (2147483647 : Int32)) % (5 : Int32) = (1 : Int32) ∨ (x &&& (2147483647 : Int32)) % (5 : Int32) = (2 : Int32) ∨ (x &&& (2147483647 : Int32)) % (5 : Int32) = (3 : Int32) ∨ (x &&& (2147483647 : Int32)) % (5 : Int32) = (4 : Int32) := by
  have h := own_mod x (n := (5 : Int32)) (by decide)
  generalize (x &&& (2147483647 : Int32)) % (5 : Int32) = y at h ⊢
  have e : (5 : Int32).toInt = 5 := rfl
  rw [e] at h
  simp only [← Int32.toInt_inj]
  show y.toInt = 0 ∨ y.toInt = 1 ∨ y.toInt = 2 ∨ y.toInt = 3 ∨ y.toInt = 4
  omega
theorem own_neg {p : Int64} (g : ¬ (p = (-9223372036854775808 : Int64))) : (-p).toInt = -p.toInt := by
  refine Jvm.Kit.i64_neg fun q => g ?_
  rw [← Int64.toInt_inj, q]; rfl
theorem own_lo1 {p : Int64} (h : p < (0 : Int64)) (g : ¬ (p = (-9223372036854775808 : Int64))) : ¬ ((-p) < (0 : Int64)) := by
  rw [Int64.lt_iff_toInt_lt] at h ⊢
  rw [own_neg g]
  have e0 : (0 : Int64).toInt = 0 := rfl
  rw [e0] at h ⊢
  omega
theorem own_lo2 {p : Int64} (h : p < (0 : Int64)) : ¬ ((-p) = (0 : Int64)) := fun q => by
  have e : p = 0 := by rw [← Int64.neg_neg (a := p), q]; rfl
  subst e
  exact absurd h (by decide)
theorem own_lo3 {p : Int64} (h : p < (0 : Int64)) (g : ¬ (p = (-9223372036854775808 : Int64))) : (-p) - (1 : Int64) < (-p) := by
  rw [Int64.lt_iff_toInt_lt] at h ⊢
  have e0 : (0 : Int64).toInt = 0 := rfl
  have e1 : (1 : Int64).toInt = 1 := rfl
  have a := p.le_toInt
  rw [e0] at h
  rw [Jvm.Kit.i64_sub (by rw [own_neg g, e1]; omega) (by rw [own_neg g, e1]; omega), e1]
  omega
def w0_STOCK (Z : State) : Addr := own_t Z (Jvm.Term.static "com/example/concordat/concordat/shop/Counter" "STOCK" "Lcom/example/concordat/concordat/shop/Counter;")
theorem ev_w0_STOCK {Z : State} {a0 : Array Value} (hw : ∀ d ∈ tables_1, d.before a0 Z = true) (hA : ∀ d ∈ own_flat narrow_1, d.value a0 Z none Z [] = some true) : (Jvm.Term.static "com/example/concordat/concordat/shop/Counter" "STOCK" "Lcom/example/concordat/concordat/shop/Counter;").eval a0 Z none [] Z = some (.ref (w0_STOCK Z)) := own_ev (hA _ (List.mem_of_getElem? (i := 0) rfl)) rfl
def w1_STOCK_FROZEN (Z : State) : Addr := own_t Z (Jvm.Term.static "com/example/concordat/concordat/shop/Counter" "STOCK_FROZEN" "Lcom/example/concordat/concordat/shop/Counter;")
theorem ev_w1_STOCK_FROZEN {Z : State} {a0 : Array Value} (hw : ∀ d ∈ tables_1, d.before a0 Z = true) (hA : ∀ d ∈ own_flat narrow_1, d.value a0 Z none Z [] = some true) : (Jvm.Term.static "com/example/concordat/concordat/shop/Counter" "STOCK_FROZEN" "Lcom/example/concordat/concordat/shop/Counter;").eval a0 Z none [] Z = some (.ref (w1_STOCK_FROZEN Z)) := own_ev (hA _ (List.mem_of_getElem? (i := 1) rfl)) rfl
def w2_WALLET_FROZEN (Z : State) : Addr := own_t Z (Jvm.Term.static "com/example/concordat/concordat/shop/Counter" "WALLET_FROZEN" "Lcom/example/concordat/concordat/shop/Counter;")
theorem ev_w2_WALLET_FROZEN {Z : State} {a0 : Array Value} (hw : ∀ d ∈ tables_1, d.before a0 Z = true) (hA : ∀ d ∈ own_flat narrow_1, d.value a0 Z none Z [] = some true) : (Jvm.Term.static "com/example/concordat/concordat/shop/Counter" "WALLET_FROZEN" "Lcom/example/concordat/concordat/shop/Counter;").eval a0 Z none [] Z = some (.ref (w2_WALLET_FROZEN Z)) := own_ev (hA _ (List.mem_of_getElem? (i := 2) rfl)) rfl
def w3_BAG (Z : State) : Addr := own_t Z (Jvm.Term.static "com/example/concordat/concordat/shop/Counter" "BAG" "Lcom/example/concordat/concordat/shop/Counter;")
theorem ev_w3_BAG {Z : State} {a0 : Array Value} (hw : ∀ d ∈ tables_1, d.before a0 Z = true) (hA : ∀ d ∈ own_flat narrow_1, d.value a0 Z none Z [] = some true) : (Jvm.Term.static "com/example/concordat/concordat/shop/Counter" "BAG" "Lcom/example/concordat/concordat/shop/Counter;").eval a0 Z none [] Z = some (.ref (w3_BAG Z)) := own_ev (hA _ (List.mem_of_getElem? (i := 3) rfl)) rfl
def w4_WALLET (Z : State) : Addr := own_t Z (Jvm.Term.static "com/example/concordat/concordat/shop/Counter" "WALLET" "Lcom/example/concordat/concordat/shop/Counter;")
theorem ev_w4_WALLET {Z : State} {a0 : Array Value} (hw : ∀ d ∈ tables_1, d.before a0 Z = true) (hA : ∀ d ∈ own_flat narrow_1, d.value a0 Z none Z [] = some true) : (Jvm.Term.static "com/example/concordat/concordat/shop/Counter" "WALLET" "Lcom/example/concordat/concordat/shop/Counter;").eval a0 Z none [] Z = some (.ref (w4_WALLET Z)) := own_ev (hA _ (List.mem_of_getElem? (i := 4) rfl)) rfl
theorem ex_w0_STOCK {Z : State} {a0 : Array Value} (hw : ∀ d ∈ tables_1, d.before a0 Z = true) (hA : ∀ d ∈ own_flat narrow_1, d.value a0 Z none Z [] = some true) : Exa Z Z.heap (w0_STOCK Z) "com/example/concordat/concordat/shop/Counter" := Exa.start (ev_w0_STOCK hw hA) (hA _ (List.mem_of_getElem? (i := 0) rfl))
theorem ex_w1_STOCK_FROZEN {Z : State} {a0 : Array Value} (hw : ∀ d ∈ tables_1, d.before a0 Z = true) (hA : ∀ d ∈ own_flat narrow_1, d.value a0 Z none Z [] = some true) : Exa Z Z.heap (w1_STOCK_FROZEN Z) "com/example/concordat/concordat/shop/Counter" := Exa.start (ev_w1_STOCK_FROZEN hw hA) (hA _ (List.mem_of_getElem? (i := 1) rfl))
theorem ex_w2_WALLET_FROZEN {Z : State} {a0 : Array Value} (hw : ∀ d ∈ tables_1, d.before a0 Z = true) (hA : ∀ d ∈ own_flat narrow_1, d.value a0 Z none Z [] = some true) : Exa Z Z.heap (w2_WALLET_FROZEN Z) "com/example/concordat/concordat/shop/Counter" := Exa.start (ev_w2_WALLET_FROZEN hw hA) (hA _ (List.mem_of_getElem? (i := 2) rfl))
theorem ex_w3_BAG {Z : State} {a0 : Array Value} (hw : ∀ d ∈ tables_1, d.before a0 Z = true) (hA : ∀ d ∈ own_flat narrow_1, d.value a0 Z none Z [] = some true) : Exa Z Z.heap (w3_BAG Z) "com/example/concordat/concordat/shop/Counter" := Exa.start (ev_w3_BAG hw hA) (hA _ (List.mem_of_getElem? (i := 3) rfl))
theorem ex_w4_WALLET {Z : State} {a0 : Array Value} (hw : ∀ d ∈ tables_1, d.before a0 Z = true) (hA : ∀ d ∈ own_flat narrow_1, d.value a0 Z none Z [] = some true) : Exa Z Z.heap (w4_WALLET Z) "com/example/concordat/concordat/shop/Counter" := Exa.start (ev_w4_WALLET hw hA) (hA _ (List.mem_of_getElem? (i := 4) rfl))
theorem st_w0_STOCK {Z : State} {a0 : Array Value} (hw : ∀ d ∈ tables_1, d.before a0 Z = true) (hA : ∀ d ∈ own_flat narrow_1, d.value a0 Z none Z [] = some true) : Sta Z Z.heap "com/example/concordat/concordat/shop/Counter" "STOCK" "Lcom/example/concordat/concordat/shop/Counter;" (.ref (w0_STOCK Z)) := Sta.start (ev_w0_STOCK hw hA) (Or.inr ⟨(hw _ (List.mem_of_getElem? (i := 10) rfl)), (hw _ (List.mem_of_getElem? (i := 11) rfl))⟩)
theorem st_w1_STOCK_FROZEN {Z : State} {a0 : Array Value} (hw : ∀ d ∈ tables_1, d.before a0 Z = true) (hA : ∀ d ∈ own_flat narrow_1, d.value a0 Z none Z [] = some true) : Sta Z Z.heap "com/example/concordat/concordat/shop/Counter" "STOCK_FROZEN" "Lcom/example/concordat/concordat/shop/Counter;" (.ref (w1_STOCK_FROZEN Z)) := Sta.start (ev_w1_STOCK_FROZEN hw hA) (Or.inr ⟨(hw _ (List.mem_of_getElem? (i := 10) rfl)), (hw _ (List.mem_of_getElem? (i := 33) rfl))⟩)
theorem st_w2_WALLET_FROZEN {Z : State} {a0 : Array Value} (hw : ∀ d ∈ tables_1, d.before a0 Z = true) (hA : ∀ d ∈ own_flat narrow_1, d.value a0 Z none Z [] = some true) : Sta Z Z.heap "com/example/concordat/concordat/shop/Counter" "WALLET_FROZEN" "Lcom/example/concordat/concordat/shop/Counter;" (.ref (w2_WALLET_FROZEN Z)) := Sta.start (ev_w2_WALLET_FROZEN hw hA) (Or.inr ⟨(hw _ (List.mem_of_getElem? (i := 10) rfl)), (hw _ (List.mem_of_getElem? (i := 35) rfl))⟩)
theorem st_w3_BAG {Z : State} {a0 : Array Value} (hw : ∀ d ∈ tables_1, d.before a0 Z = true) (hA : ∀ d ∈ own_flat narrow_1, d.value a0 Z none Z [] = some true) : Sta Z Z.heap "com/example/concordat/concordat/shop/Counter" "BAG" "Lcom/example/concordat/concordat/shop/Counter;" (.ref (w3_BAG Z)) := Sta.start (ev_w3_BAG hw hA) (Or.inr ⟨(hw _ (List.mem_of_getElem? (i := 10) rfl)), (hw _ (List.mem_of_getElem? (i := 37) rfl))⟩)
theorem st_w4_WALLET {Z : State} {a0 : Array Value} (hw : ∀ d ∈ tables_1, d.before a0 Z = true) (hA : ∀ d ∈ own_flat narrow_1, d.value a0 Z none Z [] = some true) : Sta Z Z.heap "com/example/concordat/concordat/shop/Counter" "WALLET" "Lcom/example/concordat/concordat/shop/Counter;" (.ref (w4_WALLET Z)) := Sta.start (ev_w4_WALLET hw hA) (Or.inr ⟨(hw _ (List.mem_of_getElem? (i := 10) rfl)), (hw _ (List.mem_of_getElem? (i := 39) rfl))⟩)
theorem d1_0 : decode method_2_code 0 = .ok (.iload_n 0, 1) := by decide +kernel
theorem d1_1 : decode method_2_code 1 = .ok (.ldc 7, 2) := by decide +kernel
theorem d1_3 : decode method_2_code 3 = .ok (.iand, 1) := by decide +kernel
theorem d1_4 : decode method_2_code 4 = .ok (.iconst 5, 1) := by decide +kernel
theorem d1_5 : decode method_2_code 5 = .ok (.irem, 1) := by decide +kernel
theorem d1_6 : decode method_2_code 6 = .ok (.istore_n 1, 1) := by decide +kernel
theorem d1_7 : decode method_2_code 7 = .ok (.iload_n 1, 1) := by decide +kernel
theorem d1_8 : decode method_2_code 8 = .ok (.ifCond .ne 7, 3) := by decide +kernel
theorem d1_11 : decode method_2_code 11 = .ok (.getstatic 8, 3) := by decide +kernel
theorem d1_14 : decode method_2_code 14 = .ok (.areturn, 1) := by decide +kernel
theorem d1_15 : decode method_2_code 15 = .ok (.iload_n 1, 1) := by decide +kernel
theorem d1_16 : decode method_2_code 16 = .ok (.iconst 1, 1) := by decide +kernel
theorem d1_17 : decode method_2_code 17 = .ok (.if_icmp .ne 7, 3) := by decide +kernel
theorem d1_20 : decode method_2_code 20 = .ok (.getstatic 14, 3) := by decide +kernel
theorem d1_23 : decode method_2_code 23 = .ok (.areturn, 1) := by decide +kernel
theorem d1_24 : decode method_2_code 24 = .ok (.iload_n 1, 1) := by decide +kernel
theorem d1_25 : decode method_2_code 25 = .ok (.iconst 2, 1) := by decide +kernel
theorem d1_26 : decode method_2_code 26 = .ok (.if_icmp .ne 7, 3) := by decide +kernel
theorem d1_29 : decode method_2_code 29 = .ok (.getstatic 17, 3) := by decide +kernel
theorem d1_32 : decode method_2_code 32 = .ok (.areturn, 1) := by decide +kernel
theorem d1_33 : decode method_2_code 33 = .ok (.iload_n 1, 1) := by decide +kernel
theorem d1_34 : decode method_2_code 34 = .ok (.iconst 3, 1) := by decide +kernel
theorem d1_35 : decode method_2_code 35 = .ok (.if_icmp .ne 7, 3) := by decide +kernel
theorem d1_38 : decode method_2_code 38 = .ok (.getstatic 20, 3) := by decide +kernel
theorem d1_41 : decode method_2_code 41 = .ok (.areturn, 1) := by decide +kernel
theorem d1_42 : decode method_2_code 42 = .ok (.getstatic 23, 3) := by decide +kernel
theorem d1_45 : decode method_2_code 45 = .ok (.areturn, 1) := by decide +kernel
theorem pn0 : plainName "com/example/concordat/concordat/shop/DeltaLowestPinLaw" = true := by first | (simp [plainName, overriddenIn]; done) | decide +kernel
theorem pd1 : parseMethodDescriptor "(I)Lcom/example/concordat/concordat/shop/Counter;" = some ⟨[.int], some (.object "com/example/concordat/concordat/shop/Counter")⟩ := by decide +kernel
theorem d2_0 : decode prog_80_method_1_code 0 = .ok (.aload_n 0, 1) := by decide +kernel
theorem d2_1 : decode prog_80_method_1_code 1 = .ok (.invokespecial 1, 3) := by decide +kernel
theorem d3_0 : decode jdk_30_method_1_code 0 = .ok (.aload_n 0, 1) := by decide +kernel
theorem d3_1 : decode jdk_30_method_1_code 1 = .ok (.invokespecial 1, 3) := by decide +kernel
theorem d3_4 : decode jdk_30_method_1_code 4 = .ok (.return_, 1) := by decide +kernel
theorem pn2 : plainName "java/lang/Record" = true := by first | (simp [plainName, overriddenIn]; done) | decide +kernel
theorem pd3 : parseMethodDescriptor "()V" = some ⟨[], none⟩ := by decide +kernel
theorem d2_4 : decode prog_80_method_1_code 4 = .ok (.aload_n 0, 1) := by decide +kernel
theorem d2_5 : decode prog_80_method_1_code 5 = .ok (.aload_n 1, 1) := by decide +kernel
theorem d2_6 : decode prog_80_method_1_code 6 = .ok (.putfield 7, 3) := by decide +kernel
theorem d2_9 : decode prog_80_method_1_code 9 = .ok (.aload_n 0, 1) := by decide +kernel
theorem d2_10 : decode prog_80_method_1_code 10 = .ok (.lload_n 2, 1) := by decide +kernel
theorem d2_11 : decode prog_80_method_1_code 11 = .ok (.putfield 13, 3) := by decide +kernel
theorem d2_14 : decode prog_80_method_1_code 14 = .ok (.return_, 1) := by decide +kernel
theorem pn4 : plainName "com/example/concordat/concordat/shop/Change$Delta" = true := by first | (simp [plainName, overriddenIn]; done) | decide +kernel
theorem pd5 : parseMethodDescriptor "(Lcom/example/concordat/concordat/shop/Counter;J)V" = some ⟨[(.object "com/example/concordat/concordat/shop/Counter"), .long], none⟩ := by decide +kernel
theorem d5_0 : decode prog_80_method_2_code 0 = .ok (.aload_n 0, 1) := by decide +kernel
theorem d5_1 : decode prog_80_method_2_code 1 = .ok (.getfield 13, 3) := by decide +kernel
theorem d5_4 : decode prog_80_method_2_code 4 = .ok (.lconst 0, 1) := by decide +kernel
theorem d5_5 : decode prog_80_method_2_code 5 = .ok (.lcmp, 1) := by decide +kernel
theorem d5_6 : decode prog_80_method_2_code 6 = .ok (.ifCond .ge 11, 3) := by decide +kernel
theorem d5_9 : decode prog_80_method_2_code 9 = .ok (.aload_n 0, 1) := by decide +kernel
theorem d5_10 : decode prog_80_method_2_code 10 = .ok (.getfield 13, 3) := by decide +kernel
theorem d5_13 : decode prog_80_method_2_code 13 = .ok (.lneg, 1) := by decide +kernel
theorem d5_14 : decode prog_80_method_2_code 14 = .ok (.goto 4, 3) := by decide +kernel
theorem d5_18 : decode prog_80_method_2_code 18 = .ok (.lreturn, 1) := by decide +kernel
theorem d5_17 : decode prog_80_method_2_code 17 = .ok (.lconst 0, 1) := by decide +kernel
theorem pd6 : parseMethodDescriptor "()J" = some ⟨[], some .long⟩ := by decide +kernel
set_option maxRecDepth 65536 in
set_option maxHeartbeats 40000000 in
theorem rm1_0 (l : Launch) (Z : State) (a0 : Array Value) (hw : ∀ d ∈ tables_1, d.before a0 Z = true) (hA : ∀ d ∈ own_flat narrow_1, d.value a0 Z none Z [] = some true) (ws : List Jvm.Cond) (i1 : Int32) (h0 : Heap) (n0 : Nat) (O0 : Old Z n0 h0) :
    own_Met l Z (⟨"com/example/concordat/concordat/shop/DeltaLowestPinLaw", "pick", "(I)Lcom/example/concordat/concordat/shop/Counter;"⟩ : MethodName) (Jvm.Cond.code (⟨"com/example/concordat/concordat/shop/DeltaLowestPinLaw", "pick", "(I)Lcom/example/concordat/concordat/shop/Counter;"⟩ : MethodName) method_2_code 2 (some (.object "com/example/concordat/concordat/shop/Counter"))) ws ({ frames := 0, cells := 0, slots := 0, locals := 0 } : Room) #[(.int i1)] h0 (fun v h L => (v = some (.ref (w4_WALLET Z)) ∧ Fr n0 L ∧ h = h0) ∨ (v = some (.ref (w3_BAG Z)) ∧ Fr n0 L ∧ h = h0) ∨ (v = some (.ref (w0_STOCK Z)) ∧ Fr n0 L ∧ h = h0) ∨ (v = some (.ref (w2_WALLET_FROZEN Z)) ∧ Fr n0 L ∧ h = h0) ∨ (v = some (.ref (w1_STOCK_FROZEN Z)) ∧ Fr n0 L ∧ h = h0)) := by
  refine own_met (own := "com/example/concordat/concordat/shop/DeltaLowestPinLaw") (plainFor_of_name pn0) rfl ?_
  intro p e s m below meth c s₁ hx hby hml hown hnm hret hlk hZ e0 X0
  refine own_cast (g' := (mkF m 0 #[.val (.int i1), .unset] [])) (by first | (simp [entryFrame, mkF, argsToLocals, Value.category]; done) | rfl) ?_
  refine own_step (fun _ k => XS.iloadN X0.here hx rfl (hb hby d1_0) rfl k) ?_
  show own_Wp p e below _ s₁ (mkF m 1 #[.val (.int i1), .unset] [(.int i1)])
  refine own_step (X0.ldcInt hx hown (mvT hZ (hw _ (List.mem_of_getElem? (i := 8) rfl))) (g := (mkF m 1 #[.val (.int i1), .unset] [(.int i1)])) rfl (hb hby d1_1)) ?_
  show own_Wp p e below _ s₁ (mkF m 3 #[.val (.int i1), .unset] [(.int (2147483647 : Int32)), (.int i1)])
  refine own_step (fun _ k => XS.iand X0.here hx rfl (hb hby d1_3) rfl k) ?_
  show own_Wp p e below _ s₁ (mkF m 4 #[.val (.int i1), .unset] [(.int (i1 &&& (2147483647 : Int32)))])
  refine own_step (fun _ k => XS.iconst X0.here hx rfl (hb hby d1_4) k) ?_
  show own_Wp p e below _ s₁ (mkF m 5 #[.val (.int i1), .unset] [(.int (5 : Int32)), (.int (i1 &&& (2147483647 : Int32)))])
  refine own_step (fun _ k => iremM (g := (mkF m 5 #[.val (.int i1), .unset] [(.int (5 : Int32)), (.int (i1 &&& (2147483647 : Int32)))])) X0 hx rfl (hb hby d1_5) rfl (by decide) k) ?_
  show own_Wp p e below _ s₁ (mkF m 6 #[.val (.int i1), .unset] [(.int ((i1 &&& (2147483647 : Int32)) % (5 : Int32)))])
  rcases own_mod5 i1 with hm | hm | hm | hm | hm
  · skip
    rw [hm]
    show own_Wp p e below _ s₁ (mkF m 6 #[.val (.int i1), .unset] [(.int (0 : Int32))])
    refine own_step (fun _ k => XS.istoreN X0.here hx rfl (hb hby d1_6) rfl (l' := #[.val (.int i1), .val (.int (0 : Int32))]) rfl k) ?_
    show own_Wp p e below _ s₁ (mkF m 7 #[.val (.int i1), .val (.int (0 : Int32))] [])
    refine own_step (fun _ k => XS.iloadN X0.here hx rfl (hb hby d1_7) rfl k) ?_
    show own_Wp p e below _ s₁ (mkF m 8 #[.val (.int i1), .val (.int (0 : Int32))] [(.int (0 : Int32))])
    refine own_step (fun _ k => XS.ifNo X0.here hx rfl (hb hby d1_8) rfl (by decide) k) ?_
    show own_Wp p e below _ s₁ (mkF m 11 #[.val (.int i1), .val (.int (0 : Int32))] [])
    obtain ⟨T1, X1, e1, st1⟩ := getS2 X0 hx hZ hown (host := "") (Or.inl (hw _ (List.mem_of_getElem? (i := 38) rfl))) Via.refl e0 ((st_w4_WALLET hw hA).ext O0.2) (g := (mkF m 11 #[.val (.int i1), .val (.int (0 : Int32))] [])) rfl (hb hby d1_11)
    refine own_step st1 ?_
    show own_Wp p e below _ T1 (mkF m 14 #[.val (.int i1), .val (.int (0 : Int32))] [(.ref (w4_WALLET Z))])
    exact own_retA X1 hx hret rfl rfl hlk (hb hby d1_14) (by decide) (by decide) (by rw [e1]; exact Or.inl ⟨rfl, (Fr.nil n0), rfl⟩)
  · skip
    rw [hm]
    show own_Wp p e below _ s₁ (mkF m 6 #[.val (.int i1), .unset] [(.int (1 : Int32))])
    refine own_step (fun _ k => XS.istoreN X0.here hx rfl (hb hby d1_6) rfl (l' := #[.val (.int i1), .val (.int (1 : Int32))]) rfl k) ?_
    show own_Wp p e below _ s₁ (mkF m 7 #[.val (.int i1), .val (.int (1 : Int32))] [])
    refine own_step (fun _ k => XS.iloadN X0.here hx rfl (hb hby d1_7) rfl k) ?_
    show own_Wp p e below _ s₁ (mkF m 8 #[.val (.int i1), .val (.int (1 : Int32))] [(.int (1 : Int32))])
    refine own_step (fun _ k => XS.ifYes X0.here hx rfl (pc0 := 8) (pc' := 15) rfl (hb hby d1_8) rfl (by decide) (by decide) (by decide) k) ?_
    show own_Wp p e below _ s₁ (mkF m 15 #[.val (.int i1), .val (.int (1 : Int32))] [])
    refine own_step (fun _ k => XS.iloadN X0.here hx rfl (hb hby d1_15) rfl k) ?_
    show own_Wp p e below _ s₁ (mkF m 16 #[.val (.int i1), .val (.int (1 : Int32))] [(.int (1 : Int32))])
    refine own_step (fun _ k => XS.iconst X0.here hx rfl (hb hby d1_16) k) ?_
    show own_Wp p e below _ s₁ (mkF m 17 #[.val (.int i1), .val (.int (1 : Int32))] [(.int (1 : Int32)), (.int (1 : Int32))])
    refine own_step (fun _ k => XS.icmpNo X0.here hx rfl (hb hby d1_17) rfl (by decide) k) ?_
    show own_Wp p e below _ s₁ (mkF m 20 #[.val (.int i1), .val (.int (1 : Int32))] [])
    obtain ⟨T2, X2, e2, st2⟩ := getS2 X0 hx hZ hown (host := "") (Or.inl (hw _ (List.mem_of_getElem? (i := 36) rfl))) Via.refl e0 ((st_w3_BAG hw hA).ext O0.2) (g := (mkF m 20 #[.val (.int i1), .val (.int (1 : Int32))] [])) rfl (hb hby d1_20)
    refine own_step st2 ?_
    show own_Wp p e below _ T2 (mkF m 23 #[.val (.int i1), .val (.int (1 : Int32))] [(.ref (w3_BAG Z))])
    exact own_retA X2 hx hret rfl rfl hlk (hb hby d1_23) (by decide) (by decide) (by rw [e2]; exact Or.inr (Or.inl ⟨rfl, (Fr.nil n0), rfl⟩))
  · skip
    rw [hm]
    show own_Wp p e below _ s₁ (mkF m 6 #[.val (.int i1), .unset] [(.int (2 : Int32))])
    refine own_step (fun _ k => XS.istoreN X0.here hx rfl (hb hby d1_6) rfl (l' := #[.val (.int i1), .val (.int (2 : Int32))]) rfl k) ?_
    show own_Wp p e below _ s₁ (mkF m 7 #[.val (.int i1), .val (.int (2 : Int32))] [])
    refine own_step (fun _ k => XS.iloadN X0.here hx rfl (hb hby d1_7) rfl k) ?_
    show own_Wp p e below _ s₁ (mkF m 8 #[.val (.int i1), .val (.int (2 : Int32))] [(.int (2 : Int32))])
    refine own_step (fun _ k => XS.ifYes X0.here hx rfl (pc0 := 8) (pc' := 15) rfl (hb hby d1_8) rfl (by decide) (by decide) (by decide) k) ?_
    show own_Wp p e below _ s₁ (mkF m 15 #[.val (.int i1), .val (.int (2 : Int32))] [])
    refine own_step (fun _ k => XS.iloadN X0.here hx rfl (hb hby d1_15) rfl k) ?_
    show own_Wp p e below _ s₁ (mkF m 16 #[.val (.int i1), .val (.int (2 : Int32))] [(.int (2 : Int32))])
    refine own_step (fun _ k => XS.iconst X0.here hx rfl (hb hby d1_16) k) ?_
    show own_Wp p e below _ s₁ (mkF m 17 #[.val (.int i1), .val (.int (2 : Int32))] [(.int (1 : Int32)), (.int (2 : Int32))])
    refine own_step (fun _ k => XS.icmpYes X0.here hx rfl (pc0 := 17) (pc' := 24) rfl (hb hby d1_17) rfl (by decide) (by decide) (by decide) k) ?_
    show own_Wp p e below _ s₁ (mkF m 24 #[.val (.int i1), .val (.int (2 : Int32))] [])
    refine own_step (fun _ k => XS.iloadN X0.here hx rfl (hb hby d1_24) rfl k) ?_
    show own_Wp p e below _ s₁ (mkF m 25 #[.val (.int i1), .val (.int (2 : Int32))] [(.int (2 : Int32))])
    refine own_step (fun _ k => XS.iconst X0.here hx rfl (hb hby d1_25) k) ?_
    show own_Wp p e below _ s₁ (mkF m 26 #[.val (.int i1), .val (.int (2 : Int32))] [(.int (2 : Int32)), (.int (2 : Int32))])
    refine own_step (fun _ k => XS.icmpNo X0.here hx rfl (hb hby d1_26) rfl (by decide) k) ?_
    show own_Wp p e below _ s₁ (mkF m 29 #[.val (.int i1), .val (.int (2 : Int32))] [])
    obtain ⟨T3, X3, e3, st3⟩ := getS2 X0 hx hZ hown (host := "") (Or.inl (hw _ (List.mem_of_getElem? (i := 9) rfl))) Via.refl e0 ((st_w0_STOCK hw hA).ext O0.2) (g := (mkF m 29 #[.val (.int i1), .val (.int (2 : Int32))] [])) rfl (hb hby d1_29)
    refine own_step st3 ?_
    show own_Wp p e below _ T3 (mkF m 32 #[.val (.int i1), .val (.int (2 : Int32))] [(.ref (w0_STOCK Z))])
    exact own_retA X3 hx hret rfl rfl hlk (hb hby d1_32) (by decide) (by decide) (by rw [e3]; exact Or.inr (Or.inr (Or.inl ⟨rfl, (Fr.nil n0), rfl⟩)))
  · skip
    rw [hm]
    show own_Wp p e below _ s₁ (mkF m 6 #[.val (.int i1), .unset] [(.int (3 : Int32))])
    refine own_step (fun _ k => XS.istoreN X0.here hx rfl (hb hby d1_6) rfl (l' := #[.val (.int i1), .val (.int (3 : Int32))]) rfl k) ?_
    show own_Wp p e below _ s₁ (mkF m 7 #[.val (.int i1), .val (.int (3 : Int32))] [])
    refine own_step (fun _ k => XS.iloadN X0.here hx rfl (hb hby d1_7) rfl k) ?_
    show own_Wp p e below _ s₁ (mkF m 8 #[.val (.int i1), .val (.int (3 : Int32))] [(.int (3 : Int32))])
    refine own_step (fun _ k => XS.ifYes X0.here hx rfl (pc0 := 8) (pc' := 15) rfl (hb hby d1_8) rfl (by decide) (by decide) (by decide) k) ?_
    show own_Wp p e below _ s₁ (mkF m 15 #[.val (.int i1), .val (.int (3 : Int32))] [])
    refine own_step (fun _ k => XS.iloadN X0.here hx rfl (hb hby d1_15) rfl k) ?_
    show own_Wp p e below _ s₁ (mkF m 16 #[.val (.int i1), .val (.int (3 : Int32))] [(.int (3 : Int32))])
    refine own_step (fun _ k => XS.iconst X0.here hx rfl (hb hby d1_16) k) ?_
    show own_Wp p e below _ s₁ (mkF m 17 #[.val (.int i1), .val (.int (3 : Int32))] [(.int (1 : Int32)), (.int (3 : Int32))])
    refine own_step (fun _ k => XS.icmpYes X0.here hx rfl (pc0 := 17) (pc' := 24) rfl (hb hby d1_17) rfl (by decide) (by decide) (by decide) k) ?_
    show own_Wp p e below _ s₁ (mkF m 24 #[.val (.int i1), .val (.int (3 : Int32))] [])
    refine own_step (fun _ k => XS.iloadN X0.here hx rfl (hb hby d1_24) rfl k) ?_
    show own_Wp p e below _ s₁ (mkF m 25 #[.val (.int i1), .val (.int (3 : Int32))] [(.int (3 : Int32))])
    refine own_step (fun _ k => XS.iconst X0.here hx rfl (hb hby d1_25) k) ?_
    show own_Wp p e below _ s₁ (mkF m 26 #[.val (.int i1), .val (.int (3 : Int32))] [(.int (2 : Int32)), (.int (3 : Int32))])
    refine own_step (fun _ k => XS.icmpYes X0.here hx rfl (pc0 := 26) (pc' := 33) rfl (hb hby d1_26) rfl (by decide) (by decide) (by decide) k) ?_
    show own_Wp p e below _ s₁ (mkF m 33 #[.val (.int i1), .val (.int (3 : Int32))] [])
    refine own_step (fun _ k => XS.iloadN X0.here hx rfl (hb hby d1_33) rfl k) ?_
    show own_Wp p e below _ s₁ (mkF m 34 #[.val (.int i1), .val (.int (3 : Int32))] [(.int (3 : Int32))])
    refine own_step (fun _ k => XS.iconst X0.here hx rfl (hb hby d1_34) k) ?_
    show own_Wp p e below _ s₁ (mkF m 35 #[.val (.int i1), .val (.int (3 : Int32))] [(.int (3 : Int32)), (.int (3 : Int32))])
    refine own_step (fun _ k => XS.icmpNo X0.here hx rfl (hb hby d1_35) rfl (by decide) k) ?_
    show own_Wp p e below _ s₁ (mkF m 38 #[.val (.int i1), .val (.int (3 : Int32))] [])
    obtain ⟨T4, X4, e4, st4⟩ := getS2 X0 hx hZ hown (host := "") (Or.inl (hw _ (List.mem_of_getElem? (i := 34) rfl))) Via.refl e0 ((st_w2_WALLET_FROZEN hw hA).ext O0.2) (g := (mkF m 38 #[.val (.int i1), .val (.int (3 : Int32))] [])) rfl (hb hby d1_38)
    refine own_step st4 ?_
    show own_Wp p e below _ T4 (mkF m 41 #[.val (.int i1), .val (.int (3 : Int32))] [(.ref (w2_WALLET_FROZEN Z))])
    exact own_retA X4 hx hret rfl rfl hlk (hb hby d1_41) (by decide) (by decide) (by rw [e4]; exact Or.inr (Or.inr (Or.inr (Or.inl ⟨rfl, (Fr.nil n0), rfl⟩))))
  · skip
    rw [hm]
    show own_Wp p e below _ s₁ (mkF m 6 #[.val (.int i1), .unset] [(.int (4 : Int32))])
    refine own_step (fun _ k => XS.istoreN X0.here hx rfl (hb hby d1_6) rfl (l' := #[.val (.int i1), .val (.int (4 : Int32))]) rfl k) ?_
    show own_Wp p e below _ s₁ (mkF m 7 #[.val (.int i1), .val (.int (4 : Int32))] [])
    refine own_step (fun _ k => XS.iloadN X0.here hx rfl (hb hby d1_7) rfl k) ?_
    show own_Wp p e below _ s₁ (mkF m 8 #[.val (.int i1), .val (.int (4 : Int32))] [(.int (4 : Int32))])
    refine own_step (fun _ k => XS.ifYes X0.here hx rfl (pc0 := 8) (pc' := 15) rfl (hb hby d1_8) rfl (by decide) (by decide) (by decide) k) ?_
    show own_Wp p e below _ s₁ (mkF m 15 #[.val (.int i1), .val (.int (4 : Int32))] [])
    refine own_step (fun _ k => XS.iloadN X0.here hx rfl (hb hby d1_15) rfl k) ?_
    show own_Wp p e below _ s₁ (mkF m 16 #[.val (.int i1), .val (.int (4 : Int32))] [(.int (4 : Int32))])
    refine own_step (fun _ k => XS.iconst X0.here hx rfl (hb hby d1_16) k) ?_
    show own_Wp p e below _ s₁ (mkF m 17 #[.val (.int i1), .val (.int (4 : Int32))] [(.int (1 : Int32)), (.int (4 : Int32))])
    refine own_step (fun _ k => XS.icmpYes X0.here hx rfl (pc0 := 17) (pc' := 24) rfl (hb hby d1_17) rfl (by decide) (by decide) (by decide) k) ?_
    show own_Wp p e below _ s₁ (mkF m 24 #[.val (.int i1), .val (.int (4 : Int32))] [])
    refine own_step (fun _ k => XS.iloadN X0.here hx rfl (hb hby d1_24) rfl k) ?_
    show own_Wp p e below _ s₁ (mkF m 25 #[.val (.int i1), .val (.int (4 : Int32))] [(.int (4 : Int32))])
    refine own_step (fun _ k => XS.iconst X0.here hx rfl (hb hby d1_25) k) ?_
    show own_Wp p e below _ s₁ (mkF m 26 #[.val (.int i1), .val (.int (4 : Int32))] [(.int (2 : Int32)), (.int (4 : Int32))])
    refine own_step (fun _ k => XS.icmpYes X0.here hx rfl (pc0 := 26) (pc' := 33) rfl (hb hby d1_26) rfl (by decide) (by decide) (by decide) k) ?_
    show own_Wp p e below _ s₁ (mkF m 33 #[.val (.int i1), .val (.int (4 : Int32))] [])
    refine own_step (fun _ k => XS.iloadN X0.here hx rfl (hb hby d1_33) rfl k) ?_
    show own_Wp p e below _ s₁ (mkF m 34 #[.val (.int i1), .val (.int (4 : Int32))] [(.int (4 : Int32))])
    refine own_step (fun _ k => XS.iconst X0.here hx rfl (hb hby d1_34) k) ?_
    show own_Wp p e below _ s₁ (mkF m 35 #[.val (.int i1), .val (.int (4 : Int32))] [(.int (3 : Int32)), (.int (4 : Int32))])
    refine own_step (fun _ k => XS.icmpYes X0.here hx rfl (pc0 := 35) (pc' := 42) rfl (hb hby d1_35) rfl (by decide) (by decide) (by decide) k) ?_
    show own_Wp p e below _ s₁ (mkF m 42 #[.val (.int i1), .val (.int (4 : Int32))] [])
    obtain ⟨T5, X5, e5, st5⟩ := getS2 X0 hx hZ hown (host := "") (Or.inl (hw _ (List.mem_of_getElem? (i := 32) rfl))) Via.refl e0 ((st_w1_STOCK_FROZEN hw hA).ext O0.2) (g := (mkF m 42 #[.val (.int i1), .val (.int (4 : Int32))] [])) rfl (hb hby d1_42)
    refine own_step st5 ?_
    show own_Wp p e below _ T5 (mkF m 45 #[.val (.int i1), .val (.int (4 : Int32))] [(.ref (w1_STOCK_FROZEN Z))])
    exact own_retA X5 hx hret rfl rfl hlk (hb hby d1_45) (by decide) (by decide) (by rw [e5]; exact Or.inr (Or.inr (Or.inr (Or.inr (⟨rfl, (Fr.nil n0), rfl⟩)))))

set_option maxRecDepth 65536 in
set_option maxHeartbeats 40000000 in
theorem rm3_1 (l : Launch) (Z : State) (a0 : Array Value) (hw : ∀ d ∈ tables_1, d.before a0 Z = true) (hA : ∀ d ∈ own_flat narrow_1, d.value a0 Z none Z [] = some true) (ws : List Jvm.Cond) (x1 : Addr) (h0 : Heap) (n0 : Nat) (O0 : Old Z n0 h0) :
    own_Met l Z (⟨"java/lang/Record", "<init>", "()V"⟩ : MethodName) (Jvm.Cond.code (⟨"java/lang/Record", "<init>", "()V"⟩ : MethodName) jdk_30_method_1_code 1 none) ws ({ frames := 1, cells := 0, slots := 0, locals := 12 } : Room) #[(.ref x1)] h0 (fun v h L => (v = none ∧ Fr n0 L ∧ h = h0)) := by
  refine own_met (own := "java/lang/Record") (plainFor_of_name pn2) rfl ?_
  intro p e s m below meth c s₁ hx hby hml hown hnm hret hlk hZ e0 X0
  refine own_cast (g' := (mkF m 0 #[.val (.ref x1)] [])) (by first | (simp [entryFrame, mkF, argsToLocals, Value.category]; done) | rfl) ?_
  refine own_step (fun _ k => XS.aloadN X0.here hx rfl (hb hby d3_0) rfl rfl k) ?_
  show own_Wp p e below _ s₁ (mkF m 1 #[.val (.ref x1)] [(.ref x1)])
  obtain ⟨T1, X1, e1, st1⟩ := initO X0 hx hZ hown (hw _ (List.mem_of_getElem? (i := 20) rfl)) (hw _ (List.mem_of_getElem? (i := 21) rfl)) (hw _ (List.mem_of_getElem? (i := 22) rfl)) e0 (g := (mkF m 1 #[.val (.ref x1)] [(.ref x1)])) rfl (by rw [hml]; rfl) rfl (hb hby d3_1) (by decide) (W := 0) (by show 2 * 0 + _ ≤ _; exact Nat.le_of_eq rfl) (by decide)
  refine own_step st1 ?_
  show own_Wp p e below _ T1 (mkF m 4 #[.val (.ref x1)] [])
  exact own_retV X1 hx hret hlk (hb hby d3_4) (by decide) (by decide) (by rw [e1]; exact ⟨rfl, (Fr.nil n0), rfl⟩)

set_option maxRecDepth 65536 in
set_option maxHeartbeats 40000000 in
theorem rm2_2 (l : Launch) (Z : State) (a0 : Array Value) (hw : ∀ d ∈ tables_1, d.before a0 Z = true) (hA : ∀ d ∈ own_flat narrow_1, d.value a0 Z none Z [] = some true) (ws : List Jvm.Cond) (x1 : Addr) (x2 : Addr) (j1 : Int64) (h0 : Heap) (n0 : Nat) (O0 : Old Z n0 h0) (P0 : Exa Z h0 x1 "com/example/concordat/concordat/shop/Change$Delta") (P1 : Fld Z h0 x1 "com/example/concordat/concordat/shop/Change$Delta" "counter" "Lcom/example/concordat/concordat/shop/Counter;" .null) (P2 : Fld Z h0 x1 "com/example/concordat/concordat/shop/Change$Delta" "amount" "J" (.long (0 : Int64))) (G3 : n0 ≤ x1) :
    own_Met l Z (⟨"com/example/concordat/concordat/shop/Change$Delta", "<init>", "(Lcom/example/concordat/concordat/shop/Counter;J)V"⟩ : MethodName) (Jvm.Cond.code (⟨"com/example/concordat/concordat/shop/Change$Delta", "<init>", "(Lcom/example/concordat/concordat/shop/Counter;J)V"⟩ : MethodName) prog_80_method_1_code 4 none) ws ({ frames := 2, cells := 0, slots := 0, locals := 24 } : Room) #[(.ref x1), (.ref x2), (.long j1)] h0 (fun v h L => (v = none ∧ Fr n0 L ∧ Keep h0 h [x1] ∧ Exa Z h x1 "com/example/concordat/concordat/shop/Change$Delta" ∧ Fld Z h x1 "com/example/concordat/concordat/shop/Change$Delta" "counter" "Lcom/example/concordat/concordat/shop/Counter;" (.ref x2) ∧ Fld Z h x1 "com/example/concordat/concordat/shop/Change$Delta" "amount" "J" (.long j1))) := by
  refine own_met (own := "com/example/concordat/concordat/shop/Change$Delta") (plainFor_of_name pn4) rfl ?_
  intro p e s m below meth c s₁ hx hby hml hown hnm hret hlk hZ e0 X0
  refine own_cast (g' := (mkF m 0 #[.val (.ref x1), .val (.ref x2), .val (.long j1), .second] [])) (by first | (simp [entryFrame, mkF, argsToLocals, Value.category]; done) | rfl) ?_
  refine own_step (fun _ k => XS.aloadN X0.here hx rfl (hb hby d2_0) rfl rfl k) ?_
  show own_Wp p e below _ s₁ (mkF m 1 #[.val (.ref x1), .val (.ref x2), .val (.long j1), .second] [(.ref x1)])
  obtain ⟨_, T1, L1, X1, hQ1, st1⟩ := own_callN X0 hx hZ rfl hown (hw _ (List.mem_of_getElem? (i := 15) rfl)) (hw _ (List.mem_of_getElem? (i := 16) rfl)) (hw _ (List.mem_of_getElem? (i := 18) rfl)) (hw _ (List.mem_of_getElem? (i := 19) rfl)) (by decide) (rm3_1 l Z a0 hw hA [] x1 h0 n0 O0) (b := x1) (W := 0) (by decide) (by decide) [] rfl (lenOf pd3 rfl) (Ls := #[.val (.ref x1), .val (.ref x2), .val (.long j1), .second]) (by rw [hml]; rfl) (rest := []) (Nat.le_of_eq rfl) (hb hby d2_1) e0 (by decide) (by decide)
  refine st1 _ ?_
  obtain ⟨rfl, N1q, e1⟩ := hQ1
  have N1 := Fr.app (Fr.nil n0) N1q
  show own_Wp p e below _ T1 (mkF m 4 #[.val (.ref x1), .val (.ref x2), .val (.long j1), .second] [])
  refine own_step (fun _ k => XS.aloadN X1.here hx rfl (hb hby d2_4) rfl rfl k) ?_
  show own_Wp p e below _ T1 (mkF m 5 #[.val (.ref x1), .val (.ref x2), .val (.long j1), .second] [(.ref x1)])
  refine own_step (fun _ k => XS.aloadN X1.here hx rfl (hb hby d2_5) rfl rfl k) ?_
  show own_Wp p e below _ T1 (mkF m 6 #[.val (.ref x1), .val (.ref x2), .val (.long j1), .second] [(.ref x2), (.ref x1)])
  obtain ⟨T2, h2, X2, e2, W2, st2⟩ := putF X1 hx hZ hown (host := "") (Or.inl (hw _ (List.mem_of_getElem? (i := 23) rfl))) Via.refl e1 P1 P0 (Or.inr ⟨(hw _ (List.mem_of_getElem? (i := 24) rfl)), rfl, hnm⟩) (hw _ (List.mem_of_getElem? (i := 2) rfl)) (ty := (.object "com/example/concordat/concordat/shop/Counter")) (by decide) rfl rfl (g := (mkF m 6 #[.val (.ref x1), .val (.ref x2), .val (.long j1), .second] [(.ref x2), (.ref x1)])) rfl rfl (hb hby d2_6)
  refine own_step st2 ?_
  have N2 := Fr.snoc X2 N1 G3
  have O2 := O0.wr W2 G3
  have K2 : Keep h0 h2 [x1] := (Keep.refl h0 [x1]).wr W2 (Or.inl (by simp))
  have Fw2 := P1.same W2
  show own_Wp p e below _ T2 (mkF m 9 #[.val (.ref x1), .val (.ref x2), .val (.long j1), .second] [])
  refine own_step (fun _ k => XS.aloadN X2.here hx rfl (hb hby d2_9) rfl rfl k) ?_
  show own_Wp p e below _ T2 (mkF m 10 #[.val (.ref x1), .val (.ref x2), .val (.long j1), .second] [(.ref x1)])
  refine own_step (fun _ k => XS.lloadN X2.here hx rfl (hb hby d2_10) rfl k) ?_
  show own_Wp p e below _ T2 (mkF m 11 #[.val (.ref x1), .val (.ref x2), .val (.long j1), .second] [(.long j1), (.ref x1)])
  have f3 := (P2.other W2 (Or.inr (slot_ne (Or.inr (hw _ (List.mem_of_getElem? (i := 26) rfl))) (Or.inr (hw _ (List.mem_of_getElem? (i := 24) rfl))) (by decide) (t := .long) (t' := (.object "com/example/concordat/concordat/shop/Counter")) (by decide) (by decide))))
  have f4 := (P0.wr W2)
  obtain ⟨T5, h5, X5, e5, W5, st5⟩ := putF X2 hx hZ hown (host := "") (Or.inl (hw _ (List.mem_of_getElem? (i := 25) rfl))) Via.refl e2 f3 f4 (Or.inr ⟨(hw _ (List.mem_of_getElem? (i := 26) rfl)), rfl, hnm⟩) (hw _ (List.mem_of_getElem? (i := 2) rfl)) (ty := .long) (by decide) rfl rfl (g := (mkF m 11 #[.val (.ref x1), .val (.ref x2), .val (.long j1), .second] [(.long j1), (.ref x1)])) rfl rfl (hb hby d2_11)
  refine own_step st5 ?_
  have N5 := Fr.snoc X5 N2 G3
  have O5 := O2.wr W5 G3
  have K5 : Keep h0 h5 [x1] := K2.wr W5 (Or.inl (by simp))
  have Fw5 := f3.same W5
  show own_Wp p e below _ T5 (mkF m 14 #[.val (.ref x1), .val (.ref x2), .val (.long j1), .second] [])
  have f6 := (f4.wr W5)
  have f7 := (Fw2.other W5 (Or.inr (slot_ne (Or.inr (hw _ (List.mem_of_getElem? (i := 24) rfl))) (Or.inr (hw _ (List.mem_of_getElem? (i := 26) rfl))) (by decide) (t := (.object "com/example/concordat/concordat/shop/Counter")) (t' := .long) (by decide) (by decide))))
  exact own_retV X5 hx hret hlk (hb hby d2_14) (by decide) (by decide) (by rw [e5]; exact ⟨rfl, N5, K5, f6, f7, Fw5⟩)

set_option maxRecDepth 65536 in
set_option maxHeartbeats 40000000 in
theorem rm5_3 (l : Launch) (Z : State) (a0 : Array Value) (hw : ∀ d ∈ tables_1, d.before a0 Z = true) (hA : ∀ d ∈ own_flat narrow_1, d.value a0 Z none Z [] = some true) (ws : List Jvm.Cond) (x1 : Addr) (j1 : Int64) (h0 : Heap) (n0 : Nat) (O0 : Old Z n0 h0) (P2 : Fld Z h0 x1 "com/example/concordat/concordat/shop/Change$Delta" "amount" "J" (.long j1)) :
    own_Met l Z (⟨"com/example/concordat/concordat/shop/Change$Delta", "lowest", "()J"⟩ : MethodName) (Jvm.Cond.code (⟨"com/example/concordat/concordat/shop/Change$Delta", "lowest", "()J"⟩ : MethodName) prog_80_method_2_code 1 (some .long)) ws ({ frames := 0, cells := 0, slots := 0, locals := 0 } : Room) #[(.ref x1)] h0 (fun v h L => (j1 < (0 : Int64) ∧ v = some (.long (-j1)) ∧ Fr n0 L ∧ h = h0) ∨ (¬ (j1 < (0 : Int64)) ∧ v = some (.long (0 : Int64)) ∧ Fr n0 L ∧ h = h0)) := by
  refine own_met (own := "com/example/concordat/concordat/shop/Change$Delta") (plainFor_of_name pn4) rfl ?_
  intro p e s m below meth c s₁ hx hby hml hown hnm hret hlk hZ e0 X0
  refine own_cast (g' := (mkF m 0 #[.val (.ref x1)] [])) (by first | (simp [entryFrame, mkF, argsToLocals, Value.category]; done) | rfl) ?_
  refine own_step (fun _ k => XS.aloadN X0.here hx rfl (hb hby d5_0) rfl rfl k) ?_
  show own_Wp p e below _ s₁ (mkF m 1 #[.val (.ref x1)] [(.ref x1)])
  obtain ⟨T1, X1, e1, st1⟩ := getF X0 hx hZ hown (host := "") (Or.inl (hw _ (List.mem_of_getElem? (i := 25) rfl))) Via.refl e0 P2 (g := (mkF m 1 #[.val (.ref x1)] [(.ref x1)])) rfl rfl (hb hby d5_1)
  refine own_step st1 ?_
  show own_Wp p e below _ T1 (mkF m 4 #[.val (.ref x1)] [(.long j1)])
  refine own_step (fun _ k => XS.lconst X1.here hx rfl (hb hby d5_4) k) ?_
  show own_Wp p e below _ T1 (mkF m 5 #[.val (.ref x1)] [(.long (0 : Int64)), (.long j1)])
  refine own_step (fun _ k => XS.lcmp X1.here hx rfl (hb hby d5_5) rfl k) ?_
  show own_Wp p e below _ T1 (mkF m 6 #[.val (.ref x1)] [(.int (lcmpW j1 (0 : Int64)))])
  by_cases hc3 : j1 < (0 : Int64)
  · skip
    refine own_step (fun _ k => XS.ifNo X1.here hx rfl (hb hby d5_6) rfl (own_lcgeN hc3) k) ?_
    show own_Wp p e below _ T1 (mkF m 9 #[.val (.ref x1)] [])
    refine own_step (fun _ k => XS.aloadN X1.here hx rfl (hb hby d5_9) rfl rfl k) ?_
    show own_Wp p e below _ T1 (mkF m 10 #[.val (.ref x1)] [(.ref x1)])
    obtain ⟨T4, X4, e4, st4⟩ := getF X1 hx hZ hown (host := "") (Or.inl (hw _ (List.mem_of_getElem? (i := 25) rfl))) Via.refl e1 P2 (g := (mkF m 10 #[.val (.ref x1)] [(.ref x1)])) rfl rfl (hb hby d5_10)
    refine own_step st4 ?_
    show own_Wp p e below _ T4 (mkF m 13 #[.val (.ref x1)] [(.long j1)])
    refine own_step (fun _ k => XS.lneg X4.here hx rfl (hb hby d5_13) rfl k) ?_
    show own_Wp p e below _ T4 (mkF m 14 #[.val (.ref x1)] [(.long (-j1))])
    refine own_step (fun _ k => XS.goto X4.here hx rfl (pc0 := 14) (pc' := 18) rfl (hb hby d5_14) (by decide) (by decide) k) ?_
    show own_Wp p e below _ T4 (mkF m 18 #[.val (.ref x1)] [(.long (-j1))])
    exact own_retJ X4 hx hret hlk (hb hby d5_18) (by decide) (by decide) (by rw [e4]; exact Or.inl ⟨hc3, rfl, (Fr.nil n0), rfl⟩)
  · skip
    refine own_step (fun _ k => XS.ifYes X1.here hx rfl (pc0 := 6) (pc' := 17) rfl (hb hby d5_6) rfl (own_lcgeY hc3) (by decide) (by decide) k) ?_
    show own_Wp p e below _ T1 (mkF m 17 #[.val (.ref x1)] [])
    refine own_step (fun _ k => XS.lconst X1.here hx rfl (hb hby d5_17) k) ?_
    show own_Wp p e below _ T1 (mkF m 18 #[.val (.ref x1)] [(.long (0 : Int64))])
    exact own_retJ X1 hx hret hlk (hb hby d5_18) (by decide) (by decide) (by rw [e1]; exact Or.inr (⟨hc3, rfl, (Fr.nil n0), rfl⟩))

set_option maxRecDepth 65536 in
set_option maxHeartbeats 40000000 in
theorem rm0 (l : Launch) (Z : State) (a0 : Array Value) (hw : ∀ d ∈ tables_1, d.before a0 Z = true) (hA : ∀ d ∈ own_flat narrow_1, d.value a0 Z none Z [] = some true) (ws : List Jvm.Cond) (p0 : Int64) (p1 : Int32) (h0 : Heap) (n0 : Nat) (O0 : Old Z n0 h0) :
    own_Met l Z x (Jvm.Cond.code x code maxLocals ret) ws room_1 #[(.long p0), (.int p1)] h0 (fun v h L => v = some (.int (1 : Int32)) ∧ Fr n0 L) := by
  refine own_met (own := "com/example/concordat/concordat/shop/DeltaLowestPinLaw") (plainFor_of_name pn0) rfl ?_
  intro p e s m below meth c s₁ hx hby hml hown hnm hret hlk hZ e0 X0
  refine own_cast (g' := (mkF m 0 #[.val (.long p0), .second, .val (.int p1), .unset, .unset, .unset, .unset, .unset, .unset] [])) (by first | (simp [entryFrame, mkF, argsToLocals, Value.category, maxLocals]; done) | rfl) ?_
  show own_Wp p e below _ s₁ (mkF m 0 #[.val (.long p0), .second, .val (.int p1), .unset, .unset, .unset, .unset, .unset, .unset] [])
  refine own_step (fun _ k => XS.lloadN X0.here hx rfl (hb hby at_0) rfl k) ?_
  show own_Wp p e below _ s₁ (mkF m 1 #[.val (.long p0), .second, .val (.int p1), .unset, .unset, .unset, .unset, .unset, .unset] [(.long p0)])
  refine own_step (X0.ldc2Long hx hown (mvT hZ (hw _ (List.mem_of_getElem? (i := 0) rfl))) (g := (mkF m 1 #[.val (.long p0), .second, .val (.int p1), .unset, .unset, .unset, .unset, .unset, .unset] [(.long p0)])) rfl (hb hby at_1)) ?_
  show own_Wp p e below _ s₁ (mkF m 4 #[.val (.long p0), .second, .val (.int p1), .unset, .unset, .unset, .unset, .unset, .unset] [(.long (-9223372036854775808 : Int64)), (.long p0)])
  refine own_step (fun _ k => XS.lcmp X0.here hx rfl (hb hby at_4) rfl k) ?_
  show own_Wp p e below _ s₁ (mkF m 5 #[.val (.long p0), .second, .val (.int p1), .unset, .unset, .unset, .unset, .unset, .unset] [(.int (lcmpW p0 (-9223372036854775808 : Int64)))])
  by_cases hc2 : p0 = (-9223372036854775808 : Int64)
  · skip
    refine own_step (fun _ k => XS.ifNo X0.here hx rfl (hb hby at_5) rfl (own_lcneN hc2) k) ?_
    show own_Wp p e below _ s₁ (mkF m 8 #[.val (.long p0), .second, .val (.int p1), .unset, .unset, .unset, .unset, .unset, .unset] [])
    refine own_step (fun _ k => XS.iconst X0.here hx rfl (hb hby at_8) k) ?_
    show own_Wp p e below _ s₁ (mkF m 9 #[.val (.long p0), .second, .val (.int p1), .unset, .unset, .unset, .unset, .unset, .unset] [(.int (1 : Int32))])
    exact own_retN X0 hx (t := .boolean) hret (by simp) hlk (hb hby at_9) (by decide) (by decide) ⟨rfl, (Fr.nil n0)⟩
  · skip
    refine own_step (fun _ k => XS.ifYes X0.here hx rfl (pc0 := 5) (pc' := 10) rfl (hb hby at_5) rfl (own_lcneY hc2) (by decide) (by decide) k) ?_
    show own_Wp p e below _ s₁ (mkF m 10 #[.val (.long p0), .second, .val (.int p1), .unset, .unset, .unset, .unset, .unset, .unset] [])
    obtain ⟨T3, h3, X3, e3, E3, A3, D3, -, st3⟩ := newO X0 hx hZ hown (hw _ (List.mem_of_getElem? (i := 1) rfl)) (hw _ (List.mem_of_getElem? (i := 2) rfl)) (hw _ (List.mem_of_getElem? (i := 3) rfl)) e0 (g := (mkF m 10 #[.val (.long p0), .second, .val (.int p1), .unset, .unset, .unset, .unset, .unset, .unset] [])) rfl (hb hby at_10) (by decide) (by decide)
    obtain ⟨b3, z3⟩ : ∃ z, z = h0.size := ⟨_, rfl⟩
    rw [← z3] at A3 D3 st3
    refine own_step st3 ?_
    have g3 : n0 ≤ b3 := Nat.le_trans (O0.1 ▸ O0.2.1) (Nat.le_of_eq z3.symm)
    have y3 : h0.size ≤ b3 := Nat.le_trans (Nat.le_refl _) (Nat.le_of_eq z3.symm)
    have O3 := O0.ext E3
    have K3 : Keep h0 h3 [] := (Keep.refl h0 []).ext E3
    have F3_24 : Fld Z h3 b3 "com/example/concordat/concordat/shop/Change$Delta" "counter" "Lcom/example/concordat/concordat/shop/Counter;" .null := D3 (Or.inr (hw _ (List.mem_of_getElem? (i := 24) rfl))) (ty := (.object "com/example/concordat/concordat/shop/Counter")) (by decide)
    have F3_26 : Fld Z h3 b3 "com/example/concordat/concordat/shop/Change$Delta" "amount" "J" (.long (0 : Int64)) := D3 (Or.inr (hw _ (List.mem_of_getElem? (i := 26) rfl))) (ty := .long) (by decide)
    show own_Wp p e below _ T3 (mkF m 13 #[.val (.long p0), .second, .val (.int p1), .unset, .unset, .unset, .unset, .unset, .unset] [(.ref b3)])
    refine own_step (fun _ k => XS.dup X3.here hx rfl (hb hby at_13) rfl rfl k) ?_
    show own_Wp p e below _ T3 (mkF m 14 #[.val (.long p0), .second, .val (.int p1), .unset, .unset, .unset, .unset, .unset, .unset] [(.ref b3), (.ref b3)])
    refine own_step (fun _ k => XS.iloadN X3.here hx rfl (hb hby at_14) rfl k) ?_
    show own_Wp p e below _ T3 (mkF m 15 #[.val (.long p0), .second, .val (.int p1), .unset, .unset, .unset, .unset, .unset, .unset] [(.int p1), (.ref b3), (.ref b3)])
    obtain ⟨_, T4, L4, X4, hQ4, st4⟩ := own_callS X3 hx hZ hown (hw _ (List.mem_of_getElem? (i := 4) rfl)) (hw _ (List.mem_of_getElem? (i := 5) rfl)) (hw _ (List.mem_of_getElem? (i := 6) rfl)) (hw _ (List.mem_of_getElem? (i := 7) rfl)) (by decide) (rm1_0 l Z a0 hw hA [] p1 h3 n0 O3) (W := 2) (by decide) (by decide) [(.int p1)] rfl (lenOf pd1 rfl) (Ls := #[.val (.long p0), .second, .val (.int p1), .unset, .unset, .unset, .unset, .unset, .unset]) (by rw [hml]; rfl) (rest := [(.ref b3), (.ref b3)]) (Nat.le_of_eq rfl) (hb hby at_15) e3 (by decide) (by decide)
    refine st4 _ ?_
    rcases hQ4 with ⟨rfl, N4aq, e4a⟩ | ⟨rfl, N4bq, e4b⟩ | ⟨rfl, N4cq, e4c⟩ | ⟨rfl, N4dq, e4d⟩ | ⟨rfl, N4eq, e4e⟩
    · skip
      have N4a := Fr.app (Fr.nil n0) N4aq
      show own_Wp p e below _ T4 (mkF m 18 #[.val (.long p0), .second, .val (.int p1), .unset, .unset, .unset, .unset, .unset, .unset] [(.ref (w4_WALLET Z)), (.ref b3), (.ref b3)])
      refine own_step (fun _ k => XS.lloadN X4.here hx rfl (hb hby at_18) rfl k) ?_
      show own_Wp p e below _ T4 (mkF m 19 #[.val (.long p0), .second, .val (.int p1), .unset, .unset, .unset, .unset, .unset, .unset] [(.long p0), (.ref (w4_WALLET Z)), (.ref b3), (.ref b3)])
      obtain ⟨_, T5, L5, X5, hQ5, st5⟩ := own_callN X4 hx hZ rfl hown (hw _ (List.mem_of_getElem? (i := 12) rfl)) (hw _ (List.mem_of_getElem? (i := 13) rfl)) (hw _ (List.mem_of_getElem? (i := 3) rfl)) (hw _ (List.mem_of_getElem? (i := 14) rfl)) (by decide) (rm2_2 l Z a0 hw hA [] b3 (w4_WALLET Z) p0 h3 n0 O3 A3 F3_24 F3_26 g3) (b := b3) (W := 1) (by decide) (by decide) [(.ref (w4_WALLET Z)), (.long p0)] rfl (lenOf pd5 rfl) (Ls := #[.val (.long p0), .second, .val (.int p1), .unset, .unset, .unset, .unset, .unset, .unset]) (by rw [hml]; rfl) (rest := [(.ref b3)]) (Nat.le_of_eq rfl) (hb hby at_19) e4a (by decide) (by decide)
      refine st5 _ ?_
      obtain ⟨rfl, N5q, K5q, F5_0, F5_1, F5_2⟩ := hQ5
      have N5 := Fr.app N4a N5q
      have O5 := O3.keep K5q (allS g3 all0)
      have K5 : Keep h0 T5.heap [] := Keep.trans K3 K5q (allS (Or.inr y3) all0)
      show own_Wp p e below _ T5 (mkF m 22 #[.val (.long p0), .second, .val (.int p1), .unset, .unset, .unset, .unset, .unset, .unset] [(.ref b3)])
      refine own_step (fun _ k => XS.astoreN X5.here hx rfl (hb hby at_22) rfl rfl (l' := #[.val (.long p0), .second, .val (.int p1), .val (.ref b3), .unset, .unset, .unset, .unset, .unset]) rfl k) ?_
      show own_Wp p e below _ T5 (mkF m 23 #[.val (.long p0), .second, .val (.int p1), .val (.ref b3), .unset, .unset, .unset, .unset, .unset] [])
      refine own_step (fun _ k => XS.aloadN X5.here hx rfl (hb hby at_23) rfl rfl k) ?_
      show own_Wp p e below _ T5 (mkF m 24 #[.val (.long p0), .second, .val (.int p1), .val (.ref b3), .unset, .unset, .unset, .unset, .unset] [(.ref b3)])
      obtain ⟨_, T6, L6, X6, hQ6, st6⟩ := own_callV X5 hx hZ hown (hw _ (List.mem_of_getElem? (i := 27) rfl)) (hw _ (List.mem_of_getElem? (i := 28) rfl)) (notFace_of_selects (args := #[]) (mvT hZ (hw _ (List.mem_of_getElem? (i := 30) rfl)))) (hw _ (List.mem_of_getElem? (i := 30) rfl)) (hw _ (List.mem_of_getElem? (i := 29) rfl)) (hw _ (List.mem_of_getElem? (i := 3) rfl)) (hw _ (List.mem_of_getElem? (i := 31) rfl)) (by decide) F5_0 (rm5_3 l Z a0 hw hA [] b3 p0 T5.heap n0 O5 F5_2) (W := 0) (by decide) (by decide) [] rfl (lenOf pd6 rfl) (Ls := #[.val (.long p0), .second, .val (.int p1), .val (.ref b3), .unset, .unset, .unset, .unset, .unset]) (by rw [hml]; rfl) (rest := []) (Nat.le_of_eq rfl) (hb hby at_24) rfl (by decide) (by decide)
      refine st6 _ ?_
      rcases hQ6 with ⟨hq6a_0, rfl, N6aq, e6a⟩ | ⟨hq6b_0, rfl, N6bq, e6b⟩
      · skip
        have N6a := Fr.app N5 N6aq
        show own_Wp p e below _ T6 (mkF m 27 #[.val (.long p0), .second, .val (.int p1), .val (.ref b3), .unset, .unset, .unset, .unset, .unset] [(.long (-p0))])
        refine own_step (fun _ k => XS.lstore X6.here hx rfl (hb hby at_27) rfl (l' := #[.val (.long p0), .second, .val (.int p1), .val (.ref b3), .val (.long (-p0)), .second, .unset, .unset, .unset]) rfl k) ?_
        show own_Wp p e below _ T6 (mkF m 29 #[.val (.long p0), .second, .val (.int p1), .val (.ref b3), .val (.long (-p0)), .second, .unset, .unset, .unset] [])
        refine own_step (fun _ k => XS.lload X6.here hx rfl (hb hby at_29) rfl k) ?_
        show own_Wp p e below _ T6 (mkF m 31 #[.val (.long p0), .second, .val (.int p1), .val (.ref b3), .val (.long (-p0)), .second, .unset, .unset, .unset] [(.long (-p0))])
        refine own_step (fun _ k => XS.lconst X6.here hx rfl (hb hby at_31) k) ?_
        show own_Wp p e below _ T6 (mkF m 32 #[.val (.long p0), .second, .val (.int p1), .val (.ref b3), .val (.long (-p0)), .second, .unset, .unset, .unset] [(.long (0 : Int64)), (.long (-p0))])
        refine own_step (fun _ k => XS.lcmp X6.here hx rfl (hb hby at_32) rfl k) ?_
        show own_Wp p e below _ T6 (mkF m 33 #[.val (.long p0), .second, .val (.int p1), .val (.ref b3), .val (.long (-p0)), .second, .unset, .unset, .unset] [(.int (lcmpW (-p0) (0 : Int64)))])
        refine own_step (fun _ k => XS.ifNo X6.here hx rfl (hb hby at_33) rfl (own_lcltN (own_lo1 hq6a_0 hc2)) k) ?_
        show own_Wp p e below _ T6 (mkF m 36 #[.val (.long p0), .second, .val (.int p1), .val (.ref b3), .val (.long (-p0)), .second, .unset, .unset, .unset] [])
        refine own_step (fun _ k => XS.iconst X6.here hx rfl (hb hby at_36) k) ?_
        show own_Wp p e below _ T6 (mkF m 37 #[.val (.long p0), .second, .val (.int p1), .val (.ref b3), .val (.long (-p0)), .second, .unset, .unset, .unset] [(.int (1 : Int32))])
        refine own_step (fun _ k => XS.goto X6.here hx rfl (pc0 := 37) (pc' := 41) rfl (hb hby at_37) (by decide) (by decide) k) ?_
        show own_Wp p e below _ T6 (mkF m 41 #[.val (.long p0), .second, .val (.int p1), .val (.ref b3), .val (.long (-p0)), .second, .unset, .unset, .unset] [(.int (1 : Int32))])
        refine own_step (fun _ k => XS.istore X6.here hx rfl (hb hby at_41) rfl (l' := #[.val (.long p0), .second, .val (.int p1), .val (.ref b3), .val (.long (-p0)), .second, .val (.int (1 : Int32)), .unset, .unset]) rfl k) ?_
        show own_Wp p e below _ T6 (mkF m 43 #[.val (.long p0), .second, .val (.int p1), .val (.ref b3), .val (.long (-p0)), .second, .val (.int (1 : Int32)), .unset, .unset] [])
        refine own_step (fun _ k => XS.lloadN X6.here hx rfl (hb hby at_43) rfl k) ?_
        show own_Wp p e below _ T6 (mkF m 44 #[.val (.long p0), .second, .val (.int p1), .val (.ref b3), .val (.long (-p0)), .second, .val (.int (1 : Int32)), .unset, .unset] [(.long p0)])
        refine own_step (fun _ k => XS.lconst X6.here hx rfl (hb hby at_44) k) ?_
        show own_Wp p e below _ T6 (mkF m 45 #[.val (.long p0), .second, .val (.int p1), .val (.ref b3), .val (.long (-p0)), .second, .val (.int (1 : Int32)), .unset, .unset] [(.long (0 : Int64)), (.long p0)])
        refine own_step (fun _ k => XS.lcmp X6.here hx rfl (hb hby at_45) rfl k) ?_
        show own_Wp p e below _ T6 (mkF m 46 #[.val (.long p0), .second, .val (.int p1), .val (.ref b3), .val (.long (-p0)), .second, .val (.int (1 : Int32)), .unset, .unset] [(.int (lcmpW p0 (0 : Int64)))])
        refine own_step (fun _ k => XS.ifNo X6.here hx rfl (hb hby at_46) rfl (own_lcgeN hq6a_0) k) ?_
        show own_Wp p e below _ T6 (mkF m 49 #[.val (.long p0), .second, .val (.int p1), .val (.ref b3), .val (.long (-p0)), .second, .val (.int (1 : Int32)), .unset, .unset] [])
        refine own_step (fun _ k => XS.lload X6.here hx rfl (hb hby at_49) rfl k) ?_
        show own_Wp p e below _ T6 (mkF m 51 #[.val (.long p0), .second, .val (.int p1), .val (.ref b3), .val (.long (-p0)), .second, .val (.int (1 : Int32)), .unset, .unset] [(.long (-p0))])
        refine own_step (fun _ k => XS.lloadN X6.here hx rfl (hb hby at_51) rfl k) ?_
        show own_Wp p e below _ T6 (mkF m 52 #[.val (.long p0), .second, .val (.int p1), .val (.ref b3), .val (.long (-p0)), .second, .val (.int (1 : Int32)), .unset, .unset] [(.long p0), (.long (-p0))])
        refine own_step (fun _ k => XS.lneg X6.here hx rfl (hb hby at_52) rfl k) ?_
        show own_Wp p e below _ T6 (mkF m 53 #[.val (.long p0), .second, .val (.int p1), .val (.ref b3), .val (.long (-p0)), .second, .val (.int (1 : Int32)), .unset, .unset] [(.long (-p0)), (.long (-p0))])
        refine own_step (fun _ k => XS.lcmp X6.here hx rfl (hb hby at_53) rfl k) ?_
        show own_Wp p e below _ T6 (mkF m 54 #[.val (.long p0), .second, .val (.int p1), .val (.ref b3), .val (.long (-p0)), .second, .val (.int (1 : Int32)), .unset, .unset] [(.int (lcmpW (-p0) (-p0)))])
        refine own_step (fun _ k => XS.ifNo X6.here hx rfl (hb hby at_54) rfl (own_lcltN (fun q => absurd q Int64.lt_irrefl)) k) ?_
        show own_Wp p e below _ T6 (mkF m 57 #[.val (.long p0), .second, .val (.int p1), .val (.ref b3), .val (.long (-p0)), .second, .val (.int (1 : Int32)), .unset, .unset] [])
        refine own_step (fun _ k => XS.iconst X6.here hx rfl (hb hby at_57) k) ?_
        show own_Wp p e below _ T6 (mkF m 58 #[.val (.long p0), .second, .val (.int p1), .val (.ref b3), .val (.long (-p0)), .second, .val (.int (1 : Int32)), .unset, .unset] [(.int (1 : Int32))])
        refine own_step (fun _ k => XS.goto X6.here hx rfl (pc0 := 58) (pc' := 62) rfl (hb hby at_58) (by decide) (by decide) k) ?_
        show own_Wp p e below _ T6 (mkF m 62 #[.val (.long p0), .second, .val (.int p1), .val (.ref b3), .val (.long (-p0)), .second, .val (.int (1 : Int32)), .unset, .unset] [(.int (1 : Int32))])
        refine own_step (fun _ k => XS.istore X6.here hx rfl (hb hby at_62) rfl (l' := #[.val (.long p0), .second, .val (.int p1), .val (.ref b3), .val (.long (-p0)), .second, .val (.int (1 : Int32)), .val (.int (1 : Int32)), .unset]) rfl k) ?_
        show own_Wp p e below _ T6 (mkF m 64 #[.val (.long p0), .second, .val (.int p1), .val (.ref b3), .val (.long (-p0)), .second, .val (.int (1 : Int32)), .val (.int (1 : Int32)), .unset] [])
        refine own_step (fun _ k => XS.lload X6.here hx rfl (hb hby at_64) rfl k) ?_
        show own_Wp p e below _ T6 (mkF m 66 #[.val (.long p0), .second, .val (.int p1), .val (.ref b3), .val (.long (-p0)), .second, .val (.int (1 : Int32)), .val (.int (1 : Int32)), .unset] [(.long (-p0))])
        refine own_step (fun _ k => XS.lconst X6.here hx rfl (hb hby at_66) k) ?_
        show own_Wp p e below _ T6 (mkF m 67 #[.val (.long p0), .second, .val (.int p1), .val (.ref b3), .val (.long (-p0)), .second, .val (.int (1 : Int32)), .val (.int (1 : Int32)), .unset] [(.long (0 : Int64)), (.long (-p0))])
        refine own_step (fun _ k => XS.lcmp X6.here hx rfl (hb hby at_67) rfl k) ?_
        show own_Wp p e below _ T6 (mkF m 68 #[.val (.long p0), .second, .val (.int p1), .val (.ref b3), .val (.long (-p0)), .second, .val (.int (1 : Int32)), .val (.int (1 : Int32)), .unset] [(.int (lcmpW (-p0) (0 : Int64)))])
        refine own_step (fun _ k => XS.ifNo X6.here hx rfl (hb hby at_68) rfl (own_lceqN (own_lo2 hq6a_0)) k) ?_
        show own_Wp p e below _ T6 (mkF m 71 #[.val (.long p0), .second, .val (.int p1), .val (.ref b3), .val (.long (-p0)), .second, .val (.int (1 : Int32)), .val (.int (1 : Int32)), .unset] [])
        refine own_step (fun _ k => XS.lloadN X6.here hx rfl (hb hby at_71) rfl k) ?_
        show own_Wp p e below _ T6 (mkF m 72 #[.val (.long p0), .second, .val (.int p1), .val (.ref b3), .val (.long (-p0)), .second, .val (.int (1 : Int32)), .val (.int (1 : Int32)), .unset] [(.long p0)])
        refine own_step (fun _ k => XS.lconst X6.here hx rfl (hb hby at_72) k) ?_
        show own_Wp p e below _ T6 (mkF m 73 #[.val (.long p0), .second, .val (.int p1), .val (.ref b3), .val (.long (-p0)), .second, .val (.int (1 : Int32)), .val (.int (1 : Int32)), .unset] [(.long (0 : Int64)), (.long p0)])
        refine own_step (fun _ k => XS.lcmp X6.here hx rfl (hb hby at_73) rfl k) ?_
        show own_Wp p e below _ T6 (mkF m 74 #[.val (.long p0), .second, .val (.int p1), .val (.ref b3), .val (.long (-p0)), .second, .val (.int (1 : Int32)), .val (.int (1 : Int32)), .unset] [(.int (lcmpW p0 (0 : Int64)))])
        refine own_step (fun _ k => XS.ifNo X6.here hx rfl (hb hby at_74) rfl (own_lcgeN hq6a_0) k) ?_
        show own_Wp p e below _ T6 (mkF m 77 #[.val (.long p0), .second, .val (.int p1), .val (.ref b3), .val (.long (-p0)), .second, .val (.int (1 : Int32)), .val (.int (1 : Int32)), .unset] [])
        refine own_step (fun _ k => XS.lload X6.here hx rfl (hb hby at_77) rfl k) ?_
        show own_Wp p e below _ T6 (mkF m 79 #[.val (.long p0), .second, .val (.int p1), .val (.ref b3), .val (.long (-p0)), .second, .val (.int (1 : Int32)), .val (.int (1 : Int32)), .unset] [(.long (-p0))])
        refine own_step (fun _ k => XS.lconst X6.here hx rfl (hb hby at_79) k) ?_
        show own_Wp p e below _ T6 (mkF m 80 #[.val (.long p0), .second, .val (.int p1), .val (.ref b3), .val (.long (-p0)), .second, .val (.int (1 : Int32)), .val (.int (1 : Int32)), .unset] [(.long (1 : Int64)), (.long (-p0))])
        refine own_step (fun _ k => XS.lsub X6.here hx rfl (hb hby at_80) rfl k) ?_
        show own_Wp p e below _ T6 (mkF m 81 #[.val (.long p0), .second, .val (.int p1), .val (.ref b3), .val (.long (-p0)), .second, .val (.int (1 : Int32)), .val (.int (1 : Int32)), .unset] [(.long ((-p0) - (1 : Int64)))])
        refine own_step (fun _ k => XS.lloadN X6.here hx rfl (hb hby at_81) rfl k) ?_
        show own_Wp p e below _ T6 (mkF m 82 #[.val (.long p0), .second, .val (.int p1), .val (.ref b3), .val (.long (-p0)), .second, .val (.int (1 : Int32)), .val (.int (1 : Int32)), .unset] [(.long p0), (.long ((-p0) - (1 : Int64)))])
        refine own_step (fun _ k => XS.lneg X6.here hx rfl (hb hby at_82) rfl k) ?_
        show own_Wp p e below _ T6 (mkF m 83 #[.val (.long p0), .second, .val (.int p1), .val (.ref b3), .val (.long (-p0)), .second, .val (.int (1 : Int32)), .val (.int (1 : Int32)), .unset] [(.long (-p0)), (.long ((-p0) - (1 : Int64)))])
        refine own_step (fun _ k => XS.lcmp X6.here hx rfl (hb hby at_83) rfl k) ?_
        show own_Wp p e below _ T6 (mkF m 84 #[.val (.long p0), .second, .val (.int p1), .val (.ref b3), .val (.long (-p0)), .second, .val (.int (1 : Int32)), .val (.int (1 : Int32)), .unset] [(.int (lcmpW ((-p0) - (1 : Int64)) (-p0)))])
        refine own_step (fun _ k => XS.ifNo X6.here hx rfl (hb hby at_84) rfl (own_lcgeN (own_lo3 hq6a_0 hc2)) k) ?_
        show own_Wp p e below _ T6 (mkF m 87 #[.val (.long p0), .second, .val (.int p1), .val (.ref b3), .val (.long (-p0)), .second, .val (.int (1 : Int32)), .val (.int (1 : Int32)), .unset] [])
        refine own_step (fun _ k => XS.iconst X6.here hx rfl (hb hby at_87) k) ?_
        show own_Wp p e below _ T6 (mkF m 88 #[.val (.long p0), .second, .val (.int p1), .val (.ref b3), .val (.long (-p0)), .second, .val (.int (1 : Int32)), .val (.int (1 : Int32)), .unset] [(.int (1 : Int32))])
        refine own_step (fun _ k => XS.goto X6.here hx rfl (pc0 := 88) (pc' := 92) rfl (hb hby at_88) (by decide) (by decide) k) ?_
        show own_Wp p e below _ T6 (mkF m 92 #[.val (.long p0), .second, .val (.int p1), .val (.ref b3), .val (.long (-p0)), .second, .val (.int (1 : Int32)), .val (.int (1 : Int32)), .unset] [(.int (1 : Int32))])
        refine own_step (fun _ k => XS.istore X6.here hx rfl (hb hby at_92) rfl (l' := #[.val (.long p0), .second, .val (.int p1), .val (.ref b3), .val (.long (-p0)), .second, .val (.int (1 : Int32)), .val (.int (1 : Int32)), .val (.int (1 : Int32))]) rfl k) ?_
        show own_Wp p e below _ T6 (mkF m 94 #[.val (.long p0), .second, .val (.int p1), .val (.ref b3), .val (.long (-p0)), .second, .val (.int (1 : Int32)), .val (.int (1 : Int32)), .val (.int (1 : Int32))] [])
        refine own_step (fun _ k => XS.iload X6.here hx rfl (hb hby at_94) rfl k) ?_
        show own_Wp p e below _ T6 (mkF m 96 #[.val (.long p0), .second, .val (.int p1), .val (.ref b3), .val (.long (-p0)), .second, .val (.int (1 : Int32)), .val (.int (1 : Int32)), .val (.int (1 : Int32))] [(.int (1 : Int32))])
        refine own_step (fun _ k => XS.ifNo X6.here hx rfl (hb hby at_96) rfl (by decide) k) ?_
        show own_Wp p e below _ T6 (mkF m 99 #[.val (.long p0), .second, .val (.int p1), .val (.ref b3), .val (.long (-p0)), .second, .val (.int (1 : Int32)), .val (.int (1 : Int32)), .val (.int (1 : Int32))] [])
        refine own_step (fun _ k => XS.iload X6.here hx rfl (hb hby at_99) rfl k) ?_
        show own_Wp p e below _ T6 (mkF m 101 #[.val (.long p0), .second, .val (.int p1), .val (.ref b3), .val (.long (-p0)), .second, .val (.int (1 : Int32)), .val (.int (1 : Int32)), .val (.int (1 : Int32))] [(.int (1 : Int32))])
        refine own_step (fun _ k => XS.ifNo X6.here hx rfl (hb hby at_101) rfl (by decide) k) ?_
        show own_Wp p e below _ T6 (mkF m 104 #[.val (.long p0), .second, .val (.int p1), .val (.ref b3), .val (.long (-p0)), .second, .val (.int (1 : Int32)), .val (.int (1 : Int32)), .val (.int (1 : Int32))] [])
        refine own_step (fun _ k => XS.iload X6.here hx rfl (hb hby at_104) rfl k) ?_
        show own_Wp p e below _ T6 (mkF m 106 #[.val (.long p0), .second, .val (.int p1), .val (.ref b3), .val (.long (-p0)), .second, .val (.int (1 : Int32)), .val (.int (1 : Int32)), .val (.int (1 : Int32))] [(.int (1 : Int32))])
        refine own_step (fun _ k => XS.ifNo X6.here hx rfl (hb hby at_106) rfl (by decide) k) ?_
        show own_Wp p e below _ T6 (mkF m 109 #[.val (.long p0), .second, .val (.int p1), .val (.ref b3), .val (.long (-p0)), .second, .val (.int (1 : Int32)), .val (.int (1 : Int32)), .val (.int (1 : Int32))] [])
        refine own_step (fun _ k => XS.iconst X6.here hx rfl (hb hby at_109) k) ?_
        show own_Wp p e below _ T6 (mkF m 110 #[.val (.long p0), .second, .val (.int p1), .val (.ref b3), .val (.long (-p0)), .second, .val (.int (1 : Int32)), .val (.int (1 : Int32)), .val (.int (1 : Int32))] [(.int (1 : Int32))])
        refine own_step (fun _ k => XS.goto X6.here hx rfl (pc0 := 110) (pc' := 114) rfl (hb hby at_110) (by decide) (by decide) k) ?_
        show own_Wp p e below _ T6 (mkF m 114 #[.val (.long p0), .second, .val (.int p1), .val (.ref b3), .val (.long (-p0)), .second, .val (.int (1 : Int32)), .val (.int (1 : Int32)), .val (.int (1 : Int32))] [(.int (1 : Int32))])
        exact own_retN X6 hx (t := .boolean) hret (by simp) hlk (hb hby at_114) (by decide) (by decide) ⟨rfl, N6a⟩
      · skip
        have N6b := Fr.app N5 N6bq
        show own_Wp p e below _ T6 (mkF m 27 #[.val (.long p0), .second, .val (.int p1), .val (.ref b3), .unset, .unset, .unset, .unset, .unset] [(.long (0 : Int64))])
        refine own_step (fun _ k => XS.lstore X6.here hx rfl (hb hby at_27) rfl (l' := #[.val (.long p0), .second, .val (.int p1), .val (.ref b3), .val (.long (0 : Int64)), .second, .unset, .unset, .unset]) rfl k) ?_
        show own_Wp p e below _ T6 (mkF m 29 #[.val (.long p0), .second, .val (.int p1), .val (.ref b3), .val (.long (0 : Int64)), .second, .unset, .unset, .unset] [])
        refine own_step (fun _ k => XS.lload X6.here hx rfl (hb hby at_29) rfl k) ?_
        show own_Wp p e below _ T6 (mkF m 31 #[.val (.long p0), .second, .val (.int p1), .val (.ref b3), .val (.long (0 : Int64)), .second, .unset, .unset, .unset] [(.long (0 : Int64))])
        refine own_step (fun _ k => XS.lconst X6.here hx rfl (hb hby at_31) k) ?_
        show own_Wp p e below _ T6 (mkF m 32 #[.val (.long p0), .second, .val (.int p1), .val (.ref b3), .val (.long (0 : Int64)), .second, .unset, .unset, .unset] [(.long (0 : Int64)), (.long (0 : Int64))])
        refine own_step (fun _ k => XS.lcmp X6.here hx rfl (hb hby at_32) rfl k) ?_
        show own_Wp p e below _ T6 (mkF m 33 #[.val (.long p0), .second, .val (.int p1), .val (.ref b3), .val (.long (0 : Int64)), .second, .unset, .unset, .unset] [(.int (lcmpW (0 : Int64) (0 : Int64)))])
        refine own_step (fun _ k => XS.ifNo X6.here hx rfl (hb hby at_33) rfl (own_lcltN (by decide)) k) ?_
        show own_Wp p e below _ T6 (mkF m 36 #[.val (.long p0), .second, .val (.int p1), .val (.ref b3), .val (.long (0 : Int64)), .second, .unset, .unset, .unset] [])
        refine own_step (fun _ k => XS.iconst X6.here hx rfl (hb hby at_36) k) ?_
        show own_Wp p e below _ T6 (mkF m 37 #[.val (.long p0), .second, .val (.int p1), .val (.ref b3), .val (.long (0 : Int64)), .second, .unset, .unset, .unset] [(.int (1 : Int32))])
        refine own_step (fun _ k => XS.goto X6.here hx rfl (pc0 := 37) (pc' := 41) rfl (hb hby at_37) (by decide) (by decide) k) ?_
        show own_Wp p e below _ T6 (mkF m 41 #[.val (.long p0), .second, .val (.int p1), .val (.ref b3), .val (.long (0 : Int64)), .second, .unset, .unset, .unset] [(.int (1 : Int32))])
        refine own_step (fun _ k => XS.istore X6.here hx rfl (hb hby at_41) rfl (l' := #[.val (.long p0), .second, .val (.int p1), .val (.ref b3), .val (.long (0 : Int64)), .second, .val (.int (1 : Int32)), .unset, .unset]) rfl k) ?_
        show own_Wp p e below _ T6 (mkF m 43 #[.val (.long p0), .second, .val (.int p1), .val (.ref b3), .val (.long (0 : Int64)), .second, .val (.int (1 : Int32)), .unset, .unset] [])
        refine own_step (fun _ k => XS.lloadN X6.here hx rfl (hb hby at_43) rfl k) ?_
        show own_Wp p e below _ T6 (mkF m 44 #[.val (.long p0), .second, .val (.int p1), .val (.ref b3), .val (.long (0 : Int64)), .second, .val (.int (1 : Int32)), .unset, .unset] [(.long p0)])
        refine own_step (fun _ k => XS.lconst X6.here hx rfl (hb hby at_44) k) ?_
        show own_Wp p e below _ T6 (mkF m 45 #[.val (.long p0), .second, .val (.int p1), .val (.ref b3), .val (.long (0 : Int64)), .second, .val (.int (1 : Int32)), .unset, .unset] [(.long (0 : Int64)), (.long p0)])
        refine own_step (fun _ k => XS.lcmp X6.here hx rfl (hb hby at_45) rfl k) ?_
        show own_Wp p e below _ T6 (mkF m 46 #[.val (.long p0), .second, .val (.int p1), .val (.ref b3), .val (.long (0 : Int64)), .second, .val (.int (1 : Int32)), .unset, .unset] [(.int (lcmpW p0 (0 : Int64)))])
        refine own_step (fun _ k => XS.ifYes X6.here hx rfl (pc0 := 46) (pc' := 57) rfl (hb hby at_46) rfl (own_lcgeY hq6b_0) (by decide) (by decide) k) ?_
        show own_Wp p e below _ T6 (mkF m 57 #[.val (.long p0), .second, .val (.int p1), .val (.ref b3), .val (.long (0 : Int64)), .second, .val (.int (1 : Int32)), .unset, .unset] [])
        refine own_step (fun _ k => XS.iconst X6.here hx rfl (hb hby at_57) k) ?_
        show own_Wp p e below _ T6 (mkF m 58 #[.val (.long p0), .second, .val (.int p1), .val (.ref b3), .val (.long (0 : Int64)), .second, .val (.int (1 : Int32)), .unset, .unset] [(.int (1 : Int32))])
        refine own_step (fun _ k => XS.goto X6.here hx rfl (pc0 := 58) (pc' := 62) rfl (hb hby at_58) (by decide) (by decide) k) ?_
        show own_Wp p e below _ T6 (mkF m 62 #[.val (.long p0), .second, .val (.int p1), .val (.ref b3), .val (.long (0 : Int64)), .second, .val (.int (1 : Int32)), .unset, .unset] [(.int (1 : Int32))])
        refine own_step (fun _ k => XS.istore X6.here hx rfl (hb hby at_62) rfl (l' := #[.val (.long p0), .second, .val (.int p1), .val (.ref b3), .val (.long (0 : Int64)), .second, .val (.int (1 : Int32)), .val (.int (1 : Int32)), .unset]) rfl k) ?_
        show own_Wp p e below _ T6 (mkF m 64 #[.val (.long p0), .second, .val (.int p1), .val (.ref b3), .val (.long (0 : Int64)), .second, .val (.int (1 : Int32)), .val (.int (1 : Int32)), .unset] [])
        refine own_step (fun _ k => XS.lload X6.here hx rfl (hb hby at_64) rfl k) ?_
        show own_Wp p e below _ T6 (mkF m 66 #[.val (.long p0), .second, .val (.int p1), .val (.ref b3), .val (.long (0 : Int64)), .second, .val (.int (1 : Int32)), .val (.int (1 : Int32)), .unset] [(.long (0 : Int64))])
        refine own_step (fun _ k => XS.lconst X6.here hx rfl (hb hby at_66) k) ?_
        show own_Wp p e below _ T6 (mkF m 67 #[.val (.long p0), .second, .val (.int p1), .val (.ref b3), .val (.long (0 : Int64)), .second, .val (.int (1 : Int32)), .val (.int (1 : Int32)), .unset] [(.long (0 : Int64)), (.long (0 : Int64))])
        refine own_step (fun _ k => XS.lcmp X6.here hx rfl (hb hby at_67) rfl k) ?_
        show own_Wp p e below _ T6 (mkF m 68 #[.val (.long p0), .second, .val (.int p1), .val (.ref b3), .val (.long (0 : Int64)), .second, .val (.int (1 : Int32)), .val (.int (1 : Int32)), .unset] [(.int (lcmpW (0 : Int64) (0 : Int64)))])
        refine own_step (fun _ k => XS.ifYes X6.here hx rfl (pc0 := 68) (pc' := 87) rfl (hb hby at_68) rfl (own_lceqY (by decide)) (by decide) (by decide) k) ?_
        show own_Wp p e below _ T6 (mkF m 87 #[.val (.long p0), .second, .val (.int p1), .val (.ref b3), .val (.long (0 : Int64)), .second, .val (.int (1 : Int32)), .val (.int (1 : Int32)), .unset] [])
        refine own_step (fun _ k => XS.iconst X6.here hx rfl (hb hby at_87) k) ?_
        show own_Wp p e below _ T6 (mkF m 88 #[.val (.long p0), .second, .val (.int p1), .val (.ref b3), .val (.long (0 : Int64)), .second, .val (.int (1 : Int32)), .val (.int (1 : Int32)), .unset] [(.int (1 : Int32))])
        refine own_step (fun _ k => XS.goto X6.here hx rfl (pc0 := 88) (pc' := 92) rfl (hb hby at_88) (by decide) (by decide) k) ?_
        show own_Wp p e below _ T6 (mkF m 92 #[.val (.long p0), .second, .val (.int p1), .val (.ref b3), .val (.long (0 : Int64)), .second, .val (.int (1 : Int32)), .val (.int (1 : Int32)), .unset] [(.int (1 : Int32))])
        refine own_step (fun _ k => XS.istore X6.here hx rfl (hb hby at_92) rfl (l' := #[.val (.long p0), .second, .val (.int p1), .val (.ref b3), .val (.long (0 : Int64)), .second, .val (.int (1 : Int32)), .val (.int (1 : Int32)), .val (.int (1 : Int32))]) rfl k) ?_
        show own_Wp p e below _ T6 (mkF m 94 #[.val (.long p0), .second, .val (.int p1), .val (.ref b3), .val (.long (0 : Int64)), .second, .val (.int (1 : Int32)), .val (.int (1 : Int32)), .val (.int (1 : Int32))] [])
        refine own_step (fun _ k => XS.iload X6.here hx rfl (hb hby at_94) rfl k) ?_
        show own_Wp p e below _ T6 (mkF m 96 #[.val (.long p0), .second, .val (.int p1), .val (.ref b3), .val (.long (0 : Int64)), .second, .val (.int (1 : Int32)), .val (.int (1 : Int32)), .val (.int (1 : Int32))] [(.int (1 : Int32))])
        refine own_step (fun _ k => XS.ifNo X6.here hx rfl (hb hby at_96) rfl (by decide) k) ?_
        show own_Wp p e below _ T6 (mkF m 99 #[.val (.long p0), .second, .val (.int p1), .val (.ref b3), .val (.long (0 : Int64)), .second, .val (.int (1 : Int32)), .val (.int (1 : Int32)), .val (.int (1 : Int32))] [])
        refine own_step (fun _ k => XS.iload X6.here hx rfl (hb hby at_99) rfl k) ?_
        show own_Wp p e below _ T6 (mkF m 101 #[.val (.long p0), .second, .val (.int p1), .val (.ref b3), .val (.long (0 : Int64)), .second, .val (.int (1 : Int32)), .val (.int (1 : Int32)), .val (.int (1 : Int32))] [(.int (1 : Int32))])
        refine own_step (fun _ k => XS.ifNo X6.here hx rfl (hb hby at_101) rfl (by decide) k) ?_
        show own_Wp p e below _ T6 (mkF m 104 #[.val (.long p0), .second, .val (.int p1), .val (.ref b3), .val (.long (0 : Int64)), .second, .val (.int (1 : Int32)), .val (.int (1 : Int32)), .val (.int (1 : Int32))] [])
        refine own_step (fun _ k => XS.iload X6.here hx rfl (hb hby at_104) rfl k) ?_
        show own_Wp p e below _ T6 (mkF m 106 #[.val (.long p0), .second, .val (.int p1), .val (.ref b3), .val (.long (0 : Int64)), .second, .val (.int (1 : Int32)), .val (.int (1 : Int32)), .val (.int (1 : Int32))] [(.int (1 : Int32))])
        refine own_step (fun _ k => XS.ifNo X6.here hx rfl (hb hby at_106) rfl (by decide) k) ?_
        show own_Wp p e below _ T6 (mkF m 109 #[.val (.long p0), .second, .val (.int p1), .val (.ref b3), .val (.long (0 : Int64)), .second, .val (.int (1 : Int32)), .val (.int (1 : Int32)), .val (.int (1 : Int32))] [])
        refine own_step (fun _ k => XS.iconst X6.here hx rfl (hb hby at_109) k) ?_
        show own_Wp p e below _ T6 (mkF m 110 #[.val (.long p0), .second, .val (.int p1), .val (.ref b3), .val (.long (0 : Int64)), .second, .val (.int (1 : Int32)), .val (.int (1 : Int32)), .val (.int (1 : Int32))] [(.int (1 : Int32))])
        refine own_step (fun _ k => XS.goto X6.here hx rfl (pc0 := 110) (pc' := 114) rfl (hb hby at_110) (by decide) (by decide) k) ?_
        show own_Wp p e below _ T6 (mkF m 114 #[.val (.long p0), .second, .val (.int p1), .val (.ref b3), .val (.long (0 : Int64)), .second, .val (.int (1 : Int32)), .val (.int (1 : Int32)), .val (.int (1 : Int32))] [(.int (1 : Int32))])
        exact own_retN X6 hx (t := .boolean) hret (by simp) hlk (hb hby at_114) (by decide) (by decide) ⟨rfl, N6b⟩
    · skip
      have N4b := Fr.app (Fr.nil n0) N4bq
      show own_Wp p e below _ T4 (mkF m 18 #[.val (.long p0), .second, .val (.int p1), .unset, .unset, .unset, .unset, .unset, .unset] [(.ref (w3_BAG Z)), (.ref b3), (.ref b3)])
      refine own_step (fun _ k => XS.lloadN X4.here hx rfl (hb hby at_18) rfl k) ?_
      show own_Wp p e below _ T4 (mkF m 19 #[.val (.long p0), .second, .val (.int p1), .unset, .unset, .unset, .unset, .unset, .unset] [(.long p0), (.ref (w3_BAG Z)), (.ref b3), (.ref b3)])
      obtain ⟨_, T16, L16, X16, hQ16, st16⟩ := own_callN X4 hx hZ rfl hown (hw _ (List.mem_of_getElem? (i := 12) rfl)) (hw _ (List.mem_of_getElem? (i := 13) rfl)) (hw _ (List.mem_of_getElem? (i := 3) rfl)) (hw _ (List.mem_of_getElem? (i := 14) rfl)) (by decide) (rm2_2 l Z a0 hw hA [] b3 (w3_BAG Z) p0 h3 n0 O3 A3 F3_24 F3_26 g3) (b := b3) (W := 1) (by decide) (by decide) [(.ref (w3_BAG Z)), (.long p0)] rfl (lenOf pd5 rfl) (Ls := #[.val (.long p0), .second, .val (.int p1), .unset, .unset, .unset, .unset, .unset, .unset]) (by rw [hml]; rfl) (rest := [(.ref b3)]) (Nat.le_of_eq rfl) (hb hby at_19) e4b (by decide) (by decide)
      refine st16 _ ?_
      obtain ⟨rfl, N16q, K16q, F16_0, F16_1, F16_2⟩ := hQ16
      have N16 := Fr.app N4b N16q
      have O16 := O3.keep K16q (allS g3 all0)
      have K16 : Keep h0 T16.heap [] := Keep.trans K3 K16q (allS (Or.inr y3) all0)
      show own_Wp p e below _ T16 (mkF m 22 #[.val (.long p0), .second, .val (.int p1), .unset, .unset, .unset, .unset, .unset, .unset] [(.ref b3)])
      refine own_step (fun _ k => XS.astoreN X16.here hx rfl (hb hby at_22) rfl rfl (l' := #[.val (.long p0), .second, .val (.int p1), .val (.ref b3), .unset, .unset, .unset, .unset, .unset]) rfl k) ?_
      show own_Wp p e below _ T16 (mkF m 23 #[.val (.long p0), .second, .val (.int p1), .val (.ref b3), .unset, .unset, .unset, .unset, .unset] [])
      refine own_step (fun _ k => XS.aloadN X16.here hx rfl (hb hby at_23) rfl rfl k) ?_
      show own_Wp p e below _ T16 (mkF m 24 #[.val (.long p0), .second, .val (.int p1), .val (.ref b3), .unset, .unset, .unset, .unset, .unset] [(.ref b3)])
      obtain ⟨_, T17, L17, X17, hQ17, st17⟩ := own_callV X16 hx hZ hown (hw _ (List.mem_of_getElem? (i := 27) rfl)) (hw _ (List.mem_of_getElem? (i := 28) rfl)) (notFace_of_selects (args := #[]) (mvT hZ (hw _ (List.mem_of_getElem? (i := 30) rfl)))) (hw _ (List.mem_of_getElem? (i := 30) rfl)) (hw _ (List.mem_of_getElem? (i := 29) rfl)) (hw _ (List.mem_of_getElem? (i := 3) rfl)) (hw _ (List.mem_of_getElem? (i := 31) rfl)) (by decide) F16_0 (rm5_3 l Z a0 hw hA [] b3 p0 T16.heap n0 O16 F16_2) (W := 0) (by decide) (by decide) [] rfl (lenOf pd6 rfl) (Ls := #[.val (.long p0), .second, .val (.int p1), .val (.ref b3), .unset, .unset, .unset, .unset, .unset]) (by rw [hml]; rfl) (rest := []) (Nat.le_of_eq rfl) (hb hby at_24) rfl (by decide) (by decide)
      refine st17 _ ?_
      rcases hQ17 with ⟨hq17a_0, rfl, N17aq, e17a⟩ | ⟨hq17b_0, rfl, N17bq, e17b⟩
      · skip
        have N17a := Fr.app N16 N17aq
        show own_Wp p e below _ T17 (mkF m 27 #[.val (.long p0), .second, .val (.int p1), .val (.ref b3), .unset, .unset, .unset, .unset, .unset] [(.long (-p0))])
        refine own_step (fun _ k => XS.lstore X17.here hx rfl (hb hby at_27) rfl (l' := #[.val (.long p0), .second, .val (.int p1), .val (.ref b3), .val (.long (-p0)), .second, .unset, .unset, .unset]) rfl k) ?_
        show own_Wp p e below _ T17 (mkF m 29 #[.val (.long p0), .second, .val (.int p1), .val (.ref b3), .val (.long (-p0)), .second, .unset, .unset, .unset] [])
        refine own_step (fun _ k => XS.lload X17.here hx rfl (hb hby at_29) rfl k) ?_
        show own_Wp p e below _ T17 (mkF m 31 #[.val (.long p0), .second, .val (.int p1), .val (.ref b3), .val (.long (-p0)), .second, .unset, .unset, .unset] [(.long (-p0))])
        refine own_step (fun _ k => XS.lconst X17.here hx rfl (hb hby at_31) k) ?_
        show own_Wp p e below _ T17 (mkF m 32 #[.val (.long p0), .second, .val (.int p1), .val (.ref b3), .val (.long (-p0)), .second, .unset, .unset, .unset] [(.long (0 : Int64)), (.long (-p0))])
        refine own_step (fun _ k => XS.lcmp X17.here hx rfl (hb hby at_32) rfl k) ?_
        show own_Wp p e below _ T17 (mkF m 33 #[.val (.long p0), .second, .val (.int p1), .val (.ref b3), .val (.long (-p0)), .second, .unset, .unset, .unset] [(.int (lcmpW (-p0) (0 : Int64)))])
        refine own_step (fun _ k => XS.ifNo X17.here hx rfl (hb hby at_33) rfl (own_lcltN (own_lo1 hq17a_0 hc2)) k) ?_
        show own_Wp p e below _ T17 (mkF m 36 #[.val (.long p0), .second, .val (.int p1), .val (.ref b3), .val (.long (-p0)), .second, .unset, .unset, .unset] [])
        refine own_step (fun _ k => XS.iconst X17.here hx rfl (hb hby at_36) k) ?_
        show own_Wp p e below _ T17 (mkF m 37 #[.val (.long p0), .second, .val (.int p1), .val (.ref b3), .val (.long (-p0)), .second, .unset, .unset, .unset] [(.int (1 : Int32))])
        refine own_step (fun _ k => XS.goto X17.here hx rfl (pc0 := 37) (pc' := 41) rfl (hb hby at_37) (by decide) (by decide) k) ?_
        show own_Wp p e below _ T17 (mkF m 41 #[.val (.long p0), .second, .val (.int p1), .val (.ref b3), .val (.long (-p0)), .second, .unset, .unset, .unset] [(.int (1 : Int32))])
        refine own_step (fun _ k => XS.istore X17.here hx rfl (hb hby at_41) rfl (l' := #[.val (.long p0), .second, .val (.int p1), .val (.ref b3), .val (.long (-p0)), .second, .val (.int (1 : Int32)), .unset, .unset]) rfl k) ?_
        show own_Wp p e below _ T17 (mkF m 43 #[.val (.long p0), .second, .val (.int p1), .val (.ref b3), .val (.long (-p0)), .second, .val (.int (1 : Int32)), .unset, .unset] [])
        refine own_step (fun _ k => XS.lloadN X17.here hx rfl (hb hby at_43) rfl k) ?_
        show own_Wp p e below _ T17 (mkF m 44 #[.val (.long p0), .second, .val (.int p1), .val (.ref b3), .val (.long (-p0)), .second, .val (.int (1 : Int32)), .unset, .unset] [(.long p0)])
        refine own_step (fun _ k => XS.lconst X17.here hx rfl (hb hby at_44) k) ?_
        show own_Wp p e below _ T17 (mkF m 45 #[.val (.long p0), .second, .val (.int p1), .val (.ref b3), .val (.long (-p0)), .second, .val (.int (1 : Int32)), .unset, .unset] [(.long (0 : Int64)), (.long p0)])
        refine own_step (fun _ k => XS.lcmp X17.here hx rfl (hb hby at_45) rfl k) ?_
        show own_Wp p e below _ T17 (mkF m 46 #[.val (.long p0), .second, .val (.int p1), .val (.ref b3), .val (.long (-p0)), .second, .val (.int (1 : Int32)), .unset, .unset] [(.int (lcmpW p0 (0 : Int64)))])
        refine own_step (fun _ k => XS.ifNo X17.here hx rfl (hb hby at_46) rfl (own_lcgeN hq17a_0) k) ?_
        show own_Wp p e below _ T17 (mkF m 49 #[.val (.long p0), .second, .val (.int p1), .val (.ref b3), .val (.long (-p0)), .second, .val (.int (1 : Int32)), .unset, .unset] [])
        refine own_step (fun _ k => XS.lload X17.here hx rfl (hb hby at_49) rfl k) ?_
        show own_Wp p e below _ T17 (mkF m 51 #[.val (.long p0), .second, .val (.int p1), .val (.ref b3), .val (.long (-p0)), .second, .val (.int (1 : Int32)), .unset, .unset] [(.long (-p0))])
        refine own_step (fun _ k => XS.lloadN X17.here hx rfl (hb hby at_51) rfl k) ?_
        show own_Wp p e below _ T17 (mkF m 52 #[.val (.long p0), .second, .val (.int p1), .val (.ref b3), .val (.long (-p0)), .second, .val (.int (1 : Int32)), .unset, .unset] [(.long p0), (.long (-p0))])
        refine own_step (fun _ k => XS.lneg X17.here hx rfl (hb hby at_52) rfl k) ?_
        show own_Wp p e below _ T17 (mkF m 53 #[.val (.long p0), .second, .val (.int p1), .val (.ref b3), .val (.long (-p0)), .second, .val (.int (1 : Int32)), .unset, .unset] [(.long (-p0)), (.long (-p0))])
        refine own_step (fun _ k => XS.lcmp X17.here hx rfl (hb hby at_53) rfl k) ?_
        show own_Wp p e below _ T17 (mkF m 54 #[.val (.long p0), .second, .val (.int p1), .val (.ref b3), .val (.long (-p0)), .second, .val (.int (1 : Int32)), .unset, .unset] [(.int (lcmpW (-p0) (-p0)))])
        refine own_step (fun _ k => XS.ifNo X17.here hx rfl (hb hby at_54) rfl (own_lcltN (fun q => absurd q Int64.lt_irrefl)) k) ?_
        show own_Wp p e below _ T17 (mkF m 57 #[.val (.long p0), .second, .val (.int p1), .val (.ref b3), .val (.long (-p0)), .second, .val (.int (1 : Int32)), .unset, .unset] [])
        refine own_step (fun _ k => XS.iconst X17.here hx rfl (hb hby at_57) k) ?_
        show own_Wp p e below _ T17 (mkF m 58 #[.val (.long p0), .second, .val (.int p1), .val (.ref b3), .val (.long (-p0)), .second, .val (.int (1 : Int32)), .unset, .unset] [(.int (1 : Int32))])
        refine own_step (fun _ k => XS.goto X17.here hx rfl (pc0 := 58) (pc' := 62) rfl (hb hby at_58) (by decide) (by decide) k) ?_
        show own_Wp p e below _ T17 (mkF m 62 #[.val (.long p0), .second, .val (.int p1), .val (.ref b3), .val (.long (-p0)), .second, .val (.int (1 : Int32)), .unset, .unset] [(.int (1 : Int32))])
        refine own_step (fun _ k => XS.istore X17.here hx rfl (hb hby at_62) rfl (l' := #[.val (.long p0), .second, .val (.int p1), .val (.ref b3), .val (.long (-p0)), .second, .val (.int (1 : Int32)), .val (.int (1 : Int32)), .unset]) rfl k) ?_
        show own_Wp p e below _ T17 (mkF m 64 #[.val (.long p0), .second, .val (.int p1), .val (.ref b3), .val (.long (-p0)), .second, .val (.int (1 : Int32)), .val (.int (1 : Int32)), .unset] [])
        refine own_step (fun _ k => XS.lload X17.here hx rfl (hb hby at_64) rfl k) ?_
        show own_Wp p e below _ T17 (mkF m 66 #[.val (.long p0), .second, .val (.int p1), .val (.ref b3), .val (.long (-p0)), .second, .val (.int (1 : Int32)), .val (.int (1 : Int32)), .unset] [(.long (-p0))])
        refine own_step (fun _ k => XS.lconst X17.here hx rfl (hb hby at_66) k) ?_
        show own_Wp p e below _ T17 (mkF m 67 #[.val (.long p0), .second, .val (.int p1), .val (.ref b3), .val (.long (-p0)), .second, .val (.int (1 : Int32)), .val (.int (1 : Int32)), .unset] [(.long (0 : Int64)), (.long (-p0))])
        refine own_step (fun _ k => XS.lcmp X17.here hx rfl (hb hby at_67) rfl k) ?_
        show own_Wp p e below _ T17 (mkF m 68 #[.val (.long p0), .second, .val (.int p1), .val (.ref b3), .val (.long (-p0)), .second, .val (.int (1 : Int32)), .val (.int (1 : Int32)), .unset] [(.int (lcmpW (-p0) (0 : Int64)))])
        refine own_step (fun _ k => XS.ifNo X17.here hx rfl (hb hby at_68) rfl (own_lceqN (own_lo2 hq17a_0)) k) ?_
        show own_Wp p e below _ T17 (mkF m 71 #[.val (.long p0), .second, .val (.int p1), .val (.ref b3), .val (.long (-p0)), .second, .val (.int (1 : Int32)), .val (.int (1 : Int32)), .unset] [])
        refine own_step (fun _ k => XS.lloadN X17.here hx rfl (hb hby at_71) rfl k) ?_
        show own_Wp p e below _ T17 (mkF m 72 #[.val (.long p0), .second, .val (.int p1), .val (.ref b3), .val (.long (-p0)), .second, .val (.int (1 : Int32)), .val (.int (1 : Int32)), .unset] [(.long p0)])
        refine own_step (fun _ k => XS.lconst X17.here hx rfl (hb hby at_72) k) ?_
        show own_Wp p e below _ T17 (mkF m 73 #[.val (.long p0), .second, .val (.int p1), .val (.ref b3), .val (.long (-p0)), .second, .val (.int (1 : Int32)), .val (.int (1 : Int32)), .unset] [(.long (0 : Int64)), (.long p0)])
        refine own_step (fun _ k => XS.lcmp X17.here hx rfl (hb hby at_73) rfl k) ?_
        show own_Wp p e below _ T17 (mkF m 74 #[.val (.long p0), .second, .val (.int p1), .val (.ref b3), .val (.long (-p0)), .second, .val (.int (1 : Int32)), .val (.int (1 : Int32)), .unset] [(.int (lcmpW p0 (0 : Int64)))])
        refine own_step (fun _ k => XS.ifNo X17.here hx rfl (hb hby at_74) rfl (own_lcgeN hq17a_0) k) ?_
        show own_Wp p e below _ T17 (mkF m 77 #[.val (.long p0), .second, .val (.int p1), .val (.ref b3), .val (.long (-p0)), .second, .val (.int (1 : Int32)), .val (.int (1 : Int32)), .unset] [])
        refine own_step (fun _ k => XS.lload X17.here hx rfl (hb hby at_77) rfl k) ?_
        show own_Wp p e below _ T17 (mkF m 79 #[.val (.long p0), .second, .val (.int p1), .val (.ref b3), .val (.long (-p0)), .second, .val (.int (1 : Int32)), .val (.int (1 : Int32)), .unset] [(.long (-p0))])
        refine own_step (fun _ k => XS.lconst X17.here hx rfl (hb hby at_79) k) ?_
        show own_Wp p e below _ T17 (mkF m 80 #[.val (.long p0), .second, .val (.int p1), .val (.ref b3), .val (.long (-p0)), .second, .val (.int (1 : Int32)), .val (.int (1 : Int32)), .unset] [(.long (1 : Int64)), (.long (-p0))])
        refine own_step (fun _ k => XS.lsub X17.here hx rfl (hb hby at_80) rfl k) ?_
        show own_Wp p e below _ T17 (mkF m 81 #[.val (.long p0), .second, .val (.int p1), .val (.ref b3), .val (.long (-p0)), .second, .val (.int (1 : Int32)), .val (.int (1 : Int32)), .unset] [(.long ((-p0) - (1 : Int64)))])
        refine own_step (fun _ k => XS.lloadN X17.here hx rfl (hb hby at_81) rfl k) ?_
        show own_Wp p e below _ T17 (mkF m 82 #[.val (.long p0), .second, .val (.int p1), .val (.ref b3), .val (.long (-p0)), .second, .val (.int (1 : Int32)), .val (.int (1 : Int32)), .unset] [(.long p0), (.long ((-p0) - (1 : Int64)))])
        refine own_step (fun _ k => XS.lneg X17.here hx rfl (hb hby at_82) rfl k) ?_
        show own_Wp p e below _ T17 (mkF m 83 #[.val (.long p0), .second, .val (.int p1), .val (.ref b3), .val (.long (-p0)), .second, .val (.int (1 : Int32)), .val (.int (1 : Int32)), .unset] [(.long (-p0)), (.long ((-p0) - (1 : Int64)))])
        refine own_step (fun _ k => XS.lcmp X17.here hx rfl (hb hby at_83) rfl k) ?_
        show own_Wp p e below _ T17 (mkF m 84 #[.val (.long p0), .second, .val (.int p1), .val (.ref b3), .val (.long (-p0)), .second, .val (.int (1 : Int32)), .val (.int (1 : Int32)), .unset] [(.int (lcmpW ((-p0) - (1 : Int64)) (-p0)))])
        refine own_step (fun _ k => XS.ifNo X17.here hx rfl (hb hby at_84) rfl (own_lcgeN (own_lo3 hq17a_0 hc2)) k) ?_
        show own_Wp p e below _ T17 (mkF m 87 #[.val (.long p0), .second, .val (.int p1), .val (.ref b3), .val (.long (-p0)), .second, .val (.int (1 : Int32)), .val (.int (1 : Int32)), .unset] [])
        refine own_step (fun _ k => XS.iconst X17.here hx rfl (hb hby at_87) k) ?_
        show own_Wp p e below _ T17 (mkF m 88 #[.val (.long p0), .second, .val (.int p1), .val (.ref b3), .val (.long (-p0)), .second, .val (.int (1 : Int32)), .val (.int (1 : Int32)), .unset] [(.int (1 : Int32))])
        refine own_step (fun _ k => XS.goto X17.here hx rfl (pc0 := 88) (pc' := 92) rfl (hb hby at_88) (by decide) (by decide) k) ?_
        show own_Wp p e below _ T17 (mkF m 92 #[.val (.long p0), .second, .val (.int p1), .val (.ref b3), .val (.long (-p0)), .second, .val (.int (1 : Int32)), .val (.int (1 : Int32)), .unset] [(.int (1 : Int32))])
        refine own_step (fun _ k => XS.istore X17.here hx rfl (hb hby at_92) rfl (l' := #[.val (.long p0), .second, .val (.int p1), .val (.ref b3), .val (.long (-p0)), .second, .val (.int (1 : Int32)), .val (.int (1 : Int32)), .val (.int (1 : Int32))]) rfl k) ?_
        show own_Wp p e below _ T17 (mkF m 94 #[.val (.long p0), .second, .val (.int p1), .val (.ref b3), .val (.long (-p0)), .second, .val (.int (1 : Int32)), .val (.int (1 : Int32)), .val (.int (1 : Int32))] [])
        refine own_step (fun _ k => XS.iload X17.here hx rfl (hb hby at_94) rfl k) ?_
        show own_Wp p e below _ T17 (mkF m 96 #[.val (.long p0), .second, .val (.int p1), .val (.ref b3), .val (.long (-p0)), .second, .val (.int (1 : Int32)), .val (.int (1 : Int32)), .val (.int (1 : Int32))] [(.int (1 : Int32))])
        refine own_step (fun _ k => XS.ifNo X17.here hx rfl (hb hby at_96) rfl (by decide) k) ?_
        show own_Wp p e below _ T17 (mkF m 99 #[.val (.long p0), .second, .val (.int p1), .val (.ref b3), .val (.long (-p0)), .second, .val (.int (1 : Int32)), .val (.int (1 : Int32)), .val (.int (1 : Int32))] [])
        refine own_step (fun _ k => XS.iload X17.here hx rfl (hb hby at_99) rfl k) ?_
        show own_Wp p e below _ T17 (mkF m 101 #[.val (.long p0), .second, .val (.int p1), .val (.ref b3), .val (.long (-p0)), .second, .val (.int (1 : Int32)), .val (.int (1 : Int32)), .val (.int (1 : Int32))] [(.int (1 : Int32))])
        refine own_step (fun _ k => XS.ifNo X17.here hx rfl (hb hby at_101) rfl (by decide) k) ?_
        show own_Wp p e below _ T17 (mkF m 104 #[.val (.long p0), .second, .val (.int p1), .val (.ref b3), .val (.long (-p0)), .second, .val (.int (1 : Int32)), .val (.int (1 : Int32)), .val (.int (1 : Int32))] [])
        refine own_step (fun _ k => XS.iload X17.here hx rfl (hb hby at_104) rfl k) ?_
        show own_Wp p e below _ T17 (mkF m 106 #[.val (.long p0), .second, .val (.int p1), .val (.ref b3), .val (.long (-p0)), .second, .val (.int (1 : Int32)), .val (.int (1 : Int32)), .val (.int (1 : Int32))] [(.int (1 : Int32))])
        refine own_step (fun _ k => XS.ifNo X17.here hx rfl (hb hby at_106) rfl (by decide) k) ?_
        show own_Wp p e below _ T17 (mkF m 109 #[.val (.long p0), .second, .val (.int p1), .val (.ref b3), .val (.long (-p0)), .second, .val (.int (1 : Int32)), .val (.int (1 : Int32)), .val (.int (1 : Int32))] [])
        refine own_step (fun _ k => XS.iconst X17.here hx rfl (hb hby at_109) k) ?_
        show own_Wp p e below _ T17 (mkF m 110 #[.val (.long p0), .second, .val (.int p1), .val (.ref b3), .val (.long (-p0)), .second, .val (.int (1 : Int32)), .val (.int (1 : Int32)), .val (.int (1 : Int32))] [(.int (1 : Int32))])
        refine own_step (fun _ k => XS.goto X17.here hx rfl (pc0 := 110) (pc' := 114) rfl (hb hby at_110) (by decide) (by decide) k) ?_
        show own_Wp p e below _ T17 (mkF m 114 #[.val (.long p0), .second, .val (.int p1), .val (.ref b3), .val (.long (-p0)), .second, .val (.int (1 : Int32)), .val (.int (1 : Int32)), .val (.int (1 : Int32))] [(.int (1 : Int32))])
        exact own_retN X17 hx (t := .boolean) hret (by simp) hlk (hb hby at_114) (by decide) (by decide) ⟨rfl, N17a⟩
      · skip
        have N17b := Fr.app N16 N17bq
        show own_Wp p e below _ T17 (mkF m 27 #[.val (.long p0), .second, .val (.int p1), .val (.ref b3), .unset, .unset, .unset, .unset, .unset] [(.long (0 : Int64))])
        refine own_step (fun _ k => XS.lstore X17.here hx rfl (hb hby at_27) rfl (l' := #[.val (.long p0), .second, .val (.int p1), .val (.ref b3), .val (.long (0 : Int64)), .second, .unset, .unset, .unset]) rfl k) ?_
        show own_Wp p e below _ T17 (mkF m 29 #[.val (.long p0), .second, .val (.int p1), .val (.ref b3), .val (.long (0 : Int64)), .second, .unset, .unset, .unset] [])
        refine own_step (fun _ k => XS.lload X17.here hx rfl (hb hby at_29) rfl k) ?_
        show own_Wp p e below _ T17 (mkF m 31 #[.val (.long p0), .second, .val (.int p1), .val (.ref b3), .val (.long (0 : Int64)), .second, .unset, .unset, .unset] [(.long (0 : Int64))])
        refine own_step (fun _ k => XS.lconst X17.here hx rfl (hb hby at_31) k) ?_
        show own_Wp p e below _ T17 (mkF m 32 #[.val (.long p0), .second, .val (.int p1), .val (.ref b3), .val (.long (0 : Int64)), .second, .unset, .unset, .unset] [(.long (0 : Int64)), (.long (0 : Int64))])
        refine own_step (fun _ k => XS.lcmp X17.here hx rfl (hb hby at_32) rfl k) ?_
        show own_Wp p e below _ T17 (mkF m 33 #[.val (.long p0), .second, .val (.int p1), .val (.ref b3), .val (.long (0 : Int64)), .second, .unset, .unset, .unset] [(.int (lcmpW (0 : Int64) (0 : Int64)))])
        refine own_step (fun _ k => XS.ifNo X17.here hx rfl (hb hby at_33) rfl (own_lcltN (by decide)) k) ?_
        show own_Wp p e below _ T17 (mkF m 36 #[.val (.long p0), .second, .val (.int p1), .val (.ref b3), .val (.long (0 : Int64)), .second, .unset, .unset, .unset] [])
        refine own_step (fun _ k => XS.iconst X17.here hx rfl (hb hby at_36) k) ?_
        show own_Wp p e below _ T17 (mkF m 37 #[.val (.long p0), .second, .val (.int p1), .val (.ref b3), .val (.long (0 : Int64)), .second, .unset, .unset, .unset] [(.int (1 : Int32))])
        refine own_step (fun _ k => XS.goto X17.here hx rfl (pc0 := 37) (pc' := 41) rfl (hb hby at_37) (by decide) (by decide) k) ?_
        show own_Wp p e below _ T17 (mkF m 41 #[.val (.long p0), .second, .val (.int p1), .val (.ref b3), .val (.long (0 : Int64)), .second, .unset, .unset, .unset] [(.int (1 : Int32))])
        refine own_step (fun _ k => XS.istore X17.here hx rfl (hb hby at_41) rfl (l' := #[.val (.long p0), .second, .val (.int p1), .val (.ref b3), .val (.long (0 : Int64)), .second, .val (.int (1 : Int32)), .unset, .unset]) rfl k) ?_
        show own_Wp p e below _ T17 (mkF m 43 #[.val (.long p0), .second, .val (.int p1), .val (.ref b3), .val (.long (0 : Int64)), .second, .val (.int (1 : Int32)), .unset, .unset] [])
        refine own_step (fun _ k => XS.lloadN X17.here hx rfl (hb hby at_43) rfl k) ?_
        show own_Wp p e below _ T17 (mkF m 44 #[.val (.long p0), .second, .val (.int p1), .val (.ref b3), .val (.long (0 : Int64)), .second, .val (.int (1 : Int32)), .unset, .unset] [(.long p0)])
        refine own_step (fun _ k => XS.lconst X17.here hx rfl (hb hby at_44) k) ?_
        show own_Wp p e below _ T17 (mkF m 45 #[.val (.long p0), .second, .val (.int p1), .val (.ref b3), .val (.long (0 : Int64)), .second, .val (.int (1 : Int32)), .unset, .unset] [(.long (0 : Int64)), (.long p0)])
        refine own_step (fun _ k => XS.lcmp X17.here hx rfl (hb hby at_45) rfl k) ?_
        show own_Wp p e below _ T17 (mkF m 46 #[.val (.long p0), .second, .val (.int p1), .val (.ref b3), .val (.long (0 : Int64)), .second, .val (.int (1 : Int32)), .unset, .unset] [(.int (lcmpW p0 (0 : Int64)))])
        refine own_step (fun _ k => XS.ifYes X17.here hx rfl (pc0 := 46) (pc' := 57) rfl (hb hby at_46) rfl (own_lcgeY hq17b_0) (by decide) (by decide) k) ?_
        show own_Wp p e below _ T17 (mkF m 57 #[.val (.long p0), .second, .val (.int p1), .val (.ref b3), .val (.long (0 : Int64)), .second, .val (.int (1 : Int32)), .unset, .unset] [])
        refine own_step (fun _ k => XS.iconst X17.here hx rfl (hb hby at_57) k) ?_
        show own_Wp p e below _ T17 (mkF m 58 #[.val (.long p0), .second, .val (.int p1), .val (.ref b3), .val (.long (0 : Int64)), .second, .val (.int (1 : Int32)), .unset, .unset] [(.int (1 : Int32))])
        refine own_step (fun _ k => XS.goto X17.here hx rfl (pc0 := 58) (pc' := 62) rfl (hb hby at_58) (by decide) (by decide) k) ?_
        show own_Wp p e below _ T17 (mkF m 62 #[.val (.long p0), .second, .val (.int p1), .val (.ref b3), .val (.long (0 : Int64)), .second, .val (.int (1 : Int32)), .unset, .unset] [(.int (1 : Int32))])
        refine own_step (fun _ k => XS.istore X17.here hx rfl (hb hby at_62) rfl (l' := #[.val (.long p0), .second, .val (.int p1), .val (.ref b3), .val (.long (0 : Int64)), .second, .val (.int (1 : Int32)), .val (.int (1 : Int32)), .unset]) rfl k) ?_
        show own_Wp p e below _ T17 (mkF m 64 #[.val (.long p0), .second, .val (.int p1), .val (.ref b3), .val (.long (0 : Int64)), .second, .val (.int (1 : Int32)), .val (.int (1 : Int32)), .unset] [])
        refine own_step (fun _ k => XS.lload X17.here hx rfl (hb hby at_64) rfl k) ?_
        show own_Wp p e below _ T17 (mkF m 66 #[.val (.long p0), .second, .val (.int p1), .val (.ref b3), .val (.long (0 : Int64)), .second, .val (.int (1 : Int32)), .val (.int (1 : Int32)), .unset] [(.long (0 : Int64))])
        refine own_step (fun _ k => XS.lconst X17.here hx rfl (hb hby at_66) k) ?_
        show own_Wp p e below _ T17 (mkF m 67 #[.val (.long p0), .second, .val (.int p1), .val (.ref b3), .val (.long (0 : Int64)), .second, .val (.int (1 : Int32)), .val (.int (1 : Int32)), .unset] [(.long (0 : Int64)), (.long (0 : Int64))])
        refine own_step (fun _ k => XS.lcmp X17.here hx rfl (hb hby at_67) rfl k) ?_
        show own_Wp p e below _ T17 (mkF m 68 #[.val (.long p0), .second, .val (.int p1), .val (.ref b3), .val (.long (0 : Int64)), .second, .val (.int (1 : Int32)), .val (.int (1 : Int32)), .unset] [(.int (lcmpW (0 : Int64) (0 : Int64)))])
        refine own_step (fun _ k => XS.ifYes X17.here hx rfl (pc0 := 68) (pc' := 87) rfl (hb hby at_68) rfl (own_lceqY (by decide)) (by decide) (by decide) k) ?_
        show own_Wp p e below _ T17 (mkF m 87 #[.val (.long p0), .second, .val (.int p1), .val (.ref b3), .val (.long (0 : Int64)), .second, .val (.int (1 : Int32)), .val (.int (1 : Int32)), .unset] [])
        refine own_step (fun _ k => XS.iconst X17.here hx rfl (hb hby at_87) k) ?_
        show own_Wp p e below _ T17 (mkF m 88 #[.val (.long p0), .second, .val (.int p1), .val (.ref b3), .val (.long (0 : Int64)), .second, .val (.int (1 : Int32)), .val (.int (1 : Int32)), .unset] [(.int (1 : Int32))])
        refine own_step (fun _ k => XS.goto X17.here hx rfl (pc0 := 88) (pc' := 92) rfl (hb hby at_88) (by decide) (by decide) k) ?_
        show own_Wp p e below _ T17 (mkF m 92 #[.val (.long p0), .second, .val (.int p1), .val (.ref b3), .val (.long (0 : Int64)), .second, .val (.int (1 : Int32)), .val (.int (1 : Int32)), .unset] [(.int (1 : Int32))])
        refine own_step (fun _ k => XS.istore X17.here hx rfl (hb hby at_92) rfl (l' := #[.val (.long p0), .second, .val (.int p1), .val (.ref b3), .val (.long (0 : Int64)), .second, .val (.int (1 : Int32)), .val (.int (1 : Int32)), .val (.int (1 : Int32))]) rfl k) ?_
        show own_Wp p e below _ T17 (mkF m 94 #[.val (.long p0), .second, .val (.int p1), .val (.ref b3), .val (.long (0 : Int64)), .second, .val (.int (1 : Int32)), .val (.int (1 : Int32)), .val (.int (1 : Int32))] [])
        refine own_step (fun _ k => XS.iload X17.here hx rfl (hb hby at_94) rfl k) ?_
        show own_Wp p e below _ T17 (mkF m 96 #[.val (.long p0), .second, .val (.int p1), .val (.ref b3), .val (.long (0 : Int64)), .second, .val (.int (1 : Int32)), .val (.int (1 : Int32)), .val (.int (1 : Int32))] [(.int (1 : Int32))])
        refine own_step (fun _ k => XS.ifNo X17.here hx rfl (hb hby at_96) rfl (by decide) k) ?_
        show own_Wp p e below _ T17 (mkF m 99 #[.val (.long p0), .second, .val (.int p1), .val (.ref b3), .val (.long (0 : Int64)), .second, .val (.int (1 : Int32)), .val (.int (1 : Int32)), .val (.int (1 : Int32))] [])
        refine own_step (fun _ k => XS.iload X17.here hx rfl (hb hby at_99) rfl k) ?_
        show own_Wp p e below _ T17 (mkF m 101 #[.val (.long p0), .second, .val (.int p1), .val (.ref b3), .val (.long (0 : Int64)), .second, .val (.int (1 : Int32)), .val (.int (1 : Int32)), .val (.int (1 : Int32))] [(.int (1 : Int32))])
        refine own_step (fun _ k => XS.ifNo X17.here hx rfl (hb hby at_101) rfl (by decide) k) ?_
        show own_Wp p e below _ T17 (mkF m 104 #[.val (.long p0), .second, .val (.int p1), .val (.ref b3), .val (.long (0 : Int64)), .second, .val (.int (1 : Int32)), .val (.int (1 : Int32)), .val (.int (1 : Int32))] [])
        refine own_step (fun _ k => XS.iload X17.here hx rfl (hb hby at_104) rfl k) ?_
        show own_Wp p e below _ T17 (mkF m 106 #[.val (.long p0), .second, .val (.int p1), .val (.ref b3), .val (.long (0 : Int64)), .second, .val (.int (1 : Int32)), .val (.int (1 : Int32)), .val (.int (1 : Int32))] [(.int (1 : Int32))])
        refine own_step (fun _ k => XS.ifNo X17.here hx rfl (hb hby at_106) rfl (by decide) k) ?_
        show own_Wp p e below _ T17 (mkF m 109 #[.val (.long p0), .second, .val (.int p1), .val (.ref b3), .val (.long (0 : Int64)), .second, .val (.int (1 : Int32)), .val (.int (1 : Int32)), .val (.int (1 : Int32))] [])
        refine own_step (fun _ k => XS.iconst X17.here hx rfl (hb hby at_109) k) ?_
        show own_Wp p e below _ T17 (mkF m 110 #[.val (.long p0), .second, .val (.int p1), .val (.ref b3), .val (.long (0 : Int64)), .second, .val (.int (1 : Int32)), .val (.int (1 : Int32)), .val (.int (1 : Int32))] [(.int (1 : Int32))])
        refine own_step (fun _ k => XS.goto X17.here hx rfl (pc0 := 110) (pc' := 114) rfl (hb hby at_110) (by decide) (by decide) k) ?_
        show own_Wp p e below _ T17 (mkF m 114 #[.val (.long p0), .second, .val (.int p1), .val (.ref b3), .val (.long (0 : Int64)), .second, .val (.int (1 : Int32)), .val (.int (1 : Int32)), .val (.int (1 : Int32))] [(.int (1 : Int32))])
        exact own_retN X17 hx (t := .boolean) hret (by simp) hlk (hb hby at_114) (by decide) (by decide) ⟨rfl, N17b⟩
    · skip
      have N4c := Fr.app (Fr.nil n0) N4cq
      show own_Wp p e below _ T4 (mkF m 18 #[.val (.long p0), .second, .val (.int p1), .unset, .unset, .unset, .unset, .unset, .unset] [(.ref (w0_STOCK Z)), (.ref b3), (.ref b3)])
      refine own_step (fun _ k => XS.lloadN X4.here hx rfl (hb hby at_18) rfl k) ?_
      show own_Wp p e below _ T4 (mkF m 19 #[.val (.long p0), .second, .val (.int p1), .unset, .unset, .unset, .unset, .unset, .unset] [(.long p0), (.ref (w0_STOCK Z)), (.ref b3), (.ref b3)])
      obtain ⟨_, T27, L27, X27, hQ27, st27⟩ := own_callN X4 hx hZ rfl hown (hw _ (List.mem_of_getElem? (i := 12) rfl)) (hw _ (List.mem_of_getElem? (i := 13) rfl)) (hw _ (List.mem_of_getElem? (i := 3) rfl)) (hw _ (List.mem_of_getElem? (i := 14) rfl)) (by decide) (rm2_2 l Z a0 hw hA [] b3 (w0_STOCK Z) p0 h3 n0 O3 A3 F3_24 F3_26 g3) (b := b3) (W := 1) (by decide) (by decide) [(.ref (w0_STOCK Z)), (.long p0)] rfl (lenOf pd5 rfl) (Ls := #[.val (.long p0), .second, .val (.int p1), .unset, .unset, .unset, .unset, .unset, .unset]) (by rw [hml]; rfl) (rest := [(.ref b3)]) (Nat.le_of_eq rfl) (hb hby at_19) e4c (by decide) (by decide)
      refine st27 _ ?_
      obtain ⟨rfl, N27q, K27q, F27_0, F27_1, F27_2⟩ := hQ27
      have N27 := Fr.app N4c N27q
      have O27 := O3.keep K27q (allS g3 all0)
      have K27 : Keep h0 T27.heap [] := Keep.trans K3 K27q (allS (Or.inr y3) all0)
      show own_Wp p e below _ T27 (mkF m 22 #[.val (.long p0), .second, .val (.int p1), .unset, .unset, .unset, .unset, .unset, .unset] [(.ref b3)])
      refine own_step (fun _ k => XS.astoreN X27.here hx rfl (hb hby at_22) rfl rfl (l' := #[.val (.long p0), .second, .val (.int p1), .val (.ref b3), .unset, .unset, .unset, .unset, .unset]) rfl k) ?_
      show own_Wp p e below _ T27 (mkF m 23 #[.val (.long p0), .second, .val (.int p1), .val (.ref b3), .unset, .unset, .unset, .unset, .unset] [])
      refine own_step (fun _ k => XS.aloadN X27.here hx rfl (hb hby at_23) rfl rfl k) ?_
      show own_Wp p e below _ T27 (mkF m 24 #[.val (.long p0), .second, .val (.int p1), .val (.ref b3), .unset, .unset, .unset, .unset, .unset] [(.ref b3)])
      obtain ⟨_, T28, L28, X28, hQ28, st28⟩ := own_callV X27 hx hZ hown (hw _ (List.mem_of_getElem? (i := 27) rfl)) (hw _ (List.mem_of_getElem? (i := 28) rfl)) (notFace_of_selects (args := #[]) (mvT hZ (hw _ (List.mem_of_getElem? (i := 30) rfl)))) (hw _ (List.mem_of_getElem? (i := 30) rfl)) (hw _ (List.mem_of_getElem? (i := 29) rfl)) (hw _ (List.mem_of_getElem? (i := 3) rfl)) (hw _ (List.mem_of_getElem? (i := 31) rfl)) (by decide) F27_0 (rm5_3 l Z a0 hw hA [] b3 p0 T27.heap n0 O27 F27_2) (W := 0) (by decide) (by decide) [] rfl (lenOf pd6 rfl) (Ls := #[.val (.long p0), .second, .val (.int p1), .val (.ref b3), .unset, .unset, .unset, .unset, .unset]) (by rw [hml]; rfl) (rest := []) (Nat.le_of_eq rfl) (hb hby at_24) rfl (by decide) (by decide)
      refine st28 _ ?_
      rcases hQ28 with ⟨hq28a_0, rfl, N28aq, e28a⟩ | ⟨hq28b_0, rfl, N28bq, e28b⟩
      · skip
        have N28a := Fr.app N27 N28aq
        show own_Wp p e below _ T28 (mkF m 27 #[.val (.long p0), .second, .val (.int p1), .val (.ref b3), .unset, .unset, .unset, .unset, .unset] [(.long (-p0))])
        refine own_step (fun _ k => XS.lstore X28.here hx rfl (hb hby at_27) rfl (l' := #[.val (.long p0), .second, .val (.int p1), .val (.ref b3), .val (.long (-p0)), .second, .unset, .unset, .unset]) rfl k) ?_
        show own_Wp p e below _ T28 (mkF m 29 #[.val (.long p0), .second, .val (.int p1), .val (.ref b3), .val (.long (-p0)), .second, .unset, .unset, .unset] [])
        refine own_step (fun _ k => XS.lload X28.here hx rfl (hb hby at_29) rfl k) ?_
        show own_Wp p e below _ T28 (mkF m 31 #[.val (.long p0), .second, .val (.int p1), .val (.ref b3), .val (.long (-p0)), .second, .unset, .unset, .unset] [(.long (-p0))])
        refine own_step (fun _ k => XS.lconst X28.here hx rfl (hb hby at_31) k) ?_
        show own_Wp p e below _ T28 (mkF m 32 #[.val (.long p0), .second, .val (.int p1), .val (.ref b3), .val (.long (-p0)), .second, .unset, .unset, .unset] [(.long (0 : Int64)), (.long (-p0))])
        refine own_step (fun _ k => XS.lcmp X28.here hx rfl (hb hby at_32) rfl k) ?_
        show own_Wp p e below _ T28 (mkF m 33 #[.val (.long p0), .second, .val (.int p1), .val (.ref b3), .val (.long (-p0)), .second, .unset, .unset, .unset] [(.int (lcmpW (-p0) (0 : Int64)))])
        refine own_step (fun _ k => XS.ifNo X28.here hx rfl (hb hby at_33) rfl (own_lcltN (own_lo1 hq28a_0 hc2)) k) ?_
        show own_Wp p e below _ T28 (mkF m 36 #[.val (.long p0), .second, .val (.int p1), .val (.ref b3), .val (.long (-p0)), .second, .unset, .unset, .unset] [])
        refine own_step (fun _ k => XS.iconst X28.here hx rfl (hb hby at_36) k) ?_
        show own_Wp p e below _ T28 (mkF m 37 #[.val (.long p0), .second, .val (.int p1), .val (.ref b3), .val (.long (-p0)), .second, .unset, .unset, .unset] [(.int (1 : Int32))])
        refine own_step (fun _ k => XS.goto X28.here hx rfl (pc0 := 37) (pc' := 41) rfl (hb hby at_37) (by decide) (by decide) k) ?_
        show own_Wp p e below _ T28 (mkF m 41 #[.val (.long p0), .second, .val (.int p1), .val (.ref b3), .val (.long (-p0)), .second, .unset, .unset, .unset] [(.int (1 : Int32))])
        refine own_step (fun _ k => XS.istore X28.here hx rfl (hb hby at_41) rfl (l' := #[.val (.long p0), .second, .val (.int p1), .val (.ref b3), .val (.long (-p0)), .second, .val (.int (1 : Int32)), .unset, .unset]) rfl k) ?_
        show own_Wp p e below _ T28 (mkF m 43 #[.val (.long p0), .second, .val (.int p1), .val (.ref b3), .val (.long (-p0)), .second, .val (.int (1 : Int32)), .unset, .unset] [])
        refine own_step (fun _ k => XS.lloadN X28.here hx rfl (hb hby at_43) rfl k) ?_
        show own_Wp p e below _ T28 (mkF m 44 #[.val (.long p0), .second, .val (.int p1), .val (.ref b3), .val (.long (-p0)), .second, .val (.int (1 : Int32)), .unset, .unset] [(.long p0)])
        refine own_step (fun _ k => XS.lconst X28.here hx rfl (hb hby at_44) k) ?_
        show own_Wp p e below _ T28 (mkF m 45 #[.val (.long p0), .second, .val (.int p1), .val (.ref b3), .val (.long (-p0)), .second, .val (.int (1 : Int32)), .unset, .unset] [(.long (0 : Int64)), (.long p0)])
        refine own_step (fun _ k => XS.lcmp X28.here hx rfl (hb hby at_45) rfl k) ?_
        show own_Wp p e below _ T28 (mkF m 46 #[.val (.long p0), .second, .val (.int p1), .val (.ref b3), .val (.long (-p0)), .second, .val (.int (1 : Int32)), .unset, .unset] [(.int (lcmpW p0 (0 : Int64)))])
        refine own_step (fun _ k => XS.ifNo X28.here hx rfl (hb hby at_46) rfl (own_lcgeN hq28a_0) k) ?_
        show own_Wp p e below _ T28 (mkF m 49 #[.val (.long p0), .second, .val (.int p1), .val (.ref b3), .val (.long (-p0)), .second, .val (.int (1 : Int32)), .unset, .unset] [])
        refine own_step (fun _ k => XS.lload X28.here hx rfl (hb hby at_49) rfl k) ?_
        show own_Wp p e below _ T28 (mkF m 51 #[.val (.long p0), .second, .val (.int p1), .val (.ref b3), .val (.long (-p0)), .second, .val (.int (1 : Int32)), .unset, .unset] [(.long (-p0))])
        refine own_step (fun _ k => XS.lloadN X28.here hx rfl (hb hby at_51) rfl k) ?_
        show own_Wp p e below _ T28 (mkF m 52 #[.val (.long p0), .second, .val (.int p1), .val (.ref b3), .val (.long (-p0)), .second, .val (.int (1 : Int32)), .unset, .unset] [(.long p0), (.long (-p0))])
        refine own_step (fun _ k => XS.lneg X28.here hx rfl (hb hby at_52) rfl k) ?_
        show own_Wp p e below _ T28 (mkF m 53 #[.val (.long p0), .second, .val (.int p1), .val (.ref b3), .val (.long (-p0)), .second, .val (.int (1 : Int32)), .unset, .unset] [(.long (-p0)), (.long (-p0))])
        refine own_step (fun _ k => XS.lcmp X28.here hx rfl (hb hby at_53) rfl k) ?_
        show own_Wp p e below _ T28 (mkF m 54 #[.val (.long p0), .second, .val (.int p1), .val (.ref b3), .val (.long (-p0)), .second, .val (.int (1 : Int32)), .unset, .unset] [(.int (lcmpW (-p0) (-p0)))])
        refine own_step (fun _ k => XS.ifNo X28.here hx rfl (hb hby at_54) rfl (own_lcltN (fun q => absurd q Int64.lt_irrefl)) k) ?_
        show own_Wp p e below _ T28 (mkF m 57 #[.val (.long p0), .second, .val (.int p1), .val (.ref b3), .val (.long (-p0)), .second, .val (.int (1 : Int32)), .unset, .unset] [])
        refine own_step (fun _ k => XS.iconst X28.here hx rfl (hb hby at_57) k) ?_
        show own_Wp p e below _ T28 (mkF m 58 #[.val (.long p0), .second, .val (.int p1), .val (.ref b3), .val (.long (-p0)), .second, .val (.int (1 : Int32)), .unset, .unset] [(.int (1 : Int32))])
        refine own_step (fun _ k => XS.goto X28.here hx rfl (pc0 := 58) (pc' := 62) rfl (hb hby at_58) (by decide) (by decide) k) ?_
        show own_Wp p e below _ T28 (mkF m 62 #[.val (.long p0), .second, .val (.int p1), .val (.ref b3), .val (.long (-p0)), .second, .val (.int (1 : Int32)), .unset, .unset] [(.int (1 : Int32))])
        refine own_step (fun _ k => XS.istore X28.here hx rfl (hb hby at_62) rfl (l' := #[.val (.long p0), .second, .val (.int p1), .val (.ref b3), .val (.long (-p0)), .second, .val (.int (1 : Int32)), .val (.int (1 : Int32)), .unset]) rfl k) ?_
        show own_Wp p e below _ T28 (mkF m 64 #[.val (.long p0), .second, .val (.int p1), .val (.ref b3), .val (.long (-p0)), .second, .val (.int (1 : Int32)), .val (.int (1 : Int32)), .unset] [])
        refine own_step (fun _ k => XS.lload X28.here hx rfl (hb hby at_64) rfl k) ?_
        show own_Wp p e below _ T28 (mkF m 66 #[.val (.long p0), .second, .val (.int p1), .val (.ref b3), .val (.long (-p0)), .second, .val (.int (1 : Int32)), .val (.int (1 : Int32)), .unset] [(.long (-p0))])
        refine own_step (fun _ k => XS.lconst X28.here hx rfl (hb hby at_66) k) ?_
        show own_Wp p e below _ T28 (mkF m 67 #[.val (.long p0), .second, .val (.int p1), .val (.ref b3), .val (.long (-p0)), .second, .val (.int (1 : Int32)), .val (.int (1 : Int32)), .unset] [(.long (0 : Int64)), (.long (-p0))])
        refine own_step (fun _ k => XS.lcmp X28.here hx rfl (hb hby at_67) rfl k) ?_
        show own_Wp p e below _ T28 (mkF m 68 #[.val (.long p0), .second, .val (.int p1), .val (.ref b3), .val (.long (-p0)), .second, .val (.int (1 : Int32)), .val (.int (1 : Int32)), .unset] [(.int (lcmpW (-p0) (0 : Int64)))])
        refine own_step (fun _ k => XS.ifNo X28.here hx rfl (hb hby at_68) rfl (own_lceqN (own_lo2 hq28a_0)) k) ?_
        show own_Wp p e below _ T28 (mkF m 71 #[.val (.long p0), .second, .val (.int p1), .val (.ref b3), .val (.long (-p0)), .second, .val (.int (1 : Int32)), .val (.int (1 : Int32)), .unset] [])
        refine own_step (fun _ k => XS.lloadN X28.here hx rfl (hb hby at_71) rfl k) ?_
        show own_Wp p e below _ T28 (mkF m 72 #[.val (.long p0), .second, .val (.int p1), .val (.ref b3), .val (.long (-p0)), .second, .val (.int (1 : Int32)), .val (.int (1 : Int32)), .unset] [(.long p0)])
        refine own_step (fun _ k => XS.lconst X28.here hx rfl (hb hby at_72) k) ?_
        show own_Wp p e below _ T28 (mkF m 73 #[.val (.long p0), .second, .val (.int p1), .val (.ref b3), .val (.long (-p0)), .second, .val (.int (1 : Int32)), .val (.int (1 : Int32)), .unset] [(.long (0 : Int64)), (.long p0)])
        refine own_step (fun _ k => XS.lcmp X28.here hx rfl (hb hby at_73) rfl k) ?_
        show own_Wp p e below _ T28 (mkF m 74 #[.val (.long p0), .second, .val (.int p1), .val (.ref b3), .val (.long (-p0)), .second, .val (.int (1 : Int32)), .val (.int (1 : Int32)), .unset] [(.int (lcmpW p0 (0 : Int64)))])
        refine own_step (fun _ k => XS.ifNo X28.here hx rfl (hb hby at_74) rfl (own_lcgeN hq28a_0) k) ?_
        show own_Wp p e below _ T28 (mkF m 77 #[.val (.long p0), .second, .val (.int p1), .val (.ref b3), .val (.long (-p0)), .second, .val (.int (1 : Int32)), .val (.int (1 : Int32)), .unset] [])
        refine own_step (fun _ k => XS.lload X28.here hx rfl (hb hby at_77) rfl k) ?_
        show own_Wp p e below _ T28 (mkF m 79 #[.val (.long p0), .second, .val (.int p1), .val (.ref b3), .val (.long (-p0)), .second, .val (.int (1 : Int32)), .val (.int (1 : Int32)), .unset] [(.long (-p0))])
        refine own_step (fun _ k => XS.lconst X28.here hx rfl (hb hby at_79) k) ?_
        show own_Wp p e below _ T28 (mkF m 80 #[.val (.long p0), .second, .val (.int p1), .val (.ref b3), .val (.long (-p0)), .second, .val (.int (1 : Int32)), .val (.int (1 : Int32)), .unset] [(.long (1 : Int64)), (.long (-p0))])
        refine own_step (fun _ k => XS.lsub X28.here hx rfl (hb hby at_80) rfl k) ?_
        show own_Wp p e below _ T28 (mkF m 81 #[.val (.long p0), .second, .val (.int p1), .val (.ref b3), .val (.long (-p0)), .second, .val (.int (1 : Int32)), .val (.int (1 : Int32)), .unset] [(.long ((-p0) - (1 : Int64)))])
        refine own_step (fun _ k => XS.lloadN X28.here hx rfl (hb hby at_81) rfl k) ?_
        show own_Wp p e below _ T28 (mkF m 82 #[.val (.long p0), .second, .val (.int p1), .val (.ref b3), .val (.long (-p0)), .second, .val (.int (1 : Int32)), .val (.int (1 : Int32)), .unset] [(.long p0), (.long ((-p0) - (1 : Int64)))])
        refine own_step (fun _ k => XS.lneg X28.here hx rfl (hb hby at_82) rfl k) ?_
        show own_Wp p e below _ T28 (mkF m 83 #[.val (.long p0), .second, .val (.int p1), .val (.ref b3), .val (.long (-p0)), .second, .val (.int (1 : Int32)), .val (.int (1 : Int32)), .unset] [(.long (-p0)), (.long ((-p0) - (1 : Int64)))])
        refine own_step (fun _ k => XS.lcmp X28.here hx rfl (hb hby at_83) rfl k) ?_
        show own_Wp p e below _ T28 (mkF m 84 #[.val (.long p0), .second, .val (.int p1), .val (.ref b3), .val (.long (-p0)), .second, .val (.int (1 : Int32)), .val (.int (1 : Int32)), .unset] [(.int (lcmpW ((-p0) - (1 : Int64)) (-p0)))])
        refine own_step (fun _ k => XS.ifNo X28.here hx rfl (hb hby at_84) rfl (own_lcgeN (own_lo3 hq28a_0 hc2)) k) ?_
        show own_Wp p e below _ T28 (mkF m 87 #[.val (.long p0), .second, .val (.int p1), .val (.ref b3), .val (.long (-p0)), .second, .val (.int (1 : Int32)), .val (.int (1 : Int32)), .unset] [])
        refine own_step (fun _ k => XS.iconst X28.here hx rfl (hb hby at_87) k) ?_
        show own_Wp p e below _ T28 (mkF m 88 #[.val (.long p0), .second, .val (.int p1), .val (.ref b3), .val (.long (-p0)), .second, .val (.int (1 : Int32)), .val (.int (1 : Int32)), .unset] [(.int (1 : Int32))])
        refine own_step (fun _ k => XS.goto X28.here hx rfl (pc0 := 88) (pc' := 92) rfl (hb hby at_88) (by decide) (by decide) k) ?_
        show own_Wp p e below _ T28 (mkF m 92 #[.val (.long p0), .second, .val (.int p1), .val (.ref b3), .val (.long (-p0)), .second, .val (.int (1 : Int32)), .val (.int (1 : Int32)), .unset] [(.int (1 : Int32))])
        refine own_step (fun _ k => XS.istore X28.here hx rfl (hb hby at_92) rfl (l' := #[.val (.long p0), .second, .val (.int p1), .val (.ref b3), .val (.long (-p0)), .second, .val (.int (1 : Int32)), .val (.int (1 : Int32)), .val (.int (1 : Int32))]) rfl k) ?_
        show own_Wp p e below _ T28 (mkF m 94 #[.val (.long p0), .second, .val (.int p1), .val (.ref b3), .val (.long (-p0)), .second, .val (.int (1 : Int32)), .val (.int (1 : Int32)), .val (.int (1 : Int32))] [])
        refine own_step (fun _ k => XS.iload X28.here hx rfl (hb hby at_94) rfl k) ?_
        show own_Wp p e below _ T28 (mkF m 96 #[.val (.long p0), .second, .val (.int p1), .val (.ref b3), .val (.long (-p0)), .second, .val (.int (1 : Int32)), .val (.int (1 : Int32)), .val (.int (1 : Int32))] [(.int (1 : Int32))])
        refine own_step (fun _ k => XS.ifNo X28.here hx rfl (hb hby at_96) rfl (by decide) k) ?_
        show own_Wp p e below _ T28 (mkF m 99 #[.val (.long p0), .second, .val (.int p1), .val (.ref b3), .val (.long (-p0)), .second, .val (.int (1 : Int32)), .val (.int (1 : Int32)), .val (.int (1 : Int32))] [])
        refine own_step (fun _ k => XS.iload X28.here hx rfl (hb hby at_99) rfl k) ?_
        show own_Wp p e below _ T28 (mkF m 101 #[.val (.long p0), .second, .val (.int p1), .val (.ref b3), .val (.long (-p0)), .second, .val (.int (1 : Int32)), .val (.int (1 : Int32)), .val (.int (1 : Int32))] [(.int (1 : Int32))])
        refine own_step (fun _ k => XS.ifNo X28.here hx rfl (hb hby at_101) rfl (by decide) k) ?_
        show own_Wp p e below _ T28 (mkF m 104 #[.val (.long p0), .second, .val (.int p1), .val (.ref b3), .val (.long (-p0)), .second, .val (.int (1 : Int32)), .val (.int (1 : Int32)), .val (.int (1 : Int32))] [])
        refine own_step (fun _ k => XS.iload X28.here hx rfl (hb hby at_104) rfl k) ?_
        show own_Wp p e below _ T28 (mkF m 106 #[.val (.long p0), .second, .val (.int p1), .val (.ref b3), .val (.long (-p0)), .second, .val (.int (1 : Int32)), .val (.int (1 : Int32)), .val (.int (1 : Int32))] [(.int (1 : Int32))])
        refine own_step (fun _ k => XS.ifNo X28.here hx rfl (hb hby at_106) rfl (by decide) k) ?_
        show own_Wp p e below _ T28 (mkF m 109 #[.val (.long p0), .second, .val (.int p1), .val (.ref b3), .val (.long (-p0)), .second, .val (.int (1 : Int32)), .val (.int (1 : Int32)), .val (.int (1 : Int32))] [])
        refine own_step (fun _ k => XS.iconst X28.here hx rfl (hb hby at_109) k) ?_
        show own_Wp p e below _ T28 (mkF m 110 #[.val (.long p0), .second, .val (.int p1), .val (.ref b3), .val (.long (-p0)), .second, .val (.int (1 : Int32)), .val (.int (1 : Int32)), .val (.int (1 : Int32))] [(.int (1 : Int32))])
        refine own_step (fun _ k => XS.goto X28.here hx rfl (pc0 := 110) (pc' := 114) rfl (hb hby at_110) (by decide) (by decide) k) ?_
        show own_Wp p e below _ T28 (mkF m 114 #[.val (.long p0), .second, .val (.int p1), .val (.ref b3), .val (.long (-p0)), .second, .val (.int (1 : Int32)), .val (.int (1 : Int32)), .val (.int (1 : Int32))] [(.int (1 : Int32))])
        exact own_retN X28 hx (t := .boolean) hret (by simp) hlk (hb hby at_114) (by decide) (by decide) ⟨rfl, N28a⟩
      · skip
        have N28b := Fr.app N27 N28bq
        show own_Wp p e below _ T28 (mkF m 27 #[.val (.long p0), .second, .val (.int p1), .val (.ref b3), .unset, .unset, .unset, .unset, .unset] [(.long (0 : Int64))])
        refine own_step (fun _ k => XS.lstore X28.here hx rfl (hb hby at_27) rfl (l' := #[.val (.long p0), .second, .val (.int p1), .val (.ref b3), .val (.long (0 : Int64)), .second, .unset, .unset, .unset]) rfl k) ?_
        show own_Wp p e below _ T28 (mkF m 29 #[.val (.long p0), .second, .val (.int p1), .val (.ref b3), .val (.long (0 : Int64)), .second, .unset, .unset, .unset] [])
        refine own_step (fun _ k => XS.lload X28.here hx rfl (hb hby at_29) rfl k) ?_
        show own_Wp p e below _ T28 (mkF m 31 #[.val (.long p0), .second, .val (.int p1), .val (.ref b3), .val (.long (0 : Int64)), .second, .unset, .unset, .unset] [(.long (0 : Int64))])
        refine own_step (fun _ k => XS.lconst X28.here hx rfl (hb hby at_31) k) ?_
        show own_Wp p e below _ T28 (mkF m 32 #[.val (.long p0), .second, .val (.int p1), .val (.ref b3), .val (.long (0 : Int64)), .second, .unset, .unset, .unset] [(.long (0 : Int64)), (.long (0 : Int64))])
        refine own_step (fun _ k => XS.lcmp X28.here hx rfl (hb hby at_32) rfl k) ?_
        show own_Wp p e below _ T28 (mkF m 33 #[.val (.long p0), .second, .val (.int p1), .val (.ref b3), .val (.long (0 : Int64)), .second, .unset, .unset, .unset] [(.int (lcmpW (0 : Int64) (0 : Int64)))])
        refine own_step (fun _ k => XS.ifNo X28.here hx rfl (hb hby at_33) rfl (own_lcltN (by decide)) k) ?_
        show own_Wp p e below _ T28 (mkF m 36 #[.val (.long p0), .second, .val (.int p1), .val (.ref b3), .val (.long (0 : Int64)), .second, .unset, .unset, .unset] [])
        refine own_step (fun _ k => XS.iconst X28.here hx rfl (hb hby at_36) k) ?_
        show own_Wp p e below _ T28 (mkF m 37 #[.val (.long p0), .second, .val (.int p1), .val (.ref b3), .val (.long (0 : Int64)), .second, .unset, .unset, .unset] [(.int (1 : Int32))])
        refine own_step (fun _ k => XS.goto X28.here hx rfl (pc0 := 37) (pc' := 41) rfl (hb hby at_37) (by decide) (by decide) k) ?_
        show own_Wp p e below _ T28 (mkF m 41 #[.val (.long p0), .second, .val (.int p1), .val (.ref b3), .val (.long (0 : Int64)), .second, .unset, .unset, .unset] [(.int (1 : Int32))])
        refine own_step (fun _ k => XS.istore X28.here hx rfl (hb hby at_41) rfl (l' := #[.val (.long p0), .second, .val (.int p1), .val (.ref b3), .val (.long (0 : Int64)), .second, .val (.int (1 : Int32)), .unset, .unset]) rfl k) ?_
        show own_Wp p e below _ T28 (mkF m 43 #[.val (.long p0), .second, .val (.int p1), .val (.ref b3), .val (.long (0 : Int64)), .second, .val (.int (1 : Int32)), .unset, .unset] [])
        refine own_step (fun _ k => XS.lloadN X28.here hx rfl (hb hby at_43) rfl k) ?_
        show own_Wp p e below _ T28 (mkF m 44 #[.val (.long p0), .second, .val (.int p1), .val (.ref b3), .val (.long (0 : Int64)), .second, .val (.int (1 : Int32)), .unset, .unset] [(.long p0)])
        refine own_step (fun _ k => XS.lconst X28.here hx rfl (hb hby at_44) k) ?_
        show own_Wp p e below _ T28 (mkF m 45 #[.val (.long p0), .second, .val (.int p1), .val (.ref b3), .val (.long (0 : Int64)), .second, .val (.int (1 : Int32)), .unset, .unset] [(.long (0 : Int64)), (.long p0)])
        refine own_step (fun _ k => XS.lcmp X28.here hx rfl (hb hby at_45) rfl k) ?_
        show own_Wp p e below _ T28 (mkF m 46 #[.val (.long p0), .second, .val (.int p1), .val (.ref b3), .val (.long (0 : Int64)), .second, .val (.int (1 : Int32)), .unset, .unset] [(.int (lcmpW p0 (0 : Int64)))])
        refine own_step (fun _ k => XS.ifYes X28.here hx rfl (pc0 := 46) (pc' := 57) rfl (hb hby at_46) rfl (own_lcgeY hq28b_0) (by decide) (by decide) k) ?_
        show own_Wp p e below _ T28 (mkF m 57 #[.val (.long p0), .second, .val (.int p1), .val (.ref b3), .val (.long (0 : Int64)), .second, .val (.int (1 : Int32)), .unset, .unset] [])
        refine own_step (fun _ k => XS.iconst X28.here hx rfl (hb hby at_57) k) ?_
        show own_Wp p e below _ T28 (mkF m 58 #[.val (.long p0), .second, .val (.int p1), .val (.ref b3), .val (.long (0 : Int64)), .second, .val (.int (1 : Int32)), .unset, .unset] [(.int (1 : Int32))])
        refine own_step (fun _ k => XS.goto X28.here hx rfl (pc0 := 58) (pc' := 62) rfl (hb hby at_58) (by decide) (by decide) k) ?_
        show own_Wp p e below _ T28 (mkF m 62 #[.val (.long p0), .second, .val (.int p1), .val (.ref b3), .val (.long (0 : Int64)), .second, .val (.int (1 : Int32)), .unset, .unset] [(.int (1 : Int32))])
        refine own_step (fun _ k => XS.istore X28.here hx rfl (hb hby at_62) rfl (l' := #[.val (.long p0), .second, .val (.int p1), .val (.ref b3), .val (.long (0 : Int64)), .second, .val (.int (1 : Int32)), .val (.int (1 : Int32)), .unset]) rfl k) ?_
        show own_Wp p e below _ T28 (mkF m 64 #[.val (.long p0), .second, .val (.int p1), .val (.ref b3), .val (.long (0 : Int64)), .second, .val (.int (1 : Int32)), .val (.int (1 : Int32)), .unset] [])
        refine own_step (fun _ k => XS.lload X28.here hx rfl (hb hby at_64) rfl k) ?_
        show own_Wp p e below _ T28 (mkF m 66 #[.val (.long p0), .second, .val (.int p1), .val (.ref b3), .val (.long (0 : Int64)), .second, .val (.int (1 : Int32)), .val (.int (1 : Int32)), .unset] [(.long (0 : Int64))])
        refine own_step (fun _ k => XS.lconst X28.here hx rfl (hb hby at_66) k) ?_
        show own_Wp p e below _ T28 (mkF m 67 #[.val (.long p0), .second, .val (.int p1), .val (.ref b3), .val (.long (0 : Int64)), .second, .val (.int (1 : Int32)), .val (.int (1 : Int32)), .unset] [(.long (0 : Int64)), (.long (0 : Int64))])
        refine own_step (fun _ k => XS.lcmp X28.here hx rfl (hb hby at_67) rfl k) ?_
        show own_Wp p e below _ T28 (mkF m 68 #[.val (.long p0), .second, .val (.int p1), .val (.ref b3), .val (.long (0 : Int64)), .second, .val (.int (1 : Int32)), .val (.int (1 : Int32)), .unset] [(.int (lcmpW (0 : Int64) (0 : Int64)))])
        refine own_step (fun _ k => XS.ifYes X28.here hx rfl (pc0 := 68) (pc' := 87) rfl (hb hby at_68) rfl (own_lceqY (by decide)) (by decide) (by decide) k) ?_
        show own_Wp p e below _ T28 (mkF m 87 #[.val (.long p0), .second, .val (.int p1), .val (.ref b3), .val (.long (0 : Int64)), .second, .val (.int (1 : Int32)), .val (.int (1 : Int32)), .unset] [])
        refine own_step (fun _ k => XS.iconst X28.here hx rfl (hb hby at_87) k) ?_
        show own_Wp p e below _ T28 (mkF m 88 #[.val (.long p0), .second, .val (.int p1), .val (.ref b3), .val (.long (0 : Int64)), .second, .val (.int (1 : Int32)), .val (.int (1 : Int32)), .unset] [(.int (1 : Int32))])
        refine own_step (fun _ k => XS.goto X28.here hx rfl (pc0 := 88) (pc' := 92) rfl (hb hby at_88) (by decide) (by decide) k) ?_
        show own_Wp p e below _ T28 (mkF m 92 #[.val (.long p0), .second, .val (.int p1), .val (.ref b3), .val (.long (0 : Int64)), .second, .val (.int (1 : Int32)), .val (.int (1 : Int32)), .unset] [(.int (1 : Int32))])
        refine own_step (fun _ k => XS.istore X28.here hx rfl (hb hby at_92) rfl (l' := #[.val (.long p0), .second, .val (.int p1), .val (.ref b3), .val (.long (0 : Int64)), .second, .val (.int (1 : Int32)), .val (.int (1 : Int32)), .val (.int (1 : Int32))]) rfl k) ?_
        show own_Wp p e below _ T28 (mkF m 94 #[.val (.long p0), .second, .val (.int p1), .val (.ref b3), .val (.long (0 : Int64)), .second, .val (.int (1 : Int32)), .val (.int (1 : Int32)), .val (.int (1 : Int32))] [])
        refine own_step (fun _ k => XS.iload X28.here hx rfl (hb hby at_94) rfl k) ?_
        show own_Wp p e below _ T28 (mkF m 96 #[.val (.long p0), .second, .val (.int p1), .val (.ref b3), .val (.long (0 : Int64)), .second, .val (.int (1 : Int32)), .val (.int (1 : Int32)), .val (.int (1 : Int32))] [(.int (1 : Int32))])
        refine own_step (fun _ k => XS.ifNo X28.here hx rfl (hb hby at_96) rfl (by decide) k) ?_
        show own_Wp p e below _ T28 (mkF m 99 #[.val (.long p0), .second, .val (.int p1), .val (.ref b3), .val (.long (0 : Int64)), .second, .val (.int (1 : Int32)), .val (.int (1 : Int32)), .val (.int (1 : Int32))] [])
        refine own_step (fun _ k => XS.iload X28.here hx rfl (hb hby at_99) rfl k) ?_
        show own_Wp p e below _ T28 (mkF m 101 #[.val (.long p0), .second, .val (.int p1), .val (.ref b3), .val (.long (0 : Int64)), .second, .val (.int (1 : Int32)), .val (.int (1 : Int32)), .val (.int (1 : Int32))] [(.int (1 : Int32))])
        refine own_step (fun _ k => XS.ifNo X28.here hx rfl (hb hby at_101) rfl (by decide) k) ?_
        show own_Wp p e below _ T28 (mkF m 104 #[.val (.long p0), .second, .val (.int p1), .val (.ref b3), .val (.long (0 : Int64)), .second, .val (.int (1 : Int32)), .val (.int (1 : Int32)), .val (.int (1 : Int32))] [])
        refine own_step (fun _ k => XS.iload X28.here hx rfl (hb hby at_104) rfl k) ?_
        show own_Wp p e below _ T28 (mkF m 106 #[.val (.long p0), .second, .val (.int p1), .val (.ref b3), .val (.long (0 : Int64)), .second, .val (.int (1 : Int32)), .val (.int (1 : Int32)), .val (.int (1 : Int32))] [(.int (1 : Int32))])
        refine own_step (fun _ k => XS.ifNo X28.here hx rfl (hb hby at_106) rfl (by decide) k) ?_
        show own_Wp p e below _ T28 (mkF m 109 #[.val (.long p0), .second, .val (.int p1), .val (.ref b3), .val (.long (0 : Int64)), .second, .val (.int (1 : Int32)), .val (.int (1 : Int32)), .val (.int (1 : Int32))] [])
        refine own_step (fun _ k => XS.iconst X28.here hx rfl (hb hby at_109) k) ?_
        show own_Wp p e below _ T28 (mkF m 110 #[.val (.long p0), .second, .val (.int p1), .val (.ref b3), .val (.long (0 : Int64)), .second, .val (.int (1 : Int32)), .val (.int (1 : Int32)), .val (.int (1 : Int32))] [(.int (1 : Int32))])
        refine own_step (fun _ k => XS.goto X28.here hx rfl (pc0 := 110) (pc' := 114) rfl (hb hby at_110) (by decide) (by decide) k) ?_
        show own_Wp p e below _ T28 (mkF m 114 #[.val (.long p0), .second, .val (.int p1), .val (.ref b3), .val (.long (0 : Int64)), .second, .val (.int (1 : Int32)), .val (.int (1 : Int32)), .val (.int (1 : Int32))] [(.int (1 : Int32))])
        exact own_retN X28 hx (t := .boolean) hret (by simp) hlk (hb hby at_114) (by decide) (by decide) ⟨rfl, N28b⟩
    · skip
      have N4d := Fr.app (Fr.nil n0) N4dq
      show own_Wp p e below _ T4 (mkF m 18 #[.val (.long p0), .second, .val (.int p1), .unset, .unset, .unset, .unset, .unset, .unset] [(.ref (w2_WALLET_FROZEN Z)), (.ref b3), (.ref b3)])
      refine own_step (fun _ k => XS.lloadN X4.here hx rfl (hb hby at_18) rfl k) ?_
      show own_Wp p e below _ T4 (mkF m 19 #[.val (.long p0), .second, .val (.int p1), .unset, .unset, .unset, .unset, .unset, .unset] [(.long p0), (.ref (w2_WALLET_FROZEN Z)), (.ref b3), (.ref b3)])
      obtain ⟨_, T38, L38, X38, hQ38, st38⟩ := own_callN X4 hx hZ rfl hown (hw _ (List.mem_of_getElem? (i := 12) rfl)) (hw _ (List.mem_of_getElem? (i := 13) rfl)) (hw _ (List.mem_of_getElem? (i := 3) rfl)) (hw _ (List.mem_of_getElem? (i := 14) rfl)) (by decide) (rm2_2 l Z a0 hw hA [] b3 (w2_WALLET_FROZEN Z) p0 h3 n0 O3 A3 F3_24 F3_26 g3) (b := b3) (W := 1) (by decide) (by decide) [(.ref (w2_WALLET_FROZEN Z)), (.long p0)] rfl (lenOf pd5 rfl) (Ls := #[.val (.long p0), .second, .val (.int p1), .unset, .unset, .unset, .unset, .unset, .unset]) (by rw [hml]; rfl) (rest := [(.ref b3)]) (Nat.le_of_eq rfl) (hb hby at_19) e4d (by decide) (by decide)
      refine st38 _ ?_
      obtain ⟨rfl, N38q, K38q, F38_0, F38_1, F38_2⟩ := hQ38
      have N38 := Fr.app N4d N38q
      have O38 := O3.keep K38q (allS g3 all0)
      have K38 : Keep h0 T38.heap [] := Keep.trans K3 K38q (allS (Or.inr y3) all0)
      show own_Wp p e below _ T38 (mkF m 22 #[.val (.long p0), .second, .val (.int p1), .unset, .unset, .unset, .unset, .unset, .unset] [(.ref b3)])
      refine own_step (fun _ k => XS.astoreN X38.here hx rfl (hb hby at_22) rfl rfl (l' := #[.val (.long p0), .second, .val (.int p1), .val (.ref b3), .unset, .unset, .unset, .unset, .unset]) rfl k) ?_
      show own_Wp p e below _ T38 (mkF m 23 #[.val (.long p0), .second, .val (.int p1), .val (.ref b3), .unset, .unset, .unset, .unset, .unset] [])
      refine own_step (fun _ k => XS.aloadN X38.here hx rfl (hb hby at_23) rfl rfl k) ?_
      show own_Wp p e below _ T38 (mkF m 24 #[.val (.long p0), .second, .val (.int p1), .val (.ref b3), .unset, .unset, .unset, .unset, .unset] [(.ref b3)])
      obtain ⟨_, T39, L39, X39, hQ39, st39⟩ := own_callV X38 hx hZ hown (hw _ (List.mem_of_getElem? (i := 27) rfl)) (hw _ (List.mem_of_getElem? (i := 28) rfl)) (notFace_of_selects (args := #[]) (mvT hZ (hw _ (List.mem_of_getElem? (i := 30) rfl)))) (hw _ (List.mem_of_getElem? (i := 30) rfl)) (hw _ (List.mem_of_getElem? (i := 29) rfl)) (hw _ (List.mem_of_getElem? (i := 3) rfl)) (hw _ (List.mem_of_getElem? (i := 31) rfl)) (by decide) F38_0 (rm5_3 l Z a0 hw hA [] b3 p0 T38.heap n0 O38 F38_2) (W := 0) (by decide) (by decide) [] rfl (lenOf pd6 rfl) (Ls := #[.val (.long p0), .second, .val (.int p1), .val (.ref b3), .unset, .unset, .unset, .unset, .unset]) (by rw [hml]; rfl) (rest := []) (Nat.le_of_eq rfl) (hb hby at_24) rfl (by decide) (by decide)
      refine st39 _ ?_
      rcases hQ39 with ⟨hq39a_0, rfl, N39aq, e39a⟩ | ⟨hq39b_0, rfl, N39bq, e39b⟩
      · skip
        have N39a := Fr.app N38 N39aq
        show own_Wp p e below _ T39 (mkF m 27 #[.val (.long p0), .second, .val (.int p1), .val (.ref b3), .unset, .unset, .unset, .unset, .unset] [(.long (-p0))])
        refine own_step (fun _ k => XS.lstore X39.here hx rfl (hb hby at_27) rfl (l' := #[.val (.long p0), .second, .val (.int p1), .val (.ref b3), .val (.long (-p0)), .second, .unset, .unset, .unset]) rfl k) ?_
        show own_Wp p e below _ T39 (mkF m 29 #[.val (.long p0), .second, .val (.int p1), .val (.ref b3), .val (.long (-p0)), .second, .unset, .unset, .unset] [])
        refine own_step (fun _ k => XS.lload X39.here hx rfl (hb hby at_29) rfl k) ?_
        show own_Wp p e below _ T39 (mkF m 31 #[.val (.long p0), .second, .val (.int p1), .val (.ref b3), .val (.long (-p0)), .second, .unset, .unset, .unset] [(.long (-p0))])
        refine own_step (fun _ k => XS.lconst X39.here hx rfl (hb hby at_31) k) ?_
        show own_Wp p e below _ T39 (mkF m 32 #[.val (.long p0), .second, .val (.int p1), .val (.ref b3), .val (.long (-p0)), .second, .unset, .unset, .unset] [(.long (0 : Int64)), (.long (-p0))])
        refine own_step (fun _ k => XS.lcmp X39.here hx rfl (hb hby at_32) rfl k) ?_
        show own_Wp p e below _ T39 (mkF m 33 #[.val (.long p0), .second, .val (.int p1), .val (.ref b3), .val (.long (-p0)), .second, .unset, .unset, .unset] [(.int (lcmpW (-p0) (0 : Int64)))])
        refine own_step (fun _ k => XS.ifNo X39.here hx rfl (hb hby at_33) rfl (own_lcltN (own_lo1 hq39a_0 hc2)) k) ?_
        show own_Wp p e below _ T39 (mkF m 36 #[.val (.long p0), .second, .val (.int p1), .val (.ref b3), .val (.long (-p0)), .second, .unset, .unset, .unset] [])
        refine own_step (fun _ k => XS.iconst X39.here hx rfl (hb hby at_36) k) ?_
        show own_Wp p e below _ T39 (mkF m 37 #[.val (.long p0), .second, .val (.int p1), .val (.ref b3), .val (.long (-p0)), .second, .unset, .unset, .unset] [(.int (1 : Int32))])
        refine own_step (fun _ k => XS.goto X39.here hx rfl (pc0 := 37) (pc' := 41) rfl (hb hby at_37) (by decide) (by decide) k) ?_
        show own_Wp p e below _ T39 (mkF m 41 #[.val (.long p0), .second, .val (.int p1), .val (.ref b3), .val (.long (-p0)), .second, .unset, .unset, .unset] [(.int (1 : Int32))])
        refine own_step (fun _ k => XS.istore X39.here hx rfl (hb hby at_41) rfl (l' := #[.val (.long p0), .second, .val (.int p1), .val (.ref b3), .val (.long (-p0)), .second, .val (.int (1 : Int32)), .unset, .unset]) rfl k) ?_
        show own_Wp p e below _ T39 (mkF m 43 #[.val (.long p0), .second, .val (.int p1), .val (.ref b3), .val (.long (-p0)), .second, .val (.int (1 : Int32)), .unset, .unset] [])
        refine own_step (fun _ k => XS.lloadN X39.here hx rfl (hb hby at_43) rfl k) ?_
        show own_Wp p e below _ T39 (mkF m 44 #[.val (.long p0), .second, .val (.int p1), .val (.ref b3), .val (.long (-p0)), .second, .val (.int (1 : Int32)), .unset, .unset] [(.long p0)])
        refine own_step (fun _ k => XS.lconst X39.here hx rfl (hb hby at_44) k) ?_
        show own_Wp p e below _ T39 (mkF m 45 #[.val (.long p0), .second, .val (.int p1), .val (.ref b3), .val (.long (-p0)), .second, .val (.int (1 : Int32)), .unset, .unset] [(.long (0 : Int64)), (.long p0)])
        refine own_step (fun _ k => XS.lcmp X39.here hx rfl (hb hby at_45) rfl k) ?_
        show own_Wp p e below _ T39 (mkF m 46 #[.val (.long p0), .second, .val (.int p1), .val (.ref b3), .val (.long (-p0)), .second, .val (.int (1 : Int32)), .unset, .unset] [(.int (lcmpW p0 (0 : Int64)))])
        refine own_step (fun _ k => XS.ifNo X39.here hx rfl (hb hby at_46) rfl (own_lcgeN hq39a_0) k) ?_
        show own_Wp p e below _ T39 (mkF m 49 #[.val (.long p0), .second, .val (.int p1), .val (.ref b3), .val (.long (-p0)), .second, .val (.int (1 : Int32)), .unset, .unset] [])
        refine own_step (fun _ k => XS.lload X39.here hx rfl (hb hby at_49) rfl k) ?_
        show own_Wp p e below _ T39 (mkF m 51 #[.val (.long p0), .second, .val (.int p1), .val (.ref b3), .val (.long (-p0)), .second, .val (.int (1 : Int32)), .unset, .unset] [(.long (-p0))])
        refine own_step (fun _ k => XS.lloadN X39.here hx rfl (hb hby at_51) rfl k) ?_
        show own_Wp p e below _ T39 (mkF m 52 #[.val (.long p0), .second, .val (.int p1), .val (.ref b3), .val (.long (-p0)), .second, .val (.int (1 : Int32)), .unset, .unset] [(.long p0), (.long (-p0))])
        refine own_step (fun _ k => XS.lneg X39.here hx rfl (hb hby at_52) rfl k) ?_
        show own_Wp p e below _ T39 (mkF m 53 #[.val (.long p0), .second, .val (.int p1), .val (.ref b3), .val (.long (-p0)), .second, .val (.int (1 : Int32)), .unset, .unset] [(.long (-p0)), (.long (-p0))])
        refine own_step (fun _ k => XS.lcmp X39.here hx rfl (hb hby at_53) rfl k) ?_
        show own_Wp p e below _ T39 (mkF m 54 #[.val (.long p0), .second, .val (.int p1), .val (.ref b3), .val (.long (-p0)), .second, .val (.int (1 : Int32)), .unset, .unset] [(.int (lcmpW (-p0) (-p0)))])
        refine own_step (fun _ k => XS.ifNo X39.here hx rfl (hb hby at_54) rfl (own_lcltN (fun q => absurd q Int64.lt_irrefl)) k) ?_
        show own_Wp p e below _ T39 (mkF m 57 #[.val (.long p0), .second, .val (.int p1), .val (.ref b3), .val (.long (-p0)), .second, .val (.int (1 : Int32)), .unset, .unset] [])
        refine own_step (fun _ k => XS.iconst X39.here hx rfl (hb hby at_57) k) ?_
        show own_Wp p e below _ T39 (mkF m 58 #[.val (.long p0), .second, .val (.int p1), .val (.ref b3), .val (.long (-p0)), .second, .val (.int (1 : Int32)), .unset, .unset] [(.int (1 : Int32))])
        refine own_step (fun _ k => XS.goto X39.here hx rfl (pc0 := 58) (pc' := 62) rfl (hb hby at_58) (by decide) (by decide) k) ?_
        show own_Wp p e below _ T39 (mkF m 62 #[.val (.long p0), .second, .val (.int p1), .val (.ref b3), .val (.long (-p0)), .second, .val (.int (1 : Int32)), .unset, .unset] [(.int (1 : Int32))])
        refine own_step (fun _ k => XS.istore X39.here hx rfl (hb hby at_62) rfl (l' := #[.val (.long p0), .second, .val (.int p1), .val (.ref b3), .val (.long (-p0)), .second, .val (.int (1 : Int32)), .val (.int (1 : Int32)), .unset]) rfl k) ?_
        show own_Wp p e below _ T39 (mkF m 64 #[.val (.long p0), .second, .val (.int p1), .val (.ref b3), .val (.long (-p0)), .second, .val (.int (1 : Int32)), .val (.int (1 : Int32)), .unset] [])
        refine own_step (fun _ k => XS.lload X39.here hx rfl (hb hby at_64) rfl k) ?_
        show own_Wp p e below _ T39 (mkF m 66 #[.val (.long p0), .second, .val (.int p1), .val (.ref b3), .val (.long (-p0)), .second, .val (.int (1 : Int32)), .val (.int (1 : Int32)), .unset] [(.long (-p0))])
        refine own_step (fun _ k => XS.lconst X39.here hx rfl (hb hby at_66) k) ?_
        show own_Wp p e below _ T39 (mkF m 67 #[.val (.long p0), .second, .val (.int p1), .val (.ref b3), .val (.long (-p0)), .second, .val (.int (1 : Int32)), .val (.int (1 : Int32)), .unset] [(.long (0 : Int64)), (.long (-p0))])
        refine own_step (fun _ k => XS.lcmp X39.here hx rfl (hb hby at_67) rfl k) ?_
        show own_Wp p e below _ T39 (mkF m 68 #[.val (.long p0), .second, .val (.int p1), .val (.ref b3), .val (.long (-p0)), .second, .val (.int (1 : Int32)), .val (.int (1 : Int32)), .unset] [(.int (lcmpW (-p0) (0 : Int64)))])
        refine own_step (fun _ k => XS.ifNo X39.here hx rfl (hb hby at_68) rfl (own_lceqN (own_lo2 hq39a_0)) k) ?_
        show own_Wp p e below _ T39 (mkF m 71 #[.val (.long p0), .second, .val (.int p1), .val (.ref b3), .val (.long (-p0)), .second, .val (.int (1 : Int32)), .val (.int (1 : Int32)), .unset] [])
        refine own_step (fun _ k => XS.lloadN X39.here hx rfl (hb hby at_71) rfl k) ?_
        show own_Wp p e below _ T39 (mkF m 72 #[.val (.long p0), .second, .val (.int p1), .val (.ref b3), .val (.long (-p0)), .second, .val (.int (1 : Int32)), .val (.int (1 : Int32)), .unset] [(.long p0)])
        refine own_step (fun _ k => XS.lconst X39.here hx rfl (hb hby at_72) k) ?_
        show own_Wp p e below _ T39 (mkF m 73 #[.val (.long p0), .second, .val (.int p1), .val (.ref b3), .val (.long (-p0)), .second, .val (.int (1 : Int32)), .val (.int (1 : Int32)), .unset] [(.long (0 : Int64)), (.long p0)])
        refine own_step (fun _ k => XS.lcmp X39.here hx rfl (hb hby at_73) rfl k) ?_
        show own_Wp p e below _ T39 (mkF m 74 #[.val (.long p0), .second, .val (.int p1), .val (.ref b3), .val (.long (-p0)), .second, .val (.int (1 : Int32)), .val (.int (1 : Int32)), .unset] [(.int (lcmpW p0 (0 : Int64)))])
        refine own_step (fun _ k => XS.ifNo X39.here hx rfl (hb hby at_74) rfl (own_lcgeN hq39a_0) k) ?_
        show own_Wp p e below _ T39 (mkF m 77 #[.val (.long p0), .second, .val (.int p1), .val (.ref b3), .val (.long (-p0)), .second, .val (.int (1 : Int32)), .val (.int (1 : Int32)), .unset] [])
        refine own_step (fun _ k => XS.lload X39.here hx rfl (hb hby at_77) rfl k) ?_
        show own_Wp p e below _ T39 (mkF m 79 #[.val (.long p0), .second, .val (.int p1), .val (.ref b3), .val (.long (-p0)), .second, .val (.int (1 : Int32)), .val (.int (1 : Int32)), .unset] [(.long (-p0))])
        refine own_step (fun _ k => XS.lconst X39.here hx rfl (hb hby at_79) k) ?_
        show own_Wp p e below _ T39 (mkF m 80 #[.val (.long p0), .second, .val (.int p1), .val (.ref b3), .val (.long (-p0)), .second, .val (.int (1 : Int32)), .val (.int (1 : Int32)), .unset] [(.long (1 : Int64)), (.long (-p0))])
        refine own_step (fun _ k => XS.lsub X39.here hx rfl (hb hby at_80) rfl k) ?_
        show own_Wp p e below _ T39 (mkF m 81 #[.val (.long p0), .second, .val (.int p1), .val (.ref b3), .val (.long (-p0)), .second, .val (.int (1 : Int32)), .val (.int (1 : Int32)), .unset] [(.long ((-p0) - (1 : Int64)))])
        refine own_step (fun _ k => XS.lloadN X39.here hx rfl (hb hby at_81) rfl k) ?_
        show own_Wp p e below _ T39 (mkF m 82 #[.val (.long p0), .second, .val (.int p1), .val (.ref b3), .val (.long (-p0)), .second, .val (.int (1 : Int32)), .val (.int (1 : Int32)), .unset] [(.long p0), (.long ((-p0) - (1 : Int64)))])
        refine own_step (fun _ k => XS.lneg X39.here hx rfl (hb hby at_82) rfl k) ?_
        show own_Wp p e below _ T39 (mkF m 83 #[.val (.long p0), .second, .val (.int p1), .val (.ref b3), .val (.long (-p0)), .second, .val (.int (1 : Int32)), .val (.int (1 : Int32)), .unset] [(.long (-p0)), (.long ((-p0) - (1 : Int64)))])
        refine own_step (fun _ k => XS.lcmp X39.here hx rfl (hb hby at_83) rfl k) ?_
        show own_Wp p e below _ T39 (mkF m 84 #[.val (.long p0), .second, .val (.int p1), .val (.ref b3), .val (.long (-p0)), .second, .val (.int (1 : Int32)), .val (.int (1 : Int32)), .unset] [(.int (lcmpW ((-p0) - (1 : Int64)) (-p0)))])
        refine own_step (fun _ k => XS.ifNo X39.here hx rfl (hb hby at_84) rfl (own_lcgeN (own_lo3 hq39a_0 hc2)) k) ?_
        show own_Wp p e below _ T39 (mkF m 87 #[.val (.long p0), .second, .val (.int p1), .val (.ref b3), .val (.long (-p0)), .second, .val (.int (1 : Int32)), .val (.int (1 : Int32)), .unset] [])
        refine own_step (fun _ k => XS.iconst X39.here hx rfl (hb hby at_87) k) ?_
        show own_Wp p e below _ T39 (mkF m 88 #[.val (.long p0), .second, .val (.int p1), .val (.ref b3), .val (.long (-p0)), .second, .val (.int (1 : Int32)), .val (.int (1 : Int32)), .unset] [(.int (1 : Int32))])
        refine own_step (fun _ k => XS.goto X39.here hx rfl (pc0 := 88) (pc' := 92) rfl (hb hby at_88) (by decide) (by decide) k) ?_
        show own_Wp p e below _ T39 (mkF m 92 #[.val (.long p0), .second, .val (.int p1), .val (.ref b3), .val (.long (-p0)), .second, .val (.int (1 : Int32)), .val (.int (1 : Int32)), .unset] [(.int (1 : Int32))])
        refine own_step (fun _ k => XS.istore X39.here hx rfl (hb hby at_92) rfl (l' := #[.val (.long p0), .second, .val (.int p1), .val (.ref b3), .val (.long (-p0)), .second, .val (.int (1 : Int32)), .val (.int (1 : Int32)), .val (.int (1 : Int32))]) rfl k) ?_
        show own_Wp p e below _ T39 (mkF m 94 #[.val (.long p0), .second, .val (.int p1), .val (.ref b3), .val (.long (-p0)), .second, .val (.int (1 : Int32)), .val (.int (1 : Int32)), .val (.int (1 : Int32))] [])
        refine own_step (fun _ k => XS.iload X39.here hx rfl (hb hby at_94) rfl k) ?_
        show own_Wp p e below _ T39 (mkF m 96 #[.val (.long p0), .second, .val (.int p1), .val (.ref b3), .val (.long (-p0)), .second, .val (.int (1 : Int32)), .val (.int (1 : Int32)), .val (.int (1 : Int32))] [(.int (1 : Int32))])
        refine own_step (fun _ k => XS.ifNo X39.here hx rfl (hb hby at_96) rfl (by decide) k) ?_
        show own_Wp p e below _ T39 (mkF m 99 #[.val (.long p0), .second, .val (.int p1), .val (.ref b3), .val (.long (-p0)), .second, .val (.int (1 : Int32)), .val (.int (1 : Int32)), .val (.int (1 : Int32))] [])
        refine own_step (fun _ k => XS.iload X39.here hx rfl (hb hby at_99) rfl k) ?_
        show own_Wp p e below _ T39 (mkF m 101 #[.val (.long p0), .second, .val (.int p1), .val (.ref b3), .val (.long (-p0)), .second, .val (.int (1 : Int32)), .val (.int (1 : Int32)), .val (.int (1 : Int32))] [(.int (1 : Int32))])
        refine own_step (fun _ k => XS.ifNo X39.here hx rfl (hb hby at_101) rfl (by decide) k) ?_
        show own_Wp p e below _ T39 (mkF m 104 #[.val (.long p0), .second, .val (.int p1), .val (.ref b3), .val (.long (-p0)), .second, .val (.int (1 : Int32)), .val (.int (1 : Int32)), .val (.int (1 : Int32))] [])
        refine own_step (fun _ k => XS.iload X39.here hx rfl (hb hby at_104) rfl k) ?_
        show own_Wp p e below _ T39 (mkF m 106 #[.val (.long p0), .second, .val (.int p1), .val (.ref b3), .val (.long (-p0)), .second, .val (.int (1 : Int32)), .val (.int (1 : Int32)), .val (.int (1 : Int32))] [(.int (1 : Int32))])
        refine own_step (fun _ k => XS.ifNo X39.here hx rfl (hb hby at_106) rfl (by decide) k) ?_
        show own_Wp p e below _ T39 (mkF m 109 #[.val (.long p0), .second, .val (.int p1), .val (.ref b3), .val (.long (-p0)), .second, .val (.int (1 : Int32)), .val (.int (1 : Int32)), .val (.int (1 : Int32))] [])
        refine own_step (fun _ k => XS.iconst X39.here hx rfl (hb hby at_109) k) ?_
        show own_Wp p e below _ T39 (mkF m 110 #[.val (.long p0), .second, .val (.int p1), .val (.ref b3), .val (.long (-p0)), .second, .val (.int (1 : Int32)), .val (.int (1 : Int32)), .val (.int (1 : Int32))] [(.int (1 : Int32))])
        refine own_step (fun _ k => XS.goto X39.here hx rfl (pc0 := 110) (pc' := 114) rfl (hb hby at_110) (by decide) (by decide) k) ?_
        show own_Wp p e below _ T39 (mkF m 114 #[.val (.long p0), .second, .val (.int p1), .val (.ref b3), .val (.long (-p0)), .second, .val (.int (1 : Int32)), .val (.int (1 : Int32)), .val (.int (1 : Int32))] [(.int (1 : Int32))])
        exact own_retN X39 hx (t := .boolean) hret (by simp) hlk (hb hby at_114) (by decide) (by decide) ⟨rfl, N39a⟩
      · skip
        have N39b := Fr.app N38 N39bq
        show own_Wp p e below _ T39 (mkF m 27 #[.val (.long p0), .second, .val (.int p1), .val (.ref b3), .unset, .unset, .unset, .unset, .unset] [(.long (0 : Int64))])
        refine own_step (fun _ k => XS.lstore X39.here hx rfl (hb hby at_27) rfl (l' := #[.val (.long p0), .second, .val (.int p1), .val (.ref b3), .val (.long (0 : Int64)), .second, .unset, .unset, .unset]) rfl k) ?_
        show own_Wp p e below _ T39 (mkF m 29 #[.val (.long p0), .second, .val (.int p1), .val (.ref b3), .val (.long (0 : Int64)), .second, .unset, .unset, .unset] [])
        refine own_step (fun _ k => XS.lload X39.here hx rfl (hb hby at_29) rfl k) ?_
        show own_Wp p e below _ T39 (mkF m 31 #[.val (.long p0), .second, .val (.int p1), .val (.ref b3), .val (.long (0 : Int64)), .second, .unset, .unset, .unset] [(.long (0 : Int64))])
        refine own_step (fun _ k => XS.lconst X39.here hx rfl (hb hby at_31) k) ?_
        show own_Wp p e below _ T39 (mkF m 32 #[.val (.long p0), .second, .val (.int p1), .val (.ref b3), .val (.long (0 : Int64)), .second, .unset, .unset, .unset] [(.long (0 : Int64)), (.long (0 : Int64))])
        refine own_step (fun _ k => XS.lcmp X39.here hx rfl (hb hby at_32) rfl k) ?_
        show own_Wp p e below _ T39 (mkF m 33 #[.val (.long p0), .second, .val (.int p1), .val (.ref b3), .val (.long (0 : Int64)), .second, .unset, .unset, .unset] [(.int (lcmpW (0 : Int64) (0 : Int64)))])
        refine own_step (fun _ k => XS.ifNo X39.here hx rfl (hb hby at_33) rfl (own_lcltN (by decide)) k) ?_
        show own_Wp p e below _ T39 (mkF m 36 #[.val (.long p0), .second, .val (.int p1), .val (.ref b3), .val (.long (0 : Int64)), .second, .unset, .unset, .unset] [])
        refine own_step (fun _ k => XS.iconst X39.here hx rfl (hb hby at_36) k) ?_
        show own_Wp p e below _ T39 (mkF m 37 #[.val (.long p0), .second, .val (.int p1), .val (.ref b3), .val (.long (0 : Int64)), .second, .unset, .unset, .unset] [(.int (1 : Int32))])
        refine own_step (fun _ k => XS.goto X39.here hx rfl (pc0 := 37) (pc' := 41) rfl (hb hby at_37) (by decide) (by decide) k) ?_
        show own_Wp p e below _ T39 (mkF m 41 #[.val (.long p0), .second, .val (.int p1), .val (.ref b3), .val (.long (0 : Int64)), .second, .unset, .unset, .unset] [(.int (1 : Int32))])
        refine own_step (fun _ k => XS.istore X39.here hx rfl (hb hby at_41) rfl (l' := #[.val (.long p0), .second, .val (.int p1), .val (.ref b3), .val (.long (0 : Int64)), .second, .val (.int (1 : Int32)), .unset, .unset]) rfl k) ?_
        show own_Wp p e below _ T39 (mkF m 43 #[.val (.long p0), .second, .val (.int p1), .val (.ref b3), .val (.long (0 : Int64)), .second, .val (.int (1 : Int32)), .unset, .unset] [])
        refine own_step (fun _ k => XS.lloadN X39.here hx rfl (hb hby at_43) rfl k) ?_
        show own_Wp p e below _ T39 (mkF m 44 #[.val (.long p0), .second, .val (.int p1), .val (.ref b3), .val (.long (0 : Int64)), .second, .val (.int (1 : Int32)), .unset, .unset] [(.long p0)])
        refine own_step (fun _ k => XS.lconst X39.here hx rfl (hb hby at_44) k) ?_
        show own_Wp p e below _ T39 (mkF m 45 #[.val (.long p0), .second, .val (.int p1), .val (.ref b3), .val (.long (0 : Int64)), .second, .val (.int (1 : Int32)), .unset, .unset] [(.long (0 : Int64)), (.long p0)])
        refine own_step (fun _ k => XS.lcmp X39.here hx rfl (hb hby at_45) rfl k) ?_
        show own_Wp p e below _ T39 (mkF m 46 #[.val (.long p0), .second, .val (.int p1), .val (.ref b3), .val (.long (0 : Int64)), .second, .val (.int (1 : Int32)), .unset, .unset] [(.int (lcmpW p0 (0 : Int64)))])
        refine own_step (fun _ k => XS.ifYes X39.here hx rfl (pc0 := 46) (pc' := 57) rfl (hb hby at_46) rfl (own_lcgeY hq39b_0) (by decide) (by decide) k) ?_
        show own_Wp p e below _ T39 (mkF m 57 #[.val (.long p0), .second, .val (.int p1), .val (.ref b3), .val (.long (0 : Int64)), .second, .val (.int (1 : Int32)), .unset, .unset] [])
        refine own_step (fun _ k => XS.iconst X39.here hx rfl (hb hby at_57) k) ?_
        show own_Wp p e below _ T39 (mkF m 58 #[.val (.long p0), .second, .val (.int p1), .val (.ref b3), .val (.long (0 : Int64)), .second, .val (.int (1 : Int32)), .unset, .unset] [(.int (1 : Int32))])
        refine own_step (fun _ k => XS.goto X39.here hx rfl (pc0 := 58) (pc' := 62) rfl (hb hby at_58) (by decide) (by decide) k) ?_
        show own_Wp p e below _ T39 (mkF m 62 #[.val (.long p0), .second, .val (.int p1), .val (.ref b3), .val (.long (0 : Int64)), .second, .val (.int (1 : Int32)), .unset, .unset] [(.int (1 : Int32))])
        refine own_step (fun _ k => XS.istore X39.here hx rfl (hb hby at_62) rfl (l' := #[.val (.long p0), .second, .val (.int p1), .val (.ref b3), .val (.long (0 : Int64)), .second, .val (.int (1 : Int32)), .val (.int (1 : Int32)), .unset]) rfl k) ?_
        show own_Wp p e below _ T39 (mkF m 64 #[.val (.long p0), .second, .val (.int p1), .val (.ref b3), .val (.long (0 : Int64)), .second, .val (.int (1 : Int32)), .val (.int (1 : Int32)), .unset] [])
        refine own_step (fun _ k => XS.lload X39.here hx rfl (hb hby at_64) rfl k) ?_
        show own_Wp p e below _ T39 (mkF m 66 #[.val (.long p0), .second, .val (.int p1), .val (.ref b3), .val (.long (0 : Int64)), .second, .val (.int (1 : Int32)), .val (.int (1 : Int32)), .unset] [(.long (0 : Int64))])
        refine own_step (fun _ k => XS.lconst X39.here hx rfl (hb hby at_66) k) ?_
        show own_Wp p e below _ T39 (mkF m 67 #[.val (.long p0), .second, .val (.int p1), .val (.ref b3), .val (.long (0 : Int64)), .second, .val (.int (1 : Int32)), .val (.int (1 : Int32)), .unset] [(.long (0 : Int64)), (.long (0 : Int64))])
        refine own_step (fun _ k => XS.lcmp X39.here hx rfl (hb hby at_67) rfl k) ?_
        show own_Wp p e below _ T39 (mkF m 68 #[.val (.long p0), .second, .val (.int p1), .val (.ref b3), .val (.long (0 : Int64)), .second, .val (.int (1 : Int32)), .val (.int (1 : Int32)), .unset] [(.int (lcmpW (0 : Int64) (0 : Int64)))])
        refine own_step (fun _ k => XS.ifYes X39.here hx rfl (pc0 := 68) (pc' := 87) rfl (hb hby at_68) rfl (own_lceqY (by decide)) (by decide) (by decide) k) ?_
        show own_Wp p e below _ T39 (mkF m 87 #[.val (.long p0), .second, .val (.int p1), .val (.ref b3), .val (.long (0 : Int64)), .second, .val (.int (1 : Int32)), .val (.int (1 : Int32)), .unset] [])
        refine own_step (fun _ k => XS.iconst X39.here hx rfl (hb hby at_87) k) ?_
        show own_Wp p e below _ T39 (mkF m 88 #[.val (.long p0), .second, .val (.int p1), .val (.ref b3), .val (.long (0 : Int64)), .second, .val (.int (1 : Int32)), .val (.int (1 : Int32)), .unset] [(.int (1 : Int32))])
        refine own_step (fun _ k => XS.goto X39.here hx rfl (pc0 := 88) (pc' := 92) rfl (hb hby at_88) (by decide) (by decide) k) ?_
        show own_Wp p e below _ T39 (mkF m 92 #[.val (.long p0), .second, .val (.int p1), .val (.ref b3), .val (.long (0 : Int64)), .second, .val (.int (1 : Int32)), .val (.int (1 : Int32)), .unset] [(.int (1 : Int32))])
        refine own_step (fun _ k => XS.istore X39.here hx rfl (hb hby at_92) rfl (l' := #[.val (.long p0), .second, .val (.int p1), .val (.ref b3), .val (.long (0 : Int64)), .second, .val (.int (1 : Int32)), .val (.int (1 : Int32)), .val (.int (1 : Int32))]) rfl k) ?_
        show own_Wp p e below _ T39 (mkF m 94 #[.val (.long p0), .second, .val (.int p1), .val (.ref b3), .val (.long (0 : Int64)), .second, .val (.int (1 : Int32)), .val (.int (1 : Int32)), .val (.int (1 : Int32))] [])
        refine own_step (fun _ k => XS.iload X39.here hx rfl (hb hby at_94) rfl k) ?_
        show own_Wp p e below _ T39 (mkF m 96 #[.val (.long p0), .second, .val (.int p1), .val (.ref b3), .val (.long (0 : Int64)), .second, .val (.int (1 : Int32)), .val (.int (1 : Int32)), .val (.int (1 : Int32))] [(.int (1 : Int32))])
        refine own_step (fun _ k => XS.ifNo X39.here hx rfl (hb hby at_96) rfl (by decide) k) ?_
        show own_Wp p e below _ T39 (mkF m 99 #[.val (.long p0), .second, .val (.int p1), .val (.ref b3), .val (.long (0 : Int64)), .second, .val (.int (1 : Int32)), .val (.int (1 : Int32)), .val (.int (1 : Int32))] [])
        refine own_step (fun _ k => XS.iload X39.here hx rfl (hb hby at_99) rfl k) ?_
        show own_Wp p e below _ T39 (mkF m 101 #[.val (.long p0), .second, .val (.int p1), .val (.ref b3), .val (.long (0 : Int64)), .second, .val (.int (1 : Int32)), .val (.int (1 : Int32)), .val (.int (1 : Int32))] [(.int (1 : Int32))])
        refine own_step (fun _ k => XS.ifNo X39.here hx rfl (hb hby at_101) rfl (by decide) k) ?_
        show own_Wp p e below _ T39 (mkF m 104 #[.val (.long p0), .second, .val (.int p1), .val (.ref b3), .val (.long (0 : Int64)), .second, .val (.int (1 : Int32)), .val (.int (1 : Int32)), .val (.int (1 : Int32))] [])
        refine own_step (fun _ k => XS.iload X39.here hx rfl (hb hby at_104) rfl k) ?_
        show own_Wp p e below _ T39 (mkF m 106 #[.val (.long p0), .second, .val (.int p1), .val (.ref b3), .val (.long (0 : Int64)), .second, .val (.int (1 : Int32)), .val (.int (1 : Int32)), .val (.int (1 : Int32))] [(.int (1 : Int32))])
        refine own_step (fun _ k => XS.ifNo X39.here hx rfl (hb hby at_106) rfl (by decide) k) ?_
        show own_Wp p e below _ T39 (mkF m 109 #[.val (.long p0), .second, .val (.int p1), .val (.ref b3), .val (.long (0 : Int64)), .second, .val (.int (1 : Int32)), .val (.int (1 : Int32)), .val (.int (1 : Int32))] [])
        refine own_step (fun _ k => XS.iconst X39.here hx rfl (hb hby at_109) k) ?_
        show own_Wp p e below _ T39 (mkF m 110 #[.val (.long p0), .second, .val (.int p1), .val (.ref b3), .val (.long (0 : Int64)), .second, .val (.int (1 : Int32)), .val (.int (1 : Int32)), .val (.int (1 : Int32))] [(.int (1 : Int32))])
        refine own_step (fun _ k => XS.goto X39.here hx rfl (pc0 := 110) (pc' := 114) rfl (hb hby at_110) (by decide) (by decide) k) ?_
        show own_Wp p e below _ T39 (mkF m 114 #[.val (.long p0), .second, .val (.int p1), .val (.ref b3), .val (.long (0 : Int64)), .second, .val (.int (1 : Int32)), .val (.int (1 : Int32)), .val (.int (1 : Int32))] [(.int (1 : Int32))])
        exact own_retN X39 hx (t := .boolean) hret (by simp) hlk (hb hby at_114) (by decide) (by decide) ⟨rfl, N39b⟩
    · skip
      have N4e := Fr.app (Fr.nil n0) N4eq
      show own_Wp p e below _ T4 (mkF m 18 #[.val (.long p0), .second, .val (.int p1), .unset, .unset, .unset, .unset, .unset, .unset] [(.ref (w1_STOCK_FROZEN Z)), (.ref b3), (.ref b3)])
      refine own_step (fun _ k => XS.lloadN X4.here hx rfl (hb hby at_18) rfl k) ?_
      show own_Wp p e below _ T4 (mkF m 19 #[.val (.long p0), .second, .val (.int p1), .unset, .unset, .unset, .unset, .unset, .unset] [(.long p0), (.ref (w1_STOCK_FROZEN Z)), (.ref b3), (.ref b3)])
      obtain ⟨_, T49, L49, X49, hQ49, st49⟩ := own_callN X4 hx hZ rfl hown (hw _ (List.mem_of_getElem? (i := 12) rfl)) (hw _ (List.mem_of_getElem? (i := 13) rfl)) (hw _ (List.mem_of_getElem? (i := 3) rfl)) (hw _ (List.mem_of_getElem? (i := 14) rfl)) (by decide) (rm2_2 l Z a0 hw hA [] b3 (w1_STOCK_FROZEN Z) p0 h3 n0 O3 A3 F3_24 F3_26 g3) (b := b3) (W := 1) (by decide) (by decide) [(.ref (w1_STOCK_FROZEN Z)), (.long p0)] rfl (lenOf pd5 rfl) (Ls := #[.val (.long p0), .second, .val (.int p1), .unset, .unset, .unset, .unset, .unset, .unset]) (by rw [hml]; rfl) (rest := [(.ref b3)]) (Nat.le_of_eq rfl) (hb hby at_19) e4e (by decide) (by decide)
      refine st49 _ ?_
      obtain ⟨rfl, N49q, K49q, F49_0, F49_1, F49_2⟩ := hQ49
      have N49 := Fr.app N4e N49q
      have O49 := O3.keep K49q (allS g3 all0)
      have K49 : Keep h0 T49.heap [] := Keep.trans K3 K49q (allS (Or.inr y3) all0)
      show own_Wp p e below _ T49 (mkF m 22 #[.val (.long p0), .second, .val (.int p1), .unset, .unset, .unset, .unset, .unset, .unset] [(.ref b3)])
      refine own_step (fun _ k => XS.astoreN X49.here hx rfl (hb hby at_22) rfl rfl (l' := #[.val (.long p0), .second, .val (.int p1), .val (.ref b3), .unset, .unset, .unset, .unset, .unset]) rfl k) ?_
      show own_Wp p e below _ T49 (mkF m 23 #[.val (.long p0), .second, .val (.int p1), .val (.ref b3), .unset, .unset, .unset, .unset, .unset] [])
      refine own_step (fun _ k => XS.aloadN X49.here hx rfl (hb hby at_23) rfl rfl k) ?_
      show own_Wp p e below _ T49 (mkF m 24 #[.val (.long p0), .second, .val (.int p1), .val (.ref b3), .unset, .unset, .unset, .unset, .unset] [(.ref b3)])
      obtain ⟨_, T50, L50, X50, hQ50, st50⟩ := own_callV X49 hx hZ hown (hw _ (List.mem_of_getElem? (i := 27) rfl)) (hw _ (List.mem_of_getElem? (i := 28) rfl)) (notFace_of_selects (args := #[]) (mvT hZ (hw _ (List.mem_of_getElem? (i := 30) rfl)))) (hw _ (List.mem_of_getElem? (i := 30) rfl)) (hw _ (List.mem_of_getElem? (i := 29) rfl)) (hw _ (List.mem_of_getElem? (i := 3) rfl)) (hw _ (List.mem_of_getElem? (i := 31) rfl)) (by decide) F49_0 (rm5_3 l Z a0 hw hA [] b3 p0 T49.heap n0 O49 F49_2) (W := 0) (by decide) (by decide) [] rfl (lenOf pd6 rfl) (Ls := #[.val (.long p0), .second, .val (.int p1), .val (.ref b3), .unset, .unset, .unset, .unset, .unset]) (by rw [hml]; rfl) (rest := []) (Nat.le_of_eq rfl) (hb hby at_24) rfl (by decide) (by decide)
      refine st50 _ ?_
      rcases hQ50 with ⟨hq50a_0, rfl, N50aq, e50a⟩ | ⟨hq50b_0, rfl, N50bq, e50b⟩
      · skip
        have N50a := Fr.app N49 N50aq
        show own_Wp p e below _ T50 (mkF m 27 #[.val (.long p0), .second, .val (.int p1), .val (.ref b3), .unset, .unset, .unset, .unset, .unset] [(.long (-p0))])
        refine own_step (fun _ k => XS.lstore X50.here hx rfl (hb hby at_27) rfl (l' := #[.val (.long p0), .second, .val (.int p1), .val (.ref b3), .val (.long (-p0)), .second, .unset, .unset, .unset]) rfl k) ?_
        show own_Wp p e below _ T50 (mkF m 29 #[.val (.long p0), .second, .val (.int p1), .val (.ref b3), .val (.long (-p0)), .second, .unset, .unset, .unset] [])
        refine own_step (fun _ k => XS.lload X50.here hx rfl (hb hby at_29) rfl k) ?_
        show own_Wp p e below _ T50 (mkF m 31 #[.val (.long p0), .second, .val (.int p1), .val (.ref b3), .val (.long (-p0)), .second, .unset, .unset, .unset] [(.long (-p0))])
        refine own_step (fun _ k => XS.lconst X50.here hx rfl (hb hby at_31) k) ?_
        show own_Wp p e below _ T50 (mkF m 32 #[.val (.long p0), .second, .val (.int p1), .val (.ref b3), .val (.long (-p0)), .second, .unset, .unset, .unset] [(.long (0 : Int64)), (.long (-p0))])
        refine own_step (fun _ k => XS.lcmp X50.here hx rfl (hb hby at_32) rfl k) ?_
        show own_Wp p e below _ T50 (mkF m 33 #[.val (.long p0), .second, .val (.int p1), .val (.ref b3), .val (.long (-p0)), .second, .unset, .unset, .unset] [(.int (lcmpW (-p0) (0 : Int64)))])
        refine own_step (fun _ k => XS.ifNo X50.here hx rfl (hb hby at_33) rfl (own_lcltN (own_lo1 hq50a_0 hc2)) k) ?_
        show own_Wp p e below _ T50 (mkF m 36 #[.val (.long p0), .second, .val (.int p1), .val (.ref b3), .val (.long (-p0)), .second, .unset, .unset, .unset] [])
        refine own_step (fun _ k => XS.iconst X50.here hx rfl (hb hby at_36) k) ?_
        show own_Wp p e below _ T50 (mkF m 37 #[.val (.long p0), .second, .val (.int p1), .val (.ref b3), .val (.long (-p0)), .second, .unset, .unset, .unset] [(.int (1 : Int32))])
        refine own_step (fun _ k => XS.goto X50.here hx rfl (pc0 := 37) (pc' := 41) rfl (hb hby at_37) (by decide) (by decide) k) ?_
        show own_Wp p e below _ T50 (mkF m 41 #[.val (.long p0), .second, .val (.int p1), .val (.ref b3), .val (.long (-p0)), .second, .unset, .unset, .unset] [(.int (1 : Int32))])
        refine own_step (fun _ k => XS.istore X50.here hx rfl (hb hby at_41) rfl (l' := #[.val (.long p0), .second, .val (.int p1), .val (.ref b3), .val (.long (-p0)), .second, .val (.int (1 : Int32)), .unset, .unset]) rfl k) ?_
        show own_Wp p e below _ T50 (mkF m 43 #[.val (.long p0), .second, .val (.int p1), .val (.ref b3), .val (.long (-p0)), .second, .val (.int (1 : Int32)), .unset, .unset] [])
        refine own_step (fun _ k => XS.lloadN X50.here hx rfl (hb hby at_43) rfl k) ?_
        show own_Wp p e below _ T50 (mkF m 44 #[.val (.long p0), .second, .val (.int p1), .val (.ref b3), .val (.long (-p0)), .second, .val (.int (1 : Int32)), .unset, .unset] [(.long p0)])
        refine own_step (fun _ k => XS.lconst X50.here hx rfl (hb hby at_44) k) ?_
        show own_Wp p e below _ T50 (mkF m 45 #[.val (.long p0), .second, .val (.int p1), .val (.ref b3), .val (.long (-p0)), .second, .val (.int (1 : Int32)), .unset, .unset] [(.long (0 : Int64)), (.long p0)])
        refine own_step (fun _ k => XS.lcmp X50.here hx rfl (hb hby at_45) rfl k) ?_
        show own_Wp p e below _ T50 (mkF m 46 #[.val (.long p0), .second, .val (.int p1), .val (.ref b3), .val (.long (-p0)), .second, .val (.int (1 : Int32)), .unset, .unset] [(.int (lcmpW p0 (0 : Int64)))])
        refine own_step (fun _ k => XS.ifNo X50.here hx rfl (hb hby at_46) rfl (own_lcgeN hq50a_0) k) ?_
        show own_Wp p e below _ T50 (mkF m 49 #[.val (.long p0), .second, .val (.int p1), .val (.ref b3), .val (.long (-p0)), .second, .val (.int (1 : Int32)), .unset, .unset] [])
        refine own_step (fun _ k => XS.lload X50.here hx rfl (hb hby at_49) rfl k) ?_
        show own_Wp p e below _ T50 (mkF m 51 #[.val (.long p0), .second, .val (.int p1), .val (.ref b3), .val (.long (-p0)), .second, .val (.int (1 : Int32)), .unset, .unset] [(.long (-p0))])
        refine own_step (fun _ k => XS.lloadN X50.here hx rfl (hb hby at_51) rfl k) ?_
        show own_Wp p e below _ T50 (mkF m 52 #[.val (.long p0), .second, .val (.int p1), .val (.ref b3), .val (.long (-p0)), .second, .val (.int (1 : Int32)), .unset, .unset] [(.long p0), (.long (-p0))])
        refine own_step (fun _ k => XS.lneg X50.here hx rfl (hb hby at_52) rfl k) ?_
        show own_Wp p e below _ T50 (mkF m 53 #[.val (.long p0), .second, .val (.int p1), .val (.ref b3), .val (.long (-p0)), .second, .val (.int (1 : Int32)), .unset, .unset] [(.long (-p0)), (.long (-p0))])
        refine own_step (fun _ k => XS.lcmp X50.here hx rfl (hb hby at_53) rfl k) ?_
        show own_Wp p e below _ T50 (mkF m 54 #[.val (.long p0), .second, .val (.int p1), .val (.ref b3), .val (.long (-p0)), .second, .val (.int (1 : Int32)), .unset, .unset] [(.int (lcmpW (-p0) (-p0)))])
        refine own_step (fun _ k => XS.ifNo X50.here hx rfl (hb hby at_54) rfl (own_lcltN (fun q => absurd q Int64.lt_irrefl)) k) ?_
        show own_Wp p e below _ T50 (mkF m 57 #[.val (.long p0), .second, .val (.int p1), .val (.ref b3), .val (.long (-p0)), .second, .val (.int (1 : Int32)), .unset, .unset] [])
        refine own_step (fun _ k => XS.iconst X50.here hx rfl (hb hby at_57) k) ?_
        show own_Wp p e below _ T50 (mkF m 58 #[.val (.long p0), .second, .val (.int p1), .val (.ref b3), .val (.long (-p0)), .second, .val (.int (1 : Int32)), .unset, .unset] [(.int (1 : Int32))])
        refine own_step (fun _ k => XS.goto X50.here hx rfl (pc0 := 58) (pc' := 62) rfl (hb hby at_58) (by decide) (by decide) k) ?_
        show own_Wp p e below _ T50 (mkF m 62 #[.val (.long p0), .second, .val (.int p1), .val (.ref b3), .val (.long (-p0)), .second, .val (.int (1 : Int32)), .unset, .unset] [(.int (1 : Int32))])
        refine own_step (fun _ k => XS.istore X50.here hx rfl (hb hby at_62) rfl (l' := #[.val (.long p0), .second, .val (.int p1), .val (.ref b3), .val (.long (-p0)), .second, .val (.int (1 : Int32)), .val (.int (1 : Int32)), .unset]) rfl k) ?_
        show own_Wp p e below _ T50 (mkF m 64 #[.val (.long p0), .second, .val (.int p1), .val (.ref b3), .val (.long (-p0)), .second, .val (.int (1 : Int32)), .val (.int (1 : Int32)), .unset] [])
        refine own_step (fun _ k => XS.lload X50.here hx rfl (hb hby at_64) rfl k) ?_
        show own_Wp p e below _ T50 (mkF m 66 #[.val (.long p0), .second, .val (.int p1), .val (.ref b3), .val (.long (-p0)), .second, .val (.int (1 : Int32)), .val (.int (1 : Int32)), .unset] [(.long (-p0))])
        refine own_step (fun _ k => XS.lconst X50.here hx rfl (hb hby at_66) k) ?_
        show own_Wp p e below _ T50 (mkF m 67 #[.val (.long p0), .second, .val (.int p1), .val (.ref b3), .val (.long (-p0)), .second, .val (.int (1 : Int32)), .val (.int (1 : Int32)), .unset] [(.long (0 : Int64)), (.long (-p0))])
        refine own_step (fun _ k => XS.lcmp X50.here hx rfl (hb hby at_67) rfl k) ?_
        show own_Wp p e below _ T50 (mkF m 68 #[.val (.long p0), .second, .val (.int p1), .val (.ref b3), .val (.long (-p0)), .second, .val (.int (1 : Int32)), .val (.int (1 : Int32)), .unset] [(.int (lcmpW (-p0) (0 : Int64)))])
        refine own_step (fun _ k => XS.ifNo X50.here hx rfl (hb hby at_68) rfl (own_lceqN (own_lo2 hq50a_0)) k) ?_
        show own_Wp p e below _ T50 (mkF m 71 #[.val (.long p0), .second, .val (.int p1), .val (.ref b3), .val (.long (-p0)), .second, .val (.int (1 : Int32)), .val (.int (1 : Int32)), .unset] [])
        refine own_step (fun _ k => XS.lloadN X50.here hx rfl (hb hby at_71) rfl k) ?_
        show own_Wp p e below _ T50 (mkF m 72 #[.val (.long p0), .second, .val (.int p1), .val (.ref b3), .val (.long (-p0)), .second, .val (.int (1 : Int32)), .val (.int (1 : Int32)), .unset] [(.long p0)])
        refine own_step (fun _ k => XS.lconst X50.here hx rfl (hb hby at_72) k) ?_
        show own_Wp p e below _ T50 (mkF m 73 #[.val (.long p0), .second, .val (.int p1), .val (.ref b3), .val (.long (-p0)), .second, .val (.int (1 : Int32)), .val (.int (1 : Int32)), .unset] [(.long (0 : Int64)), (.long p0)])
        refine own_step (fun _ k => XS.lcmp X50.here hx rfl (hb hby at_73) rfl k) ?_
        show own_Wp p e below _ T50 (mkF m 74 #[.val (.long p0), .second, .val (.int p1), .val (.ref b3), .val (.long (-p0)), .second, .val (.int (1 : Int32)), .val (.int (1 : Int32)), .unset] [(.int (lcmpW p0 (0 : Int64)))])
        refine own_step (fun _ k => XS.ifNo X50.here hx rfl (hb hby at_74) rfl (own_lcgeN hq50a_0) k) ?_
        show own_Wp p e below _ T50 (mkF m 77 #[.val (.long p0), .second, .val (.int p1), .val (.ref b3), .val (.long (-p0)), .second, .val (.int (1 : Int32)), .val (.int (1 : Int32)), .unset] [])
        refine own_step (fun _ k => XS.lload X50.here hx rfl (hb hby at_77) rfl k) ?_
        show own_Wp p e below _ T50 (mkF m 79 #[.val (.long p0), .second, .val (.int p1), .val (.ref b3), .val (.long (-p0)), .second, .val (.int (1 : Int32)), .val (.int (1 : Int32)), .unset] [(.long (-p0))])
        refine own_step (fun _ k => XS.lconst X50.here hx rfl (hb hby at_79) k) ?_
        show own_Wp p e below _ T50 (mkF m 80 #[.val (.long p0), .second, .val (.int p1), .val (.ref b3), .val (.long (-p0)), .second, .val (.int (1 : Int32)), .val (.int (1 : Int32)), .unset] [(.long (1 : Int64)), (.long (-p0))])
        refine own_step (fun _ k => XS.lsub X50.here hx rfl (hb hby at_80) rfl k) ?_
        show own_Wp p e below _ T50 (mkF m 81 #[.val (.long p0), .second, .val (.int p1), .val (.ref b3), .val (.long (-p0)), .second, .val (.int (1 : Int32)), .val (.int (1 : Int32)), .unset] [(.long ((-p0) - (1 : Int64)))])
        refine own_step (fun _ k => XS.lloadN X50.here hx rfl (hb hby at_81) rfl k) ?_
        show own_Wp p e below _ T50 (mkF m 82 #[.val (.long p0), .second, .val (.int p1), .val (.ref b3), .val (.long (-p0)), .second, .val (.int (1 : Int32)), .val (.int (1 : Int32)), .unset] [(.long p0), (.long ((-p0) - (1 : Int64)))])
        refine own_step (fun _ k => XS.lneg X50.here hx rfl (hb hby at_82) rfl k) ?_
        show own_Wp p e below _ T50 (mkF m 83 #[.val (.long p0), .second, .val (.int p1), .val (.ref b3), .val (.long (-p0)), .second, .val (.int (1 : Int32)), .val (.int (1 : Int32)), .unset] [(.long (-p0)), (.long ((-p0) - (1 : Int64)))])
        refine own_step (fun _ k => XS.lcmp X50.here hx rfl (hb hby at_83) rfl k) ?_
        show own_Wp p e below _ T50 (mkF m 84 #[.val (.long p0), .second, .val (.int p1), .val (.ref b3), .val (.long (-p0)), .second, .val (.int (1 : Int32)), .val (.int (1 : Int32)), .unset] [(.int (lcmpW ((-p0) - (1 : Int64)) (-p0)))])
        refine own_step (fun _ k => XS.ifNo X50.here hx rfl (hb hby at_84) rfl (own_lcgeN (own_lo3 hq50a_0 hc2)) k) ?_
        show own_Wp p e below _ T50 (mkF m 87 #[.val (.long p0), .second, .val (.int p1), .val (.ref b3), .val (.long (-p0)), .second, .val (.int (1 : Int32)), .val (.int (1 : Int32)), .unset] [])
        refine own_step (fun _ k => XS.iconst X50.here hx rfl (hb hby at_87) k) ?_
        show own_Wp p e below _ T50 (mkF m 88 #[.val (.long p0), .second, .val (.int p1), .val (.ref b3), .val (.long (-p0)), .second, .val (.int (1 : Int32)), .val (.int (1 : Int32)), .unset] [(.int (1 : Int32))])
        refine own_step (fun _ k => XS.goto X50.here hx rfl (pc0 := 88) (pc' := 92) rfl (hb hby at_88) (by decide) (by decide) k) ?_
        show own_Wp p e below _ T50 (mkF m 92 #[.val (.long p0), .second, .val (.int p1), .val (.ref b3), .val (.long (-p0)), .second, .val (.int (1 : Int32)), .val (.int (1 : Int32)), .unset] [(.int (1 : Int32))])
        refine own_step (fun _ k => XS.istore X50.here hx rfl (hb hby at_92) rfl (l' := #[.val (.long p0), .second, .val (.int p1), .val (.ref b3), .val (.long (-p0)), .second, .val (.int (1 : Int32)), .val (.int (1 : Int32)), .val (.int (1 : Int32))]) rfl k) ?_
        show own_Wp p e below _ T50 (mkF m 94 #[.val (.long p0), .second, .val (.int p1), .val (.ref b3), .val (.long (-p0)), .second, .val (.int (1 : Int32)), .val (.int (1 : Int32)), .val (.int (1 : Int32))] [])
        refine own_step (fun _ k => XS.iload X50.here hx rfl (hb hby at_94) rfl k) ?_
        show own_Wp p e below _ T50 (mkF m 96 #[.val (.long p0), .second, .val (.int p1), .val (.ref b3), .val (.long (-p0)), .second, .val (.int (1 : Int32)), .val (.int (1 : Int32)), .val (.int (1 : Int32))] [(.int (1 : Int32))])
        refine own_step (fun _ k => XS.ifNo X50.here hx rfl (hb hby at_96) rfl (by decide) k) ?_
        show own_Wp p e below _ T50 (mkF m 99 #[.val (.long p0), .second, .val (.int p1), .val (.ref b3), .val (.long (-p0)), .second, .val (.int (1 : Int32)), .val (.int (1 : Int32)), .val (.int (1 : Int32))] [])
        refine own_step (fun _ k => XS.iload X50.here hx rfl (hb hby at_99) rfl k) ?_
        show own_Wp p e below _ T50 (mkF m 101 #[.val (.long p0), .second, .val (.int p1), .val (.ref b3), .val (.long (-p0)), .second, .val (.int (1 : Int32)), .val (.int (1 : Int32)), .val (.int (1 : Int32))] [(.int (1 : Int32))])
        refine own_step (fun _ k => XS.ifNo X50.here hx rfl (hb hby at_101) rfl (by decide) k) ?_
        show own_Wp p e below _ T50 (mkF m 104 #[.val (.long p0), .second, .val (.int p1), .val (.ref b3), .val (.long (-p0)), .second, .val (.int (1 : Int32)), .val (.int (1 : Int32)), .val (.int (1 : Int32))] [])
        refine own_step (fun _ k => XS.iload X50.here hx rfl (hb hby at_104) rfl k) ?_
        show own_Wp p e below _ T50 (mkF m 106 #[.val (.long p0), .second, .val (.int p1), .val (.ref b3), .val (.long (-p0)), .second, .val (.int (1 : Int32)), .val (.int (1 : Int32)), .val (.int (1 : Int32))] [(.int (1 : Int32))])
        refine own_step (fun _ k => XS.ifNo X50.here hx rfl (hb hby at_106) rfl (by decide) k) ?_
        show own_Wp p e below _ T50 (mkF m 109 #[.val (.long p0), .second, .val (.int p1), .val (.ref b3), .val (.long (-p0)), .second, .val (.int (1 : Int32)), .val (.int (1 : Int32)), .val (.int (1 : Int32))] [])
        refine own_step (fun _ k => XS.iconst X50.here hx rfl (hb hby at_109) k) ?_
        show own_Wp p e below _ T50 (mkF m 110 #[.val (.long p0), .second, .val (.int p1), .val (.ref b3), .val (.long (-p0)), .second, .val (.int (1 : Int32)), .val (.int (1 : Int32)), .val (.int (1 : Int32))] [(.int (1 : Int32))])
        refine own_step (fun _ k => XS.goto X50.here hx rfl (pc0 := 110) (pc' := 114) rfl (hb hby at_110) (by decide) (by decide) k) ?_
        show own_Wp p e below _ T50 (mkF m 114 #[.val (.long p0), .second, .val (.int p1), .val (.ref b3), .val (.long (-p0)), .second, .val (.int (1 : Int32)), .val (.int (1 : Int32)), .val (.int (1 : Int32))] [(.int (1 : Int32))])
        exact own_retN X50 hx (t := .boolean) hret (by simp) hlk (hb hby at_114) (by decide) (by decide) ⟨rfl, N50a⟩
      · skip
        have N50b := Fr.app N49 N50bq
        show own_Wp p e below _ T50 (mkF m 27 #[.val (.long p0), .second, .val (.int p1), .val (.ref b3), .unset, .unset, .unset, .unset, .unset] [(.long (0 : Int64))])
        refine own_step (fun _ k => XS.lstore X50.here hx rfl (hb hby at_27) rfl (l' := #[.val (.long p0), .second, .val (.int p1), .val (.ref b3), .val (.long (0 : Int64)), .second, .unset, .unset, .unset]) rfl k) ?_
        show own_Wp p e below _ T50 (mkF m 29 #[.val (.long p0), .second, .val (.int p1), .val (.ref b3), .val (.long (0 : Int64)), .second, .unset, .unset, .unset] [])
        refine own_step (fun _ k => XS.lload X50.here hx rfl (hb hby at_29) rfl k) ?_
        show own_Wp p e below _ T50 (mkF m 31 #[.val (.long p0), .second, .val (.int p1), .val (.ref b3), .val (.long (0 : Int64)), .second, .unset, .unset, .unset] [(.long (0 : Int64))])
        refine own_step (fun _ k => XS.lconst X50.here hx rfl (hb hby at_31) k) ?_
        show own_Wp p e below _ T50 (mkF m 32 #[.val (.long p0), .second, .val (.int p1), .val (.ref b3), .val (.long (0 : Int64)), .second, .unset, .unset, .unset] [(.long (0 : Int64)), (.long (0 : Int64))])
        refine own_step (fun _ k => XS.lcmp X50.here hx rfl (hb hby at_32) rfl k) ?_
        show own_Wp p e below _ T50 (mkF m 33 #[.val (.long p0), .second, .val (.int p1), .val (.ref b3), .val (.long (0 : Int64)), .second, .unset, .unset, .unset] [(.int (lcmpW (0 : Int64) (0 : Int64)))])
        refine own_step (fun _ k => XS.ifNo X50.here hx rfl (hb hby at_33) rfl (own_lcltN (by decide)) k) ?_
        show own_Wp p e below _ T50 (mkF m 36 #[.val (.long p0), .second, .val (.int p1), .val (.ref b3), .val (.long (0 : Int64)), .second, .unset, .unset, .unset] [])
        refine own_step (fun _ k => XS.iconst X50.here hx rfl (hb hby at_36) k) ?_
        show own_Wp p e below _ T50 (mkF m 37 #[.val (.long p0), .second, .val (.int p1), .val (.ref b3), .val (.long (0 : Int64)), .second, .unset, .unset, .unset] [(.int (1 : Int32))])
        refine own_step (fun _ k => XS.goto X50.here hx rfl (pc0 := 37) (pc' := 41) rfl (hb hby at_37) (by decide) (by decide) k) ?_
        show own_Wp p e below _ T50 (mkF m 41 #[.val (.long p0), .second, .val (.int p1), .val (.ref b3), .val (.long (0 : Int64)), .second, .unset, .unset, .unset] [(.int (1 : Int32))])
        refine own_step (fun _ k => XS.istore X50.here hx rfl (hb hby at_41) rfl (l' := #[.val (.long p0), .second, .val (.int p1), .val (.ref b3), .val (.long (0 : Int64)), .second, .val (.int (1 : Int32)), .unset, .unset]) rfl k) ?_
        show own_Wp p e below _ T50 (mkF m 43 #[.val (.long p0), .second, .val (.int p1), .val (.ref b3), .val (.long (0 : Int64)), .second, .val (.int (1 : Int32)), .unset, .unset] [])
        refine own_step (fun _ k => XS.lloadN X50.here hx rfl (hb hby at_43) rfl k) ?_
        show own_Wp p e below _ T50 (mkF m 44 #[.val (.long p0), .second, .val (.int p1), .val (.ref b3), .val (.long (0 : Int64)), .second, .val (.int (1 : Int32)), .unset, .unset] [(.long p0)])
        refine own_step (fun _ k => XS.lconst X50.here hx rfl (hb hby at_44) k) ?_
        show own_Wp p e below _ T50 (mkF m 45 #[.val (.long p0), .second, .val (.int p1), .val (.ref b3), .val (.long (0 : Int64)), .second, .val (.int (1 : Int32)), .unset, .unset] [(.long (0 : Int64)), (.long p0)])
        refine own_step (fun _ k => XS.lcmp X50.here hx rfl (hb hby at_45) rfl k) ?_
        show own_Wp p e below _ T50 (mkF m 46 #[.val (.long p0), .second, .val (.int p1), .val (.ref b3), .val (.long (0 : Int64)), .second, .val (.int (1 : Int32)), .unset, .unset] [(.int (lcmpW p0 (0 : Int64)))])
        refine own_step (fun _ k => XS.ifYes X50.here hx rfl (pc0 := 46) (pc' := 57) rfl (hb hby at_46) rfl (own_lcgeY hq50b_0) (by decide) (by decide) k) ?_
        show own_Wp p e below _ T50 (mkF m 57 #[.val (.long p0), .second, .val (.int p1), .val (.ref b3), .val (.long (0 : Int64)), .second, .val (.int (1 : Int32)), .unset, .unset] [])
        refine own_step (fun _ k => XS.iconst X50.here hx rfl (hb hby at_57) k) ?_
        show own_Wp p e below _ T50 (mkF m 58 #[.val (.long p0), .second, .val (.int p1), .val (.ref b3), .val (.long (0 : Int64)), .second, .val (.int (1 : Int32)), .unset, .unset] [(.int (1 : Int32))])
        refine own_step (fun _ k => XS.goto X50.here hx rfl (pc0 := 58) (pc' := 62) rfl (hb hby at_58) (by decide) (by decide) k) ?_
        show own_Wp p e below _ T50 (mkF m 62 #[.val (.long p0), .second, .val (.int p1), .val (.ref b3), .val (.long (0 : Int64)), .second, .val (.int (1 : Int32)), .unset, .unset] [(.int (1 : Int32))])
        refine own_step (fun _ k => XS.istore X50.here hx rfl (hb hby at_62) rfl (l' := #[.val (.long p0), .second, .val (.int p1), .val (.ref b3), .val (.long (0 : Int64)), .second, .val (.int (1 : Int32)), .val (.int (1 : Int32)), .unset]) rfl k) ?_
        show own_Wp p e below _ T50 (mkF m 64 #[.val (.long p0), .second, .val (.int p1), .val (.ref b3), .val (.long (0 : Int64)), .second, .val (.int (1 : Int32)), .val (.int (1 : Int32)), .unset] [])
        refine own_step (fun _ k => XS.lload X50.here hx rfl (hb hby at_64) rfl k) ?_
        show own_Wp p e below _ T50 (mkF m 66 #[.val (.long p0), .second, .val (.int p1), .val (.ref b3), .val (.long (0 : Int64)), .second, .val (.int (1 : Int32)), .val (.int (1 : Int32)), .unset] [(.long (0 : Int64))])
        refine own_step (fun _ k => XS.lconst X50.here hx rfl (hb hby at_66) k) ?_
        show own_Wp p e below _ T50 (mkF m 67 #[.val (.long p0), .second, .val (.int p1), .val (.ref b3), .val (.long (0 : Int64)), .second, .val (.int (1 : Int32)), .val (.int (1 : Int32)), .unset] [(.long (0 : Int64)), (.long (0 : Int64))])
        refine own_step (fun _ k => XS.lcmp X50.here hx rfl (hb hby at_67) rfl k) ?_
        show own_Wp p e below _ T50 (mkF m 68 #[.val (.long p0), .second, .val (.int p1), .val (.ref b3), .val (.long (0 : Int64)), .second, .val (.int (1 : Int32)), .val (.int (1 : Int32)), .unset] [(.int (lcmpW (0 : Int64) (0 : Int64)))])
        refine own_step (fun _ k => XS.ifYes X50.here hx rfl (pc0 := 68) (pc' := 87) rfl (hb hby at_68) rfl (own_lceqY (by decide)) (by decide) (by decide) k) ?_
        show own_Wp p e below _ T50 (mkF m 87 #[.val (.long p0), .second, .val (.int p1), .val (.ref b3), .val (.long (0 : Int64)), .second, .val (.int (1 : Int32)), .val (.int (1 : Int32)), .unset] [])
        refine own_step (fun _ k => XS.iconst X50.here hx rfl (hb hby at_87) k) ?_
        show own_Wp p e below _ T50 (mkF m 88 #[.val (.long p0), .second, .val (.int p1), .val (.ref b3), .val (.long (0 : Int64)), .second, .val (.int (1 : Int32)), .val (.int (1 : Int32)), .unset] [(.int (1 : Int32))])
        refine own_step (fun _ k => XS.goto X50.here hx rfl (pc0 := 88) (pc' := 92) rfl (hb hby at_88) (by decide) (by decide) k) ?_
        show own_Wp p e below _ T50 (mkF m 92 #[.val (.long p0), .second, .val (.int p1), .val (.ref b3), .val (.long (0 : Int64)), .second, .val (.int (1 : Int32)), .val (.int (1 : Int32)), .unset] [(.int (1 : Int32))])
        refine own_step (fun _ k => XS.istore X50.here hx rfl (hb hby at_92) rfl (l' := #[.val (.long p0), .second, .val (.int p1), .val (.ref b3), .val (.long (0 : Int64)), .second, .val (.int (1 : Int32)), .val (.int (1 : Int32)), .val (.int (1 : Int32))]) rfl k) ?_
        show own_Wp p e below _ T50 (mkF m 94 #[.val (.long p0), .second, .val (.int p1), .val (.ref b3), .val (.long (0 : Int64)), .second, .val (.int (1 : Int32)), .val (.int (1 : Int32)), .val (.int (1 : Int32))] [])
        refine own_step (fun _ k => XS.iload X50.here hx rfl (hb hby at_94) rfl k) ?_
        show own_Wp p e below _ T50 (mkF m 96 #[.val (.long p0), .second, .val (.int p1), .val (.ref b3), .val (.long (0 : Int64)), .second, .val (.int (1 : Int32)), .val (.int (1 : Int32)), .val (.int (1 : Int32))] [(.int (1 : Int32))])
        refine own_step (fun _ k => XS.ifNo X50.here hx rfl (hb hby at_96) rfl (by decide) k) ?_
        show own_Wp p e below _ T50 (mkF m 99 #[.val (.long p0), .second, .val (.int p1), .val (.ref b3), .val (.long (0 : Int64)), .second, .val (.int (1 : Int32)), .val (.int (1 : Int32)), .val (.int (1 : Int32))] [])
        refine own_step (fun _ k => XS.iload X50.here hx rfl (hb hby at_99) rfl k) ?_
        show own_Wp p e below _ T50 (mkF m 101 #[.val (.long p0), .second, .val (.int p1), .val (.ref b3), .val (.long (0 : Int64)), .second, .val (.int (1 : Int32)), .val (.int (1 : Int32)), .val (.int (1 : Int32))] [(.int (1 : Int32))])
        refine own_step (fun _ k => XS.ifNo X50.here hx rfl (hb hby at_101) rfl (by decide) k) ?_
        show own_Wp p e below _ T50 (mkF m 104 #[.val (.long p0), .second, .val (.int p1), .val (.ref b3), .val (.long (0 : Int64)), .second, .val (.int (1 : Int32)), .val (.int (1 : Int32)), .val (.int (1 : Int32))] [])
        refine own_step (fun _ k => XS.iload X50.here hx rfl (hb hby at_104) rfl k) ?_
        show own_Wp p e below _ T50 (mkF m 106 #[.val (.long p0), .second, .val (.int p1), .val (.ref b3), .val (.long (0 : Int64)), .second, .val (.int (1 : Int32)), .val (.int (1 : Int32)), .val (.int (1 : Int32))] [(.int (1 : Int32))])
        refine own_step (fun _ k => XS.ifNo X50.here hx rfl (hb hby at_106) rfl (by decide) k) ?_
        show own_Wp p e below _ T50 (mkF m 109 #[.val (.long p0), .second, .val (.int p1), .val (.ref b3), .val (.long (0 : Int64)), .second, .val (.int (1 : Int32)), .val (.int (1 : Int32)), .val (.int (1 : Int32))] [])
        refine own_step (fun _ k => XS.iconst X50.here hx rfl (hb hby at_109) k) ?_
        show own_Wp p e below _ T50 (mkF m 110 #[.val (.long p0), .second, .val (.int p1), .val (.ref b3), .val (.long (0 : Int64)), .second, .val (.int (1 : Int32)), .val (.int (1 : Int32)), .val (.int (1 : Int32))] [(.int (1 : Int32))])
        refine own_step (fun _ k => XS.goto X50.here hx rfl (pc0 := 110) (pc' := 114) rfl (hb hby at_110) (by decide) (by decide) k) ?_
        show own_Wp p e below _ T50 (mkF m 114 #[.val (.long p0), .second, .val (.int p1), .val (.ref b3), .val (.long (0 : Int64)), .second, .val (.int (1 : Int32)), .val (.int (1 : Int32)), .val (.int (1 : Int32))] [(.int (1 : Int32))])
        exact own_retN X50 hx (t := .boolean) hret (by simp) hlk (hb hby at_114) (by decide) (by decide) ⟨rfl, N50b⟩
set_option maxRecDepth 65536 in
set_option maxHeartbeats 40000000 in
theorem comes_1 {Post : Tables → Env → Array Value → State → Outcome → State → Prop} (hpost : ∀ tb e args s v u, (limb_1_1.after args s (.returned v) u = true ∧ limb_1_2.after args s (.returned v) u = true ∧ True) → FrameEnd s (.returned v) u (Jvm.fieldLocs frame_1_writes args s ++ Jvm.arrayLocs frame_1_arrays args s ++ Jvm.staticLocs frame_1_statics s) 16 128 → Post tb e args s (.returned v) u) :
    ArmFor flags0 classFile x code maxLocals ret World_1 tables_1 room_1 Calls_1 rest_1 Pre_1 Post := by
  intro l hfl _ _ p e ha hc hk s m args below hf hA hF happ hP
  obtain ⟨hcalls, hrest, hpre⟩ := hP
  obtain ⟨-, -, -, hnamed, -, -, -, hat⟩ := (Spec.applies_iff hf).mp happ
  obtain ⟨hg, hn⟩ := and_e (Cond.before_iff.mp (show (Jvm.Cond.and given_1 narrow_1).before args s = true from hpre))
  obtain ⟨gg1, gg2⟩ := and_e hg
  obtain ⟨gg3, gg4⟩ := and_e gg2
  obtain ⟨w0, w1, rfl⟩ : ∃ w0 w1 : Value, args = #[w0, w1] := by
    have hs : args.size = 2 := by simpa [Cond.value, given_1] using gg1
    obtain ⟨L⟩ := args
    match L, hs with
    | [w0, w1], _ => exact ⟨w0, w1, rfl⟩
  have hw := fun d (hd : d ∈ tables_1) => atoms_spec (ws := Jvm.Cond.code x code maxLocals ret :: tables_1) hat d (List.mem_cons_of_mem _ hd)
  have hfit : Fit s := fun {y c} hc i hi => by
    obtain ⟨ha, rfl⟩ := Array.getElem?_eq_some_iff.mp hc
    have q := List.all_eq_true.mp ((Array.all_eq_true_iff_forall_mem.mp hF) _ (Array.getElem_mem ha)) i (List.mem_range.mpr hi)
    simpa [Array.getElem?_eq_getElem hi] using q
  obtain ⟨i0, ei0⟩ := isL_v gg3
  obtain rfl : w0 = (.long i0) := Option.some.inj ei0
  obtain ⟨i1, ei1⟩ := is_v gg4
  obtain rfl : w1 = (.int i1) := Option.some.inj ei1
  obtain ⟨n, o, h1, h2, h3, _, L, rfl, ⟨rfl, N⟩, hq⟩ := rm0 l s _ hw (own_mem narrow_1 hn) tables_1 i0 i1 s.heap s.heap.size (Old.start s) p e ha hc hk s m _ below hf ((Spec.applies_iff_loose hf).mp happ).1 ⟨rfl, State.Warmed39.refl s, rfl⟩ trivial
  refine ⟨n, _, h1, h2, h3, hpost _ _ _ _ _ _ ⟨Cond.after_iff.mpr rfl, Cond.after_iff.mpr (eq_i res_at (Term.int_eval (1)) rfl), trivial⟩ ⟨hq.1, hq.2.1, (hq.2.2.sift fun y hy => Or.inr (N y hy)).mono (by decide) (by decide)⟩⟩
theorem main_1_1 : Claimed_1_1 := comes_1 fun _ _ _ _ _ _ h hF => ⟨h.1, hF⟩
theorem main_1_2 : Claimed_1_2 := comes_1 fun _ _ _ _ _ _ h hF => ⟨h.2.1, hF⟩

end Jvm.Pilot.@@N@@
namespace Jvm.Pilot.@@N@@
open Jvm Jvm.ClassFile Sem Op Lib Jvm.Free Jvm.Stand Jvm.Pilot.@@N@@.Jvm.D
/-! MADE BY PROGRAM (witnessworld.py) out of the Statement's table words and the real class files: 14 classes; the members and pool entries that the words name. The judged class is class 1, her method 2. -/
namespace start1
open Jvm.ClassFile
def u (s : String) : CpInfo := .utf8 (stringToUtf16 s)
/-- a pool by its gaps: so many unusable entries, then the entry; so many at the end -/
def gap : Nat → List CpInfo → List CpInfo
  | 0, r => r
  | n + 1, r => .unusable :: gap n r
def poolList (es : List (Nat × CpInfo)) (last : Nat) : List CpInfo := es.foldr (fun e r => gap e.1 (e.2 :: r)) (gap last [])
def pool (es : List (Nat × CpInfo)) (last : Nat) : Array CpInfo := ⟨poolList es last⟩
def fileOf (pool : Array CpInfo) (this : Nat) (attrs : Array Attribute := #[]) (ms : Array MethodInfo := #[]) (fl : Nat := 33) (sup : Nat := 0) (ifs : Array Nat := #[]) (fds : Array FieldInfo := #[]) : ClassFile where
  minorVersion := 0
  majorVersion := 65
  constantPool := pool
  accessFlags := fl
  thisClass := this
  superClass := sup
  interfaces := ifs
  fields := fds
  methods := ms
  attributes := attrs
def plain (name : String) (sup : Option ClassId) : Class where
  name := name
  kind := .ordinary
  loader := none
  accessFlags := 33
  super := sup
  interfaces := #[]
  cf := none
  fields := #[]
  methods := #[]
  instanceTypes := #[]
  staticTypes := #[]
  resolved := #[]
  callSites := []
  init := .initialized
  statics := none
  mirror := none

def pool0 : Array CpInfo := pool [(5, u "<init>"), (0, u "()V"), (1, .class_ 10), (1, u "java/lang/Object")] 113

def k0c0 : Code := { maxStack := 0, maxLocals := 1, code := object_method_1_code, exceptionTable := #[], attributes := #[] }
def k0m0 : Method := { name := "<init>", desc := "()V", sig := { parameters := [], returnType := none }, accessFlags := 1, code := some k0c0 }
/-- java/lang/Object -/
def k0 : Class := { plain "java/lang/Object" none with
  accessFlags := 33
  interfaces := #[]
  cf := some (fileOf pool0 8 #[] #[{ accessFlags := 1, nameIndex := 5, descriptorIndex := 6, attributes := #[] }] 33 0 #[] #[])
  fields := #[]
  methods := #[k0m0]
  instanceTypes := #[]
  staticTypes := #[]
  resolved := Array.replicate 124 none
  statics := none }

def pool1 : Array CpInfo := pool [(2, .class_ 4), (1, u "java/lang/Object"), (0, u "<init>"), (0, u "()V"), (0, .integer 2147483647), (0, .fieldref 9 10), (0, .class_ 11), (0, .nameAndType 12 13), (0, u "com/example/concordat/concordat/shop/Counter"), (0, u "WALLET"), (0, u "Lcom/example/concordat/concordat/shop/Counter;"), (0, .fieldref 9 15), (0, .nameAndType 16 13), (0, u "BAG"), (0, .fieldref 9 18), (0, .nameAndType 19 13), (0, u "STOCK"), (0, .fieldref 9 21), (0, .nameAndType 22 13), (0, u "WALLET_FROZEN"), (0, .fieldref 9 24), (0, .nameAndType 25 13), (0, u "STOCK_FROZEN"), (2, .long 9223372036854775808), (1, .class_ 31), (0, u "com/example/concordat/concordat/shop/Change$Delta"), (0, .methodref 33 34), (0, .class_ 35), (0, .nameAndType 36 37), (0, u "com/example/concordat/concordat/shop/DeltaLowestPinLaw"), (0, u "pick"), (0, u "(I)Lcom/example/concordat/concordat/shop/Counter;"), (0, .methodref 30 39), (0, .nameAndType 5 40), (0, u "(Lcom/example/concordat/concordat/shop/Counter;J)V"), (0, .methodref 30 42), (0, .nameAndType 43 44), (0, u "lowest"), (0, u "()J"), (3, u "law"), (0, u "(JI)Z")] 6

def k1m0 : Method := { name := "<init>", desc := "()V", sig := { parameters := [], returnType := none }, accessFlags := 1, code := none }
def k1c1 : Code := { maxStack := 2, maxLocals := 2, code := method_2_code, exceptionTable := #[], attributes := #[] }
def k1m1 : Method := { name := "pick", desc := "(I)Lcom/example/concordat/concordat/shop/Counter;", sig := { parameters := [.int], returnType := some (.object "com/example/concordat/concordat/shop/Counter") }, accessFlags := 10, code := some k1c1 }
def k1c2 : Code := { maxStack := 5, maxLocals := 9, code := code, exceptionTable := #[], attributes := #[] }
def k1m2 : Method := { name := "law", desc := "(JI)Z", sig := { parameters := [.long, .int], returnType := some .boolean }, accessFlags := 9, code := some k1c2 }
/-- com/example/concordat/concordat/shop/DeltaLowestPinLaw -/
def k1 : Class := { plain "com/example/concordat/concordat/shop/DeltaLowestPinLaw" (some 0) with
  accessFlags := 49
  interfaces := #[]
  cf := some (fileOf pool1 33 #[] #[{ accessFlags := 1, nameIndex := 5, descriptorIndex := 6, attributes := #[] }, { accessFlags := 10, nameIndex := 36, descriptorIndex := 37, attributes := #[] }, { accessFlags := 9, nameIndex := 48, descriptorIndex := 49, attributes := #[] }] 49 2 #[] #[])
  fields := #[]
  methods := #[k1m0, k1m1, k1m2]
  instanceTypes := #[]
  staticTypes := #[]
  resolved := Array.replicate 56 none
  statics := none }

def pool2 : Array CpInfo := pool [(1, .methodref 2 3), (0, .class_ 4), (0, .nameAndType 5 6), (0, u "java/lang/Object"), (0, u "<init>"), (0, u "()V"), (0, .class_ 8), (0, u "java/lang/Record")] 13

def k2c0 : Code := { maxStack := 1, maxLocals := 1, code := jdk_30_method_1_code, exceptionTable := #[], attributes := #[] }
def k2m0 : Method := { name := "<init>", desc := "()V", sig := { parameters := [], returnType := none }, accessFlags := 4, code := some k2c0 }
/-- java/lang/Record -/
def k2 : Class := { plain "java/lang/Record" (some 0) with
  accessFlags := 1057
  interfaces := #[]
  cf := some (fileOf pool2 7 #[] #[{ accessFlags := 4, nameIndex := 5, descriptorIndex := 6, attributes := #[] }] 1057 2 #[] #[])
  fields := #[]
  methods := #[k2m0]
  instanceTypes := #[]
  staticTypes := #[]
  resolved := Array.replicate 22 none
  statics := none }

def pool3 : Array CpInfo := pool [(1, .methodref 2 3), (0, .class_ 4), (0, .nameAndType 5 6), (0, u "java/lang/Record"), (0, u "<init>"), (0, u "()V"), (0, .fieldref 8 9), (0, .class_ 10), (0, .nameAndType 11 12), (0, u "com/example/concordat/concordat/shop/Change$Delta"), (0, u "counter"), (0, u "Lcom/example/concordat/concordat/shop/Counter;"), (0, .fieldref 8 14), (0, .nameAndType 15 16), (0, u "amount"), (0, u "J"), (6, u "lowest"), (0, u "()J"), (36, u "(Lcom/example/concordat/concordat/shop/Counter;J)V"), (15, .class_ 78), (0, u "com/example/concordat/concordat/shop/Change")] 32

def k3c0 : Code := { maxStack := 3, maxLocals := 4, code := prog_80_method_1_code, exceptionTable := #[], attributes := #[] }
def k3m0 : Method := { name := "<init>", desc := "(Lcom/example/concordat/concordat/shop/Counter;J)V", sig := { parameters := [(.object "com/example/concordat/concordat/shop/Counter"), .long], returnType := none }, accessFlags := 0, code := some k3c0 }
def k3c1 : Code := { maxStack := 4, maxLocals := 1, code := prog_80_method_2_code, exceptionTable := #[], attributes := #[] }
def k3m1 : Method := { name := "lowest", desc := "()J", sig := { parameters := [], returnType := some .long }, accessFlags := 0, code := some k3c1 }
/-- com/example/concordat/concordat/shop/Change$Delta -/
def k3 : Class := { plain "com/example/concordat/concordat/shop/Change$Delta" (some 2) with
  accessFlags := 48
  interfaces := #[]
  cf := some (fileOf pool3 8 #[.nestHost 77] #[{ accessFlags := 0, nameIndex := 5, descriptorIndex := 61, attributes := #[] }, { accessFlags := 0, nameIndex := 23, descriptorIndex := 24, attributes := #[] }] 48 2 #[] #[{ accessFlags := 18, nameIndex := 11, descriptorIndex := 12, attributes := #[] }, { accessFlags := 18, nameIndex := 15, descriptorIndex := 16, attributes := #[] }])
  fields := #[{ name := "counter", type := (.object "com/example/concordat/concordat/shop/Counter"), accessFlags := 18, slot := 0, constantValue := 0 }, { name := "amount", type := .long, accessFlags := 18, slot := 1, constantValue := 0 }]
  methods := #[k3m0, k3m1]
  instanceTypes := #[(.object "com/example/concordat/concordat/shop/Counter"), .long]
  staticTypes := #[]
  resolved := Array.replicate 111 none
  statics := none }

def pool4 : Array CpInfo := pool [(1, .class_ 2), (0, u "java/lang/constant/Constable"), (0, .class_ 4), (0, u "java/lang/Object")] 6

/-- java/lang/constant/Constable -/
def k4 : Class := { plain "java/lang/constant/Constable" (some 0) with
  accessFlags := 1537
  interfaces := #[]
  cf := some (fileOf pool4 1 #[] #[] 1537 3 #[] #[])
  fields := #[]
  methods := #[]
  instanceTypes := #[]
  staticTypes := #[]
  resolved := Array.replicate 11 none
  statics := none }

def pool5 : Array CpInfo := pool [(1, .class_ 2), (0, u "java/lang/Comparable"), (0, .class_ 4), (0, u "java/lang/Object")] 7

/-- java/lang/Comparable -/
def k5 : Class := { plain "java/lang/Comparable" (some 0) with
  accessFlags := 1537
  interfaces := #[]
  cf := some (fileOf pool5 1 #[] #[] 1537 3 #[] #[])
  fields := #[]
  methods := #[]
  instanceTypes := #[]
  staticTypes := #[]
  resolved := Array.replicate 12 none
  statics := none }

def pool6 : Array CpInfo := pool [(1, .class_ 2), (0, u "java/io/Serializable"), (0, .class_ 4), (0, u "java/lang/Object")] 2

/-- java/io/Serializable -/
def k6 : Class := { plain "java/io/Serializable" (some 0) with
  accessFlags := 1537
  interfaces := #[]
  cf := some (fileOf pool6 1 #[] #[] 1537 3 #[] #[])
  fields := #[]
  methods := #[]
  instanceTypes := #[]
  staticTypes := #[]
  resolved := Array.replicate 7 none
  statics := none }

def pool7 : Array CpInfo := pool [(2, .class_ 4), (1, u "java/lang/Enum"), (0, u "name"), (0, u "Ljava/lang/String;"), (2, u "ordinal"), (0, u "I"), (1, .class_ 14), (1, u "java/lang/Object"), (4, u "hash"), (86, .class_ 108), (1, u "java/lang/Enum$EnumDesc"), (2, .class_ 112), (0, u "java/lang/constant/Constable"), (0, .class_ 114), (0, u "java/lang/Comparable"), (0, .class_ 116), (0, u "java/io/Serializable")] 87

/-- java/lang/Enum -/
def k7 : Class := { plain "java/lang/Enum" (some 0) with
  accessFlags := 1057
  interfaces := #[4, 5, 6]
  cf := some (fileOf pool7 2 #[.nestMembers #[106]] #[] 1057 12 #[111, 113, 115] #[{ accessFlags := 18, nameIndex := 5, descriptorIndex := 6, attributes := #[] }, { accessFlags := 18, nameIndex := 9, descriptorIndex := 10, attributes := #[] }, { accessFlags := 2, nameIndex := 19, descriptorIndex := 10, attributes := #[] }])
  fields := #[{ name := "name", type := (.object "java/lang/String"), accessFlags := 18, slot := 0, constantValue := 0 }, { name := "ordinal", type := .int, accessFlags := 18, slot := 1, constantValue := 0 }, { name := "hash", type := .int, accessFlags := 2, slot := 2, constantValue := 0 }]
  methods := #[]
  instanceTypes := #[(.object "java/lang/String"), .int, .int]
  staticTypes := #[]
  resolved := Array.replicate 204 none
  statics := none }

def pool8 : Array CpInfo := pool [(1, .class_ 2), (0, u "com/example/concordat/concordat/shop/Counter"), (2, u "WALLET"), (0, u "Lcom/example/concordat/concordat/shop/Counter;"), (2, u "BAG"), (2, u "STOCK"), (2, u "WALLET_FROZEN"), (2, u "STOCK_FROZEN"), (2, u "$VALUES"), (0, u "[Lcom/example/concordat/concordat/shop/Counter;"), (6, .class_ 31), (1, u "java/lang/Enum")] 67

/-- com/example/concordat/concordat/shop/Counter -/
def k8 : Class := { plain "com/example/concordat/concordat/shop/Counter" (some 7) with
  accessFlags := 16432
  interfaces := #[]
  cf := some (fileOf pool8 1 #[] #[] 16432 29 #[] #[{ accessFlags := 16409, nameIndex := 5, descriptorIndex := 6, attributes := #[] }, { accessFlags := 16409, nameIndex := 9, descriptorIndex := 6, attributes := #[] }, { accessFlags := 16409, nameIndex := 12, descriptorIndex := 6, attributes := #[] }, { accessFlags := 16409, nameIndex := 15, descriptorIndex := 6, attributes := #[] }, { accessFlags := 16409, nameIndex := 18, descriptorIndex := 6, attributes := #[] }, { accessFlags := 4122, nameIndex := 21, descriptorIndex := 22, attributes := #[] }])
  fields := #[{ name := "WALLET", type := (.object "com/example/concordat/concordat/shop/Counter"), accessFlags := 16409, slot := 0, constantValue := 0 }, { name := "BAG", type := (.object "com/example/concordat/concordat/shop/Counter"), accessFlags := 16409, slot := 1, constantValue := 0 }, { name := "STOCK", type := (.object "com/example/concordat/concordat/shop/Counter"), accessFlags := 16409, slot := 2, constantValue := 0 }, { name := "WALLET_FROZEN", type := (.object "com/example/concordat/concordat/shop/Counter"), accessFlags := 16409, slot := 3, constantValue := 0 }, { name := "STOCK_FROZEN", type := (.object "com/example/concordat/concordat/shop/Counter"), accessFlags := 16409, slot := 4, constantValue := 0 }, { name := "$VALUES", type := (.array (.object "com/example/concordat/concordat/shop/Counter")), accessFlags := 4122, slot := 5, constantValue := 0 }]
  methods := #[]
  instanceTypes := #[(.object "java/lang/String"), .int, .int]
  staticTypes := #[(.object "com/example/concordat/concordat/shop/Counter"), (.object "com/example/concordat/concordat/shop/Counter"), (.object "com/example/concordat/concordat/shop/Counter"), (.object "com/example/concordat/concordat/shop/Counter"), (.object "com/example/concordat/concordat/shop/Counter"), (.array (.object "com/example/concordat/concordat/shop/Counter"))]
  resolved := Array.replicate 99 none
  statics := some 0 }

def pool9 : Array CpInfo := pool [(1, u "java/lang/Cloneable"), (0, .class_ 1), (0, u "java/lang/Object"), (0, .class_ 3)] 3

/-- java/lang/Cloneable -/
def k9 : Class := { plain "java/lang/Cloneable" (some 0) with
  accessFlags := 1537
  interfaces := #[]
  cf := some (fileOf pool9 2 #[] #[] 1537 4 #[] #[])
  fields := #[]
  methods := #[]
  instanceTypes := #[]
  staticTypes := #[]
  resolved := Array.replicate 8 none
  statics := none }

/-- the primitive byte -/
def k10 : Class := { plain "byte" none with kind := .primitive 'B', accessFlags := 0x411 }
/-- [B -/
def k11 : Class := { plain "[B" (some 0) with kind := .array 10 .byte, interfaces := #[9, 6], accessFlags := 1041 }

/-- the primitive int -/
def k12 : Class := { plain "int" none with kind := .primitive 'I', accessFlags := 0x411 }
/-- [I -/
def k13 : Class := { plain "[I" (some 0) with kind := .array 12 .int, interfaces := #[9, 6], accessFlags := 1041 }

def heap : Heap := #[{ cls := 8, slots := #[.ref 5, .ref 4, .ref 1, .ref 3, .ref 2, .null], vm := .statics 8 },
  { cls := 8, slots := #[.null, .int 0, .int 0], vm := .none },
  { cls := 8, slots := #[.null, .int 0, .int 0], vm := .none },
  { cls := 8, slots := #[.null, .int 0, .int 0], vm := .none },
  { cls := 8, slots := #[.null, .int 0, .int 0], vm := .none },
  { cls := 8, slots := #[.null, .int 0, .int 0], vm := .none }]
def classes : Array Class := #[k0, k1, k2, k3, k4, k5, k6, k7, k8, k9, k10, k11, k12, k13]
def interned : List (Array UInt16 × Addr) := []
def slotsUsed : Nat := 21
def theMethod : MethodId := ⟨1, 2⟩
def args0 : Array Value := #[.long 5, .int 3]
def aboutOver (below : List Frame) : State where
  vm := { classes := classes, interned := interned.toArray }
  heap := heap
  slotsUsed := slotsUsed
  threads := #[{ frames := .invoking theMethod args0 :: below }]
def below0 : List Frame := [.native { method := ⟨0, 0⟩, args := #[] }]
def about1 : State := aboutOver below0
def p0 : Program := .bare "" "" ""
def e0 : Env := launch0.env 0 0 0
theorem w_frames : about1.frames = Frame.invoking theMethod args0 :: below0 := rfl
set_option maxRecDepth 65536 in
theorem w_args : argsFit about1.vm theMethod args0 = true := by decide +kernel
set_option maxRecDepth 65536 in
theorem w_heap : heapFits about1 = true := by decide +kernel
set_option maxRecDepth 65536 in
theorem w_runnable : about1.curStatus? = some .runnable := by decide +kernel
set_option maxRecDepth 65536 in
theorem w_alone : about1.alone = true := by decide +kernel
set_option maxRecDepth 65536 in
theorem w_named : about1.methodNamed? x = some theMethod := by decide +kernel
set_option maxRecDepth 65536 in
theorem w_hears : about1.hears theMethod below0 = true := by decide +kernel
set_option maxRecDepth 65536 in
theorem w_ripe : about1.ripe theMethod args0 below0 = true := by decide +kernel
theorem w_running : about1.status = .running := rfl
set_option maxRecDepth 65536 in
theorem w_room : about1.hasRoom e0.platform room_1 = true :=
  launch0.hasRoom_least _ room_1 (by decide +kernel) (by decide +kernel) (by decide +kernel) (by decide +kernel) (by decide +kernel) (by decide +kernel)
theorem allAtoms_all (ts : List Jvm.Cond) (a : Array Jvm.Value) (st : Jvm.State) : (allAtoms ts).before a st = ts.all (fun c => c.before a st) := by
  induction ts with
  | nil => rfl
  | cons c t ih =>
    show (Jvm.Cond.and c (allAtoms t)).before a st = _
    rw [Jvm.Cond.before_and, ih, List.all_cons]
def words1 : List Jvm.Cond := Jvm.Cond.code x code maxLocals ret :: tables_1
/-- a 'code' word, met by the world's own term for the bytes: nothing is compared byte by byte -/
theorem code_word {y : MethodName} {bytes : ByteArray} {mx : Nat} {rt : Option FieldType} {a : Array Value} {s : State} {m : MethodId} {meth : Method} {c : Code} (h1 : s.methodNamed? y = some m) (h2 : s.vm.method? m = some meth) (h3 : meth.code = some c) (h4 : c.code = bytes)
    (h5 : (c.maxLocals == mx && c.exceptionTable.isEmpty && decide (c.maxStack ≤ mostOperands) && decide (meth.sig.returnType = rt) && !meth.locks && decide (parseMethodDescriptor y.desc = some meth.sig)) = true) : (Jvm.Cond.code y bytes mx rt).before a s = true := by
  simp only [Bool.and_eq_true, beq_iff_eq, Bool.not_eq_true', decide_eq_true_eq] at h5
  obtain ⟨⟨⟨⟨⟨g1, g2⟩, g3⟩, g4⟩, g5⟩, g6⟩ := h5
  simp [Cond.before, Cond.holds, Cond.value, h1, h2, h3, h4, g1, g2, g3, g4, g5, g6]
def isCode : Jvm.Cond → Bool
  | .code _ _ _ _ => true
  | _ => false
theorem all_split {L : List Jvm.Cond} {P : Jvm.Cond → Bool} (h1 : L.all (fun c => isCode c || P c) = true) (h2 : ∀ c ∈ L.filter isCode, P c = true) : L.all P = true := by
  refine List.all_eq_true.mpr fun c hc => ?_
  have h := List.all_eq_true.mp h1 c hc
  rcases Bool.eq_false_or_eq_true (isCode c) with hi | hi
  · exact h2 c (List.mem_filter.mpr ⟨hc, hi⟩)
  · simpa [hi] using h
set_option maxRecDepth 65536 in
theorem w_c0 : (Jvm.Cond.code x code maxLocals ret).before args0 about1 = true := code_word (m := ⟨1, 2⟩) (meth := k1m2) (c := k1c2) (by decide +kernel) rfl rfl rfl (by decide +kernel)
set_option maxRecDepth 65536 in
theorem w_c1 : (Jvm.Cond.code ({ cls := "com/example/concordat/concordat/shop/DeltaLowestPinLaw", name := "pick", desc := "(I)Lcom/example/concordat/concordat/shop/Counter;" } : Jvm.MethodName) method_2_code (2 : Nat) (Option.some (Jvm.ClassFile.FieldType.object "com/example/concordat/concordat/shop/Counter"))).before args0 about1 = true := code_word (m := ⟨1, 1⟩) (meth := k1m1) (c := k1c1) (by decide +kernel) rfl rfl rfl (by decide +kernel)
set_option maxRecDepth 65536 in
theorem w_c2 : (Jvm.Cond.code ({ cls := "com/example/concordat/concordat/shop/Change$Delta", name := "<init>", desc := "(Lcom/example/concordat/concordat/shop/Counter;J)V" } : Jvm.MethodName) prog_80_method_1_code (4 : Nat) (Option.none : Option Jvm.ClassFile.FieldType)).before args0 about1 = true := code_word (m := ⟨3, 0⟩) (meth := k3m0) (c := k3c0) (by decide +kernel) rfl rfl rfl (by decide +kernel)
set_option maxRecDepth 65536 in
theorem w_c3 : (Jvm.Cond.code ({ cls := "java/lang/Record", name := "<init>", desc := "()V" } : Jvm.MethodName) jdk_30_method_1_code (1 : Nat) (Option.none : Option Jvm.ClassFile.FieldType)).before args0 about1 = true := code_word (m := ⟨2, 0⟩) (meth := k2m0) (c := k2c0) (by decide +kernel) rfl rfl rfl (by decide +kernel)
set_option maxRecDepth 65536 in
theorem w_c4 : (Jvm.Cond.code ({ cls := "java/lang/Object", name := "<init>", desc := "()V" } : Jvm.MethodName) object_method_1_code (1 : Nat) (Option.none : Option Jvm.ClassFile.FieldType)).before args0 about1 = true := code_word (m := ⟨0, 0⟩) (meth := k0m0) (c := k0c0) (by decide +kernel) rfl rfl rfl (by decide +kernel)
set_option maxRecDepth 65536 in
theorem w_c5 : (Jvm.Cond.code ({ cls := "com/example/concordat/concordat/shop/Change$Delta", name := "lowest", desc := "()J" } : Jvm.MethodName) prog_80_method_2_code (1 : Nat) (Option.some Jvm.ClassFile.FieldType.long)).before args0 about1 = true := code_word (m := ⟨3, 1⟩) (meth := k3m1) (c := k3c1) (by decide +kernel) rfl rfl rfl (by decide +kernel)
def codes1 : List Jvm.Cond := [Jvm.Cond.code x code maxLocals ret, Jvm.Cond.code ({ cls := "com/example/concordat/concordat/shop/DeltaLowestPinLaw", name := "pick", desc := "(I)Lcom/example/concordat/concordat/shop/Counter;" } : Jvm.MethodName) method_2_code (2 : Nat) (Option.some (Jvm.ClassFile.FieldType.object "com/example/concordat/concordat/shop/Counter")), Jvm.Cond.code ({ cls := "com/example/concordat/concordat/shop/Change$Delta", name := "<init>", desc := "(Lcom/example/concordat/concordat/shop/Counter;J)V" } : Jvm.MethodName) prog_80_method_1_code (4 : Nat) (Option.none : Option Jvm.ClassFile.FieldType), Jvm.Cond.code ({ cls := "java/lang/Record", name := "<init>", desc := "()V" } : Jvm.MethodName) jdk_30_method_1_code (1 : Nat) (Option.none : Option Jvm.ClassFile.FieldType), Jvm.Cond.code ({ cls := "java/lang/Object", name := "<init>", desc := "()V" } : Jvm.MethodName) object_method_1_code (1 : Nat) (Option.none : Option Jvm.ClassFile.FieldType), Jvm.Cond.code ({ cls := "com/example/concordat/concordat/shop/Change$Delta", name := "lowest", desc := "()J" } : Jvm.MethodName) prog_80_method_2_code (1 : Nat) (Option.some Jvm.ClassFile.FieldType.long)]
set_option maxRecDepth 65536 in
theorem codes_eq : words1.filter isCode = codes1 := rfl
theorem w_codes : ∀ c ∈ words1.filter isCode, c.before args0 about1 = true := by
  rw [codes_eq]
  intro c hc
  simp only [codes1, List.mem_cons, List.not_mem_nil, or_false] at hc
  rcases hc with rfl | rfl | rfl | rfl | rfl | rfl
  · exact w_c0
  · exact w_c1
  · exact w_c2
  · exact w_c3
  · exact w_c4
  · exact w_c5
set_option maxRecDepth 65536 in
theorem w_t1 : (words1.take 24).all (fun c => isCode c || c.before args0 about1) = true := by decide +kernel
set_option maxRecDepth 65536 in
theorem w_t2 : (words1.drop 24).all (fun c => isCode c || c.before args0 about1) = true := by decide +kernel
theorem w_tables : (allAtoms (Jvm.Cond.code x code maxLocals ret :: tables_1)).before args0 about1 = true := by
  rw [allAtoms_all]
  show words1.all (fun c => c.before args0 about1) = true
  refine all_split ?_ w_codes
  rw [← List.take_append_drop 24 words1, List.all_append, w_t1, w_t2]
  rfl
set_option maxRecDepth 65536 in
theorem w_case : (Jvm.Cond.and given_1 narrow_1).before args0 about1 = true := by decide +kernel
theorem w_applies : (headSpec (Jvm.Cond.code x code maxLocals ret :: tables_1) room_1).applies x e0.platform about1 = true :=
  (Spec.applies_iff w_frames).mpr ⟨w_running, w_runnable, w_alone, w_named, w_hears, w_ripe, w_room, w_tables⟩
theorem atStart : AtStart classFile x code maxLocals ret World_1 tables_1 room_1 Calls_1 rest_1 Pre_1 launch0 p0 e0 about1 theMethod args0 below0 :=
  ⟨lists_1, trivial, launch0.admits_env _ _ _, launch0.least_env, fairChoices_fair.cas, fairChoices_fair.clock, w_frames, w_args, w_heap, w_applies, trivial, trivial, w_case⟩
end start1
theorem witness_1 : WitnessClaimed_1 := ⟨start1.p0, start1.e0, start1.about1, start1.theMethod, start1.args0, start1.below0, start1.atStart⟩
end Jvm.Pilot.@@N@@
