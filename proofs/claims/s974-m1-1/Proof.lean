import JvmDerived
import JvmDerived.Pilot.@@N@@Statement
import JvmDerived.Pilot.@@N@@Code
set_option linter.unusedVariables false
set_option linter.unusedSimpArgs false
@@BLOCK:Masks.lean.txt@@
@@BLOCK:NumsL.lean.txt@@
namespace Jvm.Pilot.@@N@@
open Jvm Jvm.ClassFile Sem Op Lib Jvm.Free Jvm.Stand Jvm.LawKit Jvm.RoadKit Bundle Jvm.Pilot.@@N@@.Jvm.D
/-! own layer: a walk as "from here the body comes to a good end" (own_Wp), so that a walk may fork in its middle -/
section OwnLayer
variable {p : Program} {l : Launch} {e : Env} {R : Room} {s : State} {m : MethodId} {args : Array Value} {below : List Frame} {meth : Method} {c : Code} {T T' : State} {locs : List Loc} {cells slots cs sl pc : Nat} {g g' : JFrame} {F : State → Outcome → Prop} {Q : Option Value → Heap → List Loc → Prop} {Ls : Array Slot} {rest : List Value} {Z : State} {a0 : Array Value} {h : Heap}
def own_Wp (p : Program) (e : Env) (below : List Frame) (F : State → Outcome → Prop) (T : State) (g : JFrame) : Prop := ∃ s₂ o, Steps p.tables e below (T.setTop g) s₂ ∧ F s₂ o
def own_Fin (below : List Frame) (s : State) (Q : Option Value → Heap → List Loc → Prop) (cs sl : Nat) (s₂ : State) (o : Outcome) : Prop := s₂.status = .running ∧ Ended s₂ below o ∧ ∃ v L, o = .returned v ∧ Q v s₂.heap L ∧ FrameEnd s o s₂ L cs sl
theorem own_step (st : ∀ target, Steps p.tables e below (T'.setTop g') target → Steps p.tables e below (T.setTop g) target) (k : own_Wp p e below F T' g') : own_Wp p e below F T g := by
  obtain ⟨a, b, h1, h2⟩ := k
  exact ⟨a, b, st _ h1, h2⟩
theorem own_cast (q : g = g') (k : own_Wp p e below F T g') : own_Wp p e below F T g := q ▸ k
theorem own_leave {v : Option Value} {fs : List Frame} (st : Steps p.tables e below (T.setTop g) (T.setFrames fs)) (hrun : (T.setFrames fs).status = .running) (hended : Ended (T.setFrames fs) below (.returned v)) (hW : s.WarmedH (T.setFrames fs).vm) (hsame : s.sameButNew ({ T.setFrames fs with vm := s.vm } : State) locs cells slots) (hc : cells ≤ cs) (hs : slots ≤ sl) (hQ : Q v T.heap locs) : own_Wp p e below (own_Fin below s Q cs sl) T g :=
  ⟨_, _, st, hrun, hended, v, locs, rfl, hQ, ⟨_, rfl⟩, hW, hsame.mono hc hs⟩
theorem own_retN (X : Stand p l e R s m args below meth c T locs cells slots) (hx : p.tables.exec = Jvm.exec) {t : FieldType} {z : Int32} (hret : meth.sig.returnType = some t) (ht : t = .boolean ∨ t = .byte ∨ t = .char ∨ t = .short) (hlocks : meth.locks = false) (hd : decode c.code pc = .ok (.ireturn, 1)) (hc : cells ≤ cs) (hs : slots ≤ sl) (hQ : Q (some (.int (nar t z))) T.heap locs) : own_Wp p e below (own_Fin below s Q cs sl) T (mkF m pc Ls (.int z :: rest)) := by
  obtain ⟨fs, hr, hrun, hended, hW, hsame⟩ := X.leave (v := some (.int (nar t z))) (fun h => by rw [hret] at h; cases h) hlocks
  exact own_leave (retN X hx hret ht hd hr) hrun hended hW hsame hc hs hQ
theorem own_retI (X : Stand p l e R s m args below meth c T locs cells slots) (hx : p.tables.exec = Jvm.exec) {z : Int32} (hret : meth.sig.returnType = some .int) (hlocks : meth.locks = false) (hd : decode c.code pc = .ok (.ireturn, 1)) (hc : cells ≤ cs) (hs : slots ≤ sl) (hQ : Q (some (.int z)) T.heap locs) : own_Wp p e below (own_Fin below s Q cs sl) T (mkF m pc Ls (.int z :: rest)) := by
  obtain ⟨fs, hr, hrun, hended, hW, hsame⟩ := X.leave (v := some (.int z)) (fun h => by rw [hret] at h; cases h) hlocks
  refine own_leave ?_ hrun hended hW hsame hc hs hQ
  have hm' : T.vm.method? m = some meth := X.method'
  have hn : narrow .int (.int z) = .int z := rfl
  show Steps p.tables e below (T.setTop { method := m, pc := pc, locals := Ls, stack := _ :: rest, locked := none }) _
  jvm_step X.here [X.here.top, hx, hd, hm', hret, hn]
  first | (intro acts; rw [hr _ acts rfl rfl rfl]) | rw [hr _ _ rfl rfl rfl]
  exact Steps.refl _
theorem own_retJ (X : Stand p l e R s m args below meth c T locs cells slots) (hx : p.tables.exec = Jvm.exec) {z : Int64} (hret : meth.sig.returnType = some .long) (hlocks : meth.locks = false) (hd : decode c.code pc = .ok (.lreturn, 1)) (hc : cells ≤ cs) (hs : slots ≤ sl) (hQ : Q (some (.long z)) T.heap locs) : own_Wp p e below (own_Fin below s Q cs sl) T (mkF m pc Ls (.long z :: rest)) := by
  obtain ⟨fs, hr, hrun, hended, hW, hsame⟩ := X.leave (v := some (.long z)) (fun h => by rw [hret] at h; cases h) hlocks
  refine own_leave ?_ hrun hended hW hsame hc hs hQ
  have hm' : T.vm.method? m = some meth := X.method'
  have hn : narrow .long (.long z) = .long z := rfl
  show Steps p.tables e below (T.setTop { method := m, pc := pc, locals := Ls, stack := _ :: rest, locked := none }) _
  jvm_step X.here [X.here.top, hx, hd, hm', hret, hn]
  first | (intro acts; rw [hr _ acts rfl rfl rfl]) | rw [hr _ _ rfl rfl rfl]
  exact Steps.refl _
theorem own_retA (X : Stand p l e R s m args below meth c T locs cells slots) (hx : p.tables.exec = Jvm.exec) {t : FieldType} {v : Value} (hret : meth.sig.returnType = some t) (ht : t.isReference = true) (hv : v.isRef = true) (hlocks : meth.locks = false) (hd : decode c.code pc = .ok (.areturn, 1)) (hc : cells ≤ cs) (hs : slots ≤ sl) (hQ : Q (some v) T.heap locs) : own_Wp p e below (own_Fin below s Q cs sl) T (mkF m pc Ls (v :: rest)) := by
  obtain ⟨fs, hr, hrun, hended, hW, hsame⟩ := X.leave (v := some v) (fun h => by rw [hret] at h; cases h) hlocks
  refine own_leave ?_ hrun hended hW hsame hc hs hQ
  have hm' : T.vm.method? m = some meth := X.method'
  rcases ref_cases hv with rfl | ⟨a, rfl⟩
  · show Steps p.tables e below (T.setTop { method := m, pc := pc, locals := Ls, stack := _ :: rest, locked := none }) _
    jvm_step X.here [X.here.top, hx, hd, hm', hret, Value.isRef, ht]
    first | (intro acts; rw [hr _ acts rfl rfl rfl]) | rw [hr _ _ rfl rfl rfl]
    exact Steps.refl _
  · show Steps p.tables e below (T.setTop { method := m, pc := pc, locals := Ls, stack := _ :: rest, locked := none }) _
    jvm_step X.here [X.here.top, hx, hd, hm', hret, Value.isRef, ht]
    first | (intro acts; rw [hr _ acts rfl rfl rfl]) | rw [hr _ _ rfl rfl rfl]
    exact Steps.refl _
theorem own_retV (X : Stand p l e R s m args below meth c T locs cells slots) (hx : p.tables.exec = Jvm.exec) (hret : meth.sig.returnType = none) (hlocks : meth.locks = false) (hd : decode c.code pc = .ok (.return_, 1)) (hc : cells ≤ cs) (hs : slots ≤ sl) (hQ : Q none T.heap locs) : own_Wp p e below (own_Fin below s Q cs sl) T (mkF m pc Ls []) := by
  obtain ⟨fs, hr, hrun, hended, hW, hsame⟩ := X.leave (v := none) (fun _ => rfl) hlocks
  exact own_leave (X.returnOut hx hret hd hr) hrun hended hW hsame hc hs hQ
/-- a contract, as every body of this text has one -/
def own_Met (l : Launch) (Z : State) (y : MethodName) (cd : Cond) (ws : List Cond) (rm : Room) (as' : Array Value) (h : Heap) (Q : Option Value → Heap → List Loc → Prop) : Prop :=
  MetFree l y (head1 (cd :: ws) rm) (fun a U => a = as' ∧ Z.Warmed39 U.vm ∧ U.heap = h) (fun _ _ _ _ _ => True) (fun _ U o U' => ∃ v L, o = .returned v ∧ Q v U'.heap L ∧ FrameEnd U o U' L rm.cells rm.slots)
theorem own_met {y : MethodName} {bytes : ByteArray} {maxL : Nat} {ret : Option FieldType} {ws : List Cond} {rm : Room} {as' : Array Value} {own : String} (hpl : plainFor y = true) (ho : y.cls = own)
    (body : ∀ p e s m below meth c s₁, p.tables.exec = Jvm.exec → c.code = bytes → c.maxLocals = maxL → s.vm.findClass own = some m.cls → meth.name = y.name → meth.sig.returnType = ret → meth.locks = false → Z.Warmed39 s.vm → s₁.heap = h →
      Stand p l e rm s m as' below meth c s₁ [] 0 0 → own_Wp p e below (own_Fin below s Q rm.cells rm.slots) s₁ (entryFrame m as' maxL)) : own_Met l Z y (Cond.code y bytes maxL ret) ws rm as' h Q := by
  refine MetFree.of_bodySF hpl hisR ?_
  intro p e s m args below meth c s₁ Bd hml0 hP hK
  obtain ⟨rfl, hZ, hh⟩ := hP
  exact body p e s m below meth c s₁ Bd.exec Bd.bytes hml0 (ho ▸ findClass_of_methodNamed Bd.named) (name_of_methodNamed Bd.named Bd.method).1 Bd.returns Bd.notSynchronized hZ (by rw [← hh, Bd.state]; rfl) (Stand.of_body Bd)
theorem own_callS (X : Stand p l e R s m args below meth c T locs cells slots) (hx : p.tables.exec = Jvm.exec) (hZ : Z.Warmed39 s.vm) {own : String} {index : Nat} {y : MethodName} {bytes : ByteArray} {maxL W : Nat} {ret : Option FieldType} {rm : Room} {as' : Array Value}
    (hown : s.vm.findClass own = some m.cls) (w1 : (Cond.methodLink own index y).before a0 Z = true) (w2 : (Cond.static y).before a0 Z = true) (w3 : (Cond.initialized y.cls).before a0 Z = true) (w4 : (Cond.code y bytes maxL ret).before a0 Z = true) (hy : y.cls ≠ "java/lang/invoke/MethodHandle" ∧ y.cls ≠ "java/lang/invoke/VarHandle")
    (hM : own_Met l Z y (Cond.code y bytes maxL ret) [] rm as' h Q) (hf : rm.frames + 1 ≤ R.frames) (hl : W + (maxL + 11) + rm.locals ≤ R.locals) (argsL : List Value) (ha : argsL.toArray = as') (hlen : ∀ sig, parseMethodDescriptor y.desc = some sig → argsL.length = sig.parameters.length)
    (hsz : Ls.size = c.maxLocals) (hW : (rest.map fun v => v.category).sum ≤ W) (hd : decode c.code pc = .ok (.invokestatic index, 3)) (eT : T.heap = h) (hc : cells + rm.cells ≤ R.cells) (hs : slots + rm.slots ≤ R.slots) :
    ∃ (v : Option Value) (T' : State) (L : List Loc), Stand p l e R s m args below meth c T' (locs ++ L) (cells + rm.cells) (slots + rm.slots) ∧ Q v T'.heap L ∧ ∀ F, own_Wp p e below F T' (mkF m (pc + 3) Ls (v.toList ++ rest)) → own_Wp p e below F T (mkF m pc Ls (argsL.reverse ++ rest)) := by
  obtain ⟨v, _, ⟨T1, L1, k1, n1⟩, -, X1, ⟨Lc, hQ, l1, y1, z1⟩, st⟩ := Jvm.LawKit.callS X hx (y := y) hown (mvT hZ w1) (mvT hZ w2) (mvT hZ w3) (mvT hZ w4) hy (backOf (W := W) hM hZ w4 w3 hf hl) (g := mkF m pc Ls (argsL.reverse ++ rest)) rfl hsz (argsL := argsL) (rest := rest) hlen rfl (by show 2 * 0 + _ ≤ _; omega) hd (fun _ _ => ⟨ha, eT, hc, hs⟩)
  dsimp only [Pt.U, Pt.locs, Pt.cells, Pt.slots] at X1 l1 y1 z1 st hQ
  subst l1 y1 z1
  exact ⟨v, T1, Lc, X1, hQ, fun F k => own_step st k⟩
theorem own_callV (X : Stand p l e R s m args below meth c T locs cells slots) (hx : p.tables.exec = Jvm.exec) (hZ : Z.Warmed39 s.vm) {own C : String} {index : Nat} {y z : MethodName} {bytes : ByteArray} {maxL W : Nat} {ret : Option FieldType} {rm : Room} {as' : Array Value} {b : Addr}
    (hown : s.vm.findClass own = some m.cls) (w1 : (Cond.methodLink own index y).before a0 Z = true) (w2 : (Cond.declares y).before a0 Z = true) (hnf : NotFace s y) (w3 : (Cond.selects C y z).before a0 Z = true) (w5 : (Cond.instanceMethod z).before a0 Z = true) (w6 : (Cond.initialized z.cls).before a0 Z = true) (w4 : (Cond.code z bytes maxL ret).before a0 Z = true) (hy : y.cls ≠ "java/lang/invoke/MethodHandle" ∧ y.cls ≠ "java/lang/invoke/VarHandle") (E : Exa Z h b C)
    (hM : own_Met l Z z (Cond.code z bytes maxL ret) [] rm as' h Q) (hf : rm.frames + 1 ≤ R.frames) (hl : W + (maxL + 11) + rm.locals ≤ R.locals) (argsL : List Value) (ha : (.ref b :: argsL).toArray = as') (hlen : ∀ sig, parseMethodDescriptor y.desc = some sig → argsL.length = sig.parameters.length)
    (hsz : Ls.size = c.maxLocals) (hW : (rest.map fun v => v.category).sum ≤ W) (hd : decode c.code pc = .ok (.invokevirtual index, 3)) (eT : T.heap = h) (hc : cells + rm.cells ≤ R.cells) (hs : slots + rm.slots ≤ R.slots) :
    ∃ (v : Option Value) (T' : State) (L : List Loc), Stand p l e R s m args below meth c T' (locs ++ L) (cells + rm.cells) (slots + rm.slots) ∧ Q v T'.heap L ∧ ∀ F, own_Wp p e below F T' (mkF m (pc + 3) Ls (v.toList ++ rest)) → own_Wp p e below F T (mkF m pc Ls (argsL.reverse ++ .ref b :: rest)) := by
  obtain ⟨cq, kq, qa, qb, qc⟩ := isOf hZ eT E
  obtain ⟨v, _, ⟨T1, L1, k1, n1⟩, -, X1, ⟨Lc, hQ, l1, y1, z1⟩, st⟩ := X.virtualBack hx (y := y) (z := z) hown (mvT hZ w1) (mvT hZ w2) hnf (mvT hZ w3) (mvT hZ w5) hy (backOf (W := W) hM hZ w4 w6 hf hl) qa qc (g := mkF m pc Ls (argsL.reverse ++ .ref b :: rest)) rfl hsz (Steps.refl _) (argsL := argsL) (rest := rest) hlen rfl (by show 2 * 0 + _ ≤ _; omega) hd (fun _ _ => ⟨ha, eT, hc, hs⟩)
  dsimp only [Pt.U, Pt.locs, Pt.cells, Pt.slots] at X1 l1 y1 z1 st hQ
  subst l1 y1 z1
  exact ⟨v, T1, Lc, X1, hQ, fun F k => own_step (fun _ q => st.trans q) k⟩
theorem own_callN (X : Stand p l e R s m args below meth c T locs cells slots) (hx : p.tables.exec = Jvm.exec) (hZ : Z.Warmed39 s.vm) {own : String} {index : Nat} {y : MethodName} {bytes : ByteArray} {maxL W : Nat} {rm : Room} {as' : Array Value} {b : Addr}
    (hn : y.name = "<init>") (hown : s.vm.findClass own = some m.cls) (w1 : (Cond.methodLink own index y).before a0 Z = true) (w5 : (Cond.instanceMethod y).before a0 Z = true) (w6 : (Cond.initialized y.cls).before a0 Z = true) (w4 : (Cond.code y bytes maxL none).before a0 Z = true) (hy : y.cls ≠ "java/lang/invoke/MethodHandle" ∧ y.cls ≠ "java/lang/invoke/VarHandle")
    (hM : own_Met l Z y (Cond.code y bytes maxL none) [] rm as' h Q) (hf : rm.frames + 1 ≤ R.frames) (hl : W + (maxL + 11) + rm.locals ≤ R.locals) (argsL : List Value) (ha : (.ref b :: argsL).toArray = as') (hlen : ∀ sig, parseMethodDescriptor y.desc = some sig → argsL.length = sig.parameters.length)
    (hsz : Ls.size = c.maxLocals) (hW : (rest.map fun v => v.category).sum ≤ W) (hd : decode c.code pc = .ok (.invokespecial index, 3)) (eT : T.heap = h) (hc : cells + rm.cells ≤ R.cells) (hs : slots + rm.slots ≤ R.slots) :
    ∃ (v : Option Value) (T' : State) (L : List Loc), Stand p l e R s m args below meth c T' (locs ++ L) (cells + rm.cells) (slots + rm.slots) ∧ Q v T'.heap L ∧ ∀ F, own_Wp p e below F T' (mkF m (pc + 3) Ls (v.toList ++ rest)) → own_Wp p e below F T (mkF m pc Ls (argsL.reverse ++ .ref b :: rest)) := by
  obtain ⟨v, _, ⟨T1, L1, k1, n1⟩, -, X1, ⟨Lc, hQ, l1, y1, z1⟩, st⟩ := X.specialBack hx (y := y) hn hown (mvT hZ w1) (mvT hZ w5) (mvT hZ w4) hy (backOf (W := W) hM hZ w4 w6 hf hl) (g := mkF m pc Ls (argsL.reverse ++ .ref b :: rest)) rfl hsz (Steps.refl _) (a := b) (argsL := argsL) (rest := rest) hlen rfl (by show 2 * 0 + _ ≤ _; omega) hd (fun _ _ => ⟨ha, eT, hc, hs⟩)
  dsimp only [Pt.U, Pt.locs, Pt.cells, Pt.slots] at X1 l1 y1 z1 st hQ
  subst l1 y1 z1
  exact ⟨v, T1, Lc, X1, hQ, fun F k => own_step (fun _ q => st.trans q) k⟩
theorem own_callU (X : Stand p l e R s m args below meth c T locs cells slots) (hx : p.tables.exec = Jvm.exec) (hZ : Z.Warmed39 s.vm) {own C owner : String} {index : Nat} {y z : MethodName} {bytes : ByteArray} {maxL W : Nat} {ret : Option FieldType} {rm : Room} {as' : Array Value} {b : Addr}
    (hown : s.vm.findClass own = some m.cls) (w1 : (Cond.methodLink own index y).before a0 Z = true) (w2 : (Cond.sameMethod y.cls owner y.name y.desc).before a0 Z = true) (w7 : (Cond.declares ⟨owner, y.name, y.desc⟩).before a0 Z = true) (w3 : (Cond.selects C y z).before a0 Z = true) (w5 : (Cond.instanceMethod z).before a0 Z = true) (w6 : (Cond.initialized z.cls).before a0 Z = true) (w4 : (Cond.code z bytes maxL ret).before a0 Z = true) (hy : owner ≠ "java/lang/invoke/MethodHandle" ∧ owner ≠ "java/lang/invoke/VarHandle") (E : Exa Z h b C)
    (hM : own_Met l Z z (Cond.code z bytes maxL ret) [] rm as' h Q) (hf : rm.frames + 1 ≤ R.frames) (hl : W + (maxL + 11) + rm.locals ≤ R.locals) (argsL : List Value) (ha : (.ref b :: argsL).toArray = as') (hlen : ∀ sig, parseMethodDescriptor y.desc = some sig → argsL.length = sig.parameters.length)
    (hsz : Ls.size = c.maxLocals) (hW : (rest.map fun v => v.category).sum ≤ W) (hd : decode c.code pc = .ok (.invokevirtual index, 3)) (eT : T.heap = h) (hc : cells + rm.cells ≤ R.cells) (hs : slots + rm.slots ≤ R.slots) :
    ∃ (v : Option Value) (T' : State) (L : List Loc), Stand p l e R s m args below meth c T' (locs ++ L) (cells + rm.cells) (slots + rm.slots) ∧ Q v T'.heap L ∧ ∀ F, own_Wp p e below F T' (mkF m (pc + 3) Ls (v.toList ++ rest)) → own_Wp p e below F T (mkF m pc Ls (argsL.reverse ++ .ref b :: rest)) := by
  obtain ⟨cq, kq, qa, qb, qc⟩ := isOf hZ eT E
  obtain ⟨v, _, ⟨T1, L1, k1, n1⟩, -, X1, ⟨Lc, hQ, l1, y1, z1⟩, st⟩ := X.virtualBackUp hx (x := y) (y := z) hown (mvT hZ w1) (mvT hZ w2) (mvT hZ w7) hy (mvT hZ w3) (mvT hZ w5) (backOf (W := W) hM hZ w4 w6 hf hl) qa qc (g := mkF m pc Ls (argsL.reverse ++ .ref b :: rest)) rfl hsz (Steps.refl _) (argsL := argsL) (rest := rest) hlen rfl (by show 2 * 0 + _ ≤ _; omega) hd (fun _ _ => ⟨ha, eT, hc, hs⟩)
  dsimp only [Pt.U, Pt.locs, Pt.cells, Pt.slots] at X1 l1 y1 z1 st hQ
  subst l1 y1 z1
  exact ⟨v, T1, Lc, X1, hQ, fun F k => own_step (fun _ q => st.trans q) k⟩
theorem own_callF (X : Stand p l e R s m args below meth c T locs cells slots) (hx : p.tables.exec = Jvm.exec) (hZ : Z.Warmed39 s.vm) {own C : String} {index count : Nat} {y z : MethodName} {bytes : ByteArray} {maxL W : Nat} {ret : Option FieldType} {rm : Room} {as' : Array Value} {b : Addr}
    (hown : s.vm.findClass own = some m.cls) (w1 : (Cond.methodLink own index y).before a0 Z = true) (w2 : (Cond.declares y).before a0 Z = true) (w7 : (Cond.interfaceMethod y.cls y.cls y.name y.desc).before a0 Z = true) (hfa : ((Cond.interfaceMethod y.cls y.cls y.name y.desc).onTables && (Cond.interfaceMethod y.cls y.cls y.name y.desc).keepsFace) = true) (w3 : (Cond.selects C y z).before a0 Z = true) (w5 : (Cond.instanceMethod z).before a0 Z = true) (w8 : (Cond.publicMethod z).before a0 Z = true) (w9 : (Cond.unhidden C y.name y.desc).before a0 Z = true) (w10 : (Cond.castable C y.cls).before a0 Z = true) (w6 : (Cond.initialized z.cls).before a0 Z = true) (w4 : (Cond.code z bytes maxL ret).before a0 Z = true) (hy : y.cls ≠ "java/lang/invoke/MethodHandle" ∧ y.cls ≠ "java/lang/invoke/VarHandle") (E : Exa Z h b C)
    (hM : own_Met l Z z (Cond.code z bytes maxL ret) [] rm as' h Q) (hf : rm.frames + 1 ≤ R.frames) (hl : W + (maxL + 11) + rm.locals ≤ R.locals) (argsL : List Value) (ha : (.ref b :: argsL).toArray = as') (hlen : ∀ sig, parseMethodDescriptor y.desc = some sig → argsL.length = sig.parameters.length)
    (hsz : Ls.size = c.maxLocals) (hW : (rest.map fun v => v.category).sum ≤ W) (hd : decode c.code pc = .ok (.invokeinterface index count, 5)) (eT : T.heap = h) (hc : cells + rm.cells ≤ R.cells) (hs : slots + rm.slots ≤ R.slots) :
    ∃ (v : Option Value) (T' : State) (L : List Loc), Stand p l e R s m args below meth c T' (locs ++ L) (cells + rm.cells) (slots + rm.slots) ∧ Q v T'.heap L ∧ ∀ F, own_Wp p e below F T' (mkF m (pc + 5) Ls (v.toList ++ rest)) → own_Wp p e below F T (mkF m pc Ls (argsL.reverse ++ .ref b :: rest)) := by
  obtain ⟨cq, kq, qa, qb, qc⟩ := isOf hZ eT E
  obtain ⟨v, _, ⟨T1, L1, k1, n1⟩, -, X1, ⟨Lc, hQ, l1, y1, z1⟩, st⟩ := X.interfaceBack hx (xi := y) (y := z) hown (mvT hZ w1) (mvT hZ w2) (mvT hZ w7 hfa) (mvT hZ w3) (mvT hZ w5) (mvT hZ w8) (mvT hZ w9) (mvT hZ w10) hy (backOf (W := W) hM hZ w4 w6 hf hl) qa qb qc (g := mkF m pc Ls (argsL.reverse ++ .ref b :: rest)) rfl hsz (Steps.refl _) (argsL := argsL) (rest := rest) hlen rfl (by show 2 * 0 + _ ≤ _; omega) hd (fun _ _ => ⟨ha, eT, hc, hs⟩)
  dsimp only [Pt.U, Pt.locs, Pt.cells, Pt.slots] at X1 l1 y1 z1 st hQ
  subst l1 y1 z1
  exact ⟨v, T1, Lc, X1, hQ, fun F k => own_step (fun _ q => st.trans q) k⟩
theorem own_callP (X : Stand p l e R s m args below meth c T locs cells slots) (hx : p.tables.exec = Jvm.exec) (hZ : Z.Warmed39 s.vm) {own : String} {index : Nat} {y : MethodName} {bytes : ByteArray} {maxL W : Nat} {ret : Option FieldType} {rm : Room} {as' : Array Value} {b : Addr}
    (hown : s.vm.findClass own = some m.cls) (w1 : (Cond.methodLink own index y).before a0 Z = true) (w5 : (Cond.instanceMethod y).before a0 Z = true) (w7 : (Cond.selects y.cls y y).before a0 Z = true) (w8 : (Cond.privateMethod y).before a0 Z = true) (w6 : (Cond.initialized y.cls).before a0 Z = true) (w4 : (Cond.code y bytes maxL ret).before a0 Z = true) (hy : y.cls ≠ "java/lang/invoke/MethodHandle" ∧ y.cls ≠ "java/lang/invoke/VarHandle") {C : String} (E : Exa Z h b C)
    (hM : own_Met l Z y (Cond.code y bytes maxL ret) [] rm as' h Q) (hf : rm.frames + 1 ≤ R.frames) (hl : W + (maxL + 11) + rm.locals ≤ R.locals) (argsL : List Value) (ha : (.ref b :: argsL).toArray = as') (hlen : ∀ sig, parseMethodDescriptor y.desc = some sig → argsL.length = sig.parameters.length)
    (hsz : Ls.size = c.maxLocals) (hW : (rest.map fun v => v.category).sum ≤ W) (hd : decode c.code pc = .ok (.invokevirtual index, 3)) (eT : T.heap = h) (hc : cells + rm.cells ≤ R.cells) (hs : slots + rm.slots ≤ R.slots) :
    ∃ (v : Option Value) (T' : State) (L : List Loc), Stand p l e R s m args below meth c T' (locs ++ L) (cells + rm.cells) (slots + rm.slots) ∧ Q v T'.heap L ∧ ∀ F, own_Wp p e below F T' (mkF m (pc + 3) Ls (v.toList ++ rest)) → own_Wp p e below F T (mkF m pc Ls (argsL.reverse ++ .ref b :: rest)) := by
  obtain ⟨cq, q1, q2⟩ := E.cell
  obtain ⟨v, _, ⟨T1, L1, k1, n1⟩, -, X1, ⟨Lc, hQ, l1, y1, z1⟩, st⟩ := X.privateBack hx (y := y) hown (mvT hZ w1) (mvT hZ w5) (mvT hZ w7) (Cond.privateMethod_at (mvP hZ w8 (args := #[]))) (mvT hZ w4) hy (backOf (W := W) hM hZ w4 w6 hf hl) (g := mkF m pc Ls (argsL.reverse ++ .ref b :: rest)) rfl hsz (Steps.refl _) (a := b) (by rw [eT]; exact q1) q2 (argsL := argsL) (rest := rest) hlen rfl (by show 2 * 0 + _ ≤ _; omega) hd (fun _ _ => ⟨ha, eT, hc, hs⟩)
  dsimp only [Pt.U, Pt.locs, Pt.cells, Pt.slots] at X1 l1 y1 z1 st hQ
  subst l1 y1 z1
  exact ⟨v, T1, Lc, X1, hQ, fun F k => own_step (fun _ q => st.trans q) k⟩
/-- the words of a long conjunction, as a list -/
def own_flat : Cond → List Cond
  | .and a b => a :: own_flat b
  | c => [c]
theorem own_mem {args : Array Value} {Z : State} : ∀ c : Cond, c.value args Z none Z [] = some true → ∀ d ∈ own_flat c, d.value args Z none Z [] = some true
  | .and a b, h, d, hd => by
    obtain ⟨h1, h2⟩ := and_e h
    rcases List.mem_cons.mp hd with rfl | q
    · exact h1
    · exact own_mem b h2 d q
  | .tt, h, d, hd => by cases List.mem_singleton.mp hd; exact h
  | c, h, d, hd => by
    unfold own_flat at hd
    split at hd
    · rename_i a b
      obtain ⟨h1, h2⟩ := and_e h
      rcases List.mem_cons.mp hd with rfl | q
      · exact h1
      · exact own_mem b h2 d q
    · cases List.mem_singleton.mp hd; exact h
/-- the object that a term of the start names -/
def own_t (Z : State) (t : Term) : Addr := match t.eval #[] Z none [] Z with
  | some (.ref a) => a
  | _ => 0
theorem own_t_eq {t : Term} {a : Addr} (h : t.eval a0 Z none [] Z = some (.ref a)) (hr : t.eval a0 Z none [] Z = t.eval #[] Z none [] Z) : own_t Z t = a := by
  rw [hr] at h
  simp only [own_t, h]
theorem own_ev {t : Term} {K : String} (h : (Cond.exactly t K).value a0 Z none Z [] = some true) (hr : t.eval a0 Z none [] Z = t.eval #[] Z none [] Z) : t.eval a0 Z none [] Z = some (.ref (own_t Z t)) := by
  obtain ⟨a, ev⟩ := exa_v h
  rw [own_t_eq ev hr]
  exact ev
theorem own_evA {t : Term} {ty : FieldType} (h : (Cond.arrayOf t ty).value a0 Z none Z [] = some true) (hr : t.eval a0 Z none [] Z = t.eval #[] Z none [] Z) : t.eval a0 Z none [] Z = some (.ref (own_t Z t)) := by
  obtain ⟨a, ev⟩ := arr_v h
  rw [own_t_eq ev hr]
  exact ev
theorem own_eqI {t : Term} {z : Int32} (q : (Cond.eq t (.int z)).value a0 Z none Z [] = some true) : t.eval a0 Z none [] Z = some (.int z) := by
  cases hf : t.eval a0 Z none [] Z with
  | none => simp [Cond.value, hf] at q
  | some v => cases v <;> simp [Cond.value, Term.eval, hf] at q <;> first | (rw [q]; done) | exact congrArg (fun z => some (Value.int z)) q | skip
theorem own_eqR {t u : Term} {b : Addr} (q : (Cond.eq t u).value a0 Z none Z [] = some true) (ev : u.eval a0 Z none [] Z = some (.ref b)) : t.eval a0 Z none [] Z = some (.ref b) := by
  cases hf : t.eval a0 Z none [] Z with
  | none => simp [Cond.value, hf] at q
  | some v => cases v <;> simp [Cond.value, hf, ev] at q <;> first | (rw [q]; done) | exact congrArg (fun z => some (Value.ref z)) q | skip
theorem own_fld {t : Term} {O f d : String} {a : Addr} {v : Value} (ev : t.eval a0 Z none [] Z = some (.ref a)) (q : (Term.field t O f d).eval a0 Z none [] Z = some v) : Fld Z Z.heap a O f d v := by
  refine Fld.start ?_
  simp only [Term.eval, ev, Option.bind_eq_bind, Option.bind_some] at q
  exact q
theorem own_len {t : Term} {ty : FieldType} {a : Addr} {cl : Cell} {z : Int32} (A : Arr Z Z.heap a cl ty) (ev : t.eval a0 Z none [] Z = some (.ref a)) (q : (Cond.eq (.length t) (.int z)).value a0 Z none Z [] = some true) : cl.slots.size < 2 ^ 31 ∧ cl.slots.size.toInt32 = z := by
  have e0 : Z.arrayAt? a = some cl := Arr.fin (Vm.Alike.refl _) A
  have q2 := own_eqI q
  simp only [Term.eval, ev, e0, Option.bind_eq_bind, Option.bind_some] at q2
  split at q2
  · rename_i g
    exact ⟨g, by simpa using q2⟩
  · cases q2
theorem own_el {t : Term} {ty : FieldType} {a : Addr} {cl : Cell} {i : Int32} {v : Value} (A : Arr Z Z.heap a cl ty) (ev : t.eval a0 Z none [] Z = some (.ref a)) (q : (Term.elem t (.int i)).eval a0 Z none [] Z = some v) : cl.slots[i.toNatClampNeg]? = some v := by
  have e0 : Z.arrayAt? a = some cl := Arr.fin (Vm.Alike.refl _) A
  simp only [Term.eval, ev, e0, Option.bind_eq_bind, Option.bind_some] at q
  split at q
  · cases q
  · exact q
def own_i (Z : State) (t : Term) : Int32 := match t.eval #[] Z none [] Z with
  | some (.int a) => a
  | _ => 0
theorem own_evI {t : Term} (h : (Cond.isInt t).value a0 Z none Z [] = some true) (hr : t.eval a0 Z none [] Z = t.eval #[] Z none [] Z) : t.eval a0 Z none [] Z = some (.int (own_i Z t)) := by
  obtain ⟨a, ev⟩ := is_v h
  have q := ev
  rw [hr] at q
  have e : own_i Z t = a := by simp only [own_i, q]
  rw [e]
  exact ev
theorem own_neI {t : Term} {z a : Int32} (h : (Cond.not (.eq t (.int z))).value a0 Z none Z [] = some true) (ev : t.eval a0 Z none [] Z = some (.int a)) : ¬ (a = z) := by
  have q := not_v h
  simp only [Cond.value, ev, Term.eval] at q
  intro e
  subst e
  simp at q
theorem own_fitc {c : Int32} (h : nar .char c = c) : fits .char (.int c) = true := by
  have q := fits_nar_char c
  rw [h] at q
  exact q
theorem own_narb {c : Int32} (h : c = (0 : Int32) ∨ c = (1 : Int32)) : nar .boolean c = c := by rcases h with rfl | rfl <;> rfl
theorem own_nb {c : Int32} (h : c = (0 : Int32) ∨ c = (1 : Int32)) : narrow .boolean (.int c) = .int c := by rcases h with rfl | rfl <;> rfl
theorem own_fb {c : Int32} (h : c = (0 : Int32) ∨ c = (1 : Int32)) : fits .boolean (.int c) = true := by rcases h with rfl | rfl <;> rfl
theorem own_lc3 (a b : Int64) : (a < b ∧ lcmpW a b = -1) ∨ (a = b ∧ lcmpW a b = 0) ∨ (b < a ∧ lcmpW a b = 1) := by
  by_cases h : b < a
  · exact Or.inr (Or.inr ⟨h, if_pos h⟩)
  · by_cases h2 : a = b
    · exact Or.inr (Or.inl ⟨h2, (if_neg h).trans (if_pos h2)⟩)
    · refine Or.inl ⟨?_, (if_neg h).trans (if_neg h2)⟩
      simp only [Int64.lt_iff_toInt_lt, ← Int64.toInt_inj] at h h2 ⊢
      omega
theorem own_lcltY {a b : Int64} (h : a < b) : ifCond.holds .lt (lcmpW a b) = true := by
  rcases own_lc3 a b with ⟨h1, e⟩ | ⟨h1, e⟩ | ⟨h1, e⟩ <;> first | (rw [e]; decide) | (exfalso; simp only [Int64.lt_iff_toInt_lt, ← Int64.toInt_inj] at h h1; omega)
theorem own_lcltN {a b : Int64} (h : ¬ (a < b)) : ifCond.holds .lt (lcmpW a b) = false := by
  rcases own_lc3 a b with ⟨h1, e⟩ | ⟨h1, e⟩ | ⟨h1, e⟩ <;> first | (rw [e]; decide) | (exfalso; simp only [Int64.lt_iff_toInt_lt, ← Int64.toInt_inj] at h h1; omega)
theorem own_lcgeY {a b : Int64} (h : ¬ (a < b)) : ifCond.holds .ge (lcmpW a b) = true := by
  rcases own_lc3 a b with ⟨h1, e⟩ | ⟨h1, e⟩ | ⟨h1, e⟩ <;> first | (rw [e]; decide) | (exfalso; simp only [Int64.lt_iff_toInt_lt, ← Int64.toInt_inj] at h h1; omega)
theorem own_lcgeN {a b : Int64} (h : a < b) : ifCond.holds .ge (lcmpW a b) = false := by
  rcases own_lc3 a b with ⟨h1, e⟩ | ⟨h1, e⟩ | ⟨h1, e⟩ <;> first | (rw [e]; decide) | (exfalso; simp only [Int64.lt_iff_toInt_lt, ← Int64.toInt_inj] at h h1; omega)
theorem own_lcgtY {a b : Int64} (h : b < a) : ifCond.holds .gt (lcmpW a b) = true := by
  rcases own_lc3 a b with ⟨h1, e⟩ | ⟨h1, e⟩ | ⟨h1, e⟩ <;> first | (rw [e]; decide) | (exfalso; simp only [Int64.lt_iff_toInt_lt, ← Int64.toInt_inj] at h h1; omega)
theorem own_lcgtN {a b : Int64} (h : ¬ (b < a)) : ifCond.holds .gt (lcmpW a b) = false := by
  rcases own_lc3 a b with ⟨h1, e⟩ | ⟨h1, e⟩ | ⟨h1, e⟩ <;> first | (rw [e]; decide) | (exfalso; simp only [Int64.lt_iff_toInt_lt, ← Int64.toInt_inj] at h h1; omega)
theorem own_lcleY {a b : Int64} (h : ¬ (b < a)) : ifCond.holds .le (lcmpW a b) = true := by
  rcases own_lc3 a b with ⟨h1, e⟩ | ⟨h1, e⟩ | ⟨h1, e⟩ <;> first | (rw [e]; decide) | (exfalso; simp only [Int64.lt_iff_toInt_lt, ← Int64.toInt_inj] at h h1; omega)
theorem own_lcleN {a b : Int64} (h : b < a) : ifCond.holds .le (lcmpW a b) = false := by
  rcases own_lc3 a b with ⟨h1, e⟩ | ⟨h1, e⟩ | ⟨h1, e⟩ <;> first | (rw [e]; decide) | (exfalso; simp only [Int64.lt_iff_toInt_lt, ← Int64.toInt_inj] at h h1; omega)
theorem own_lceqY {a b : Int64} (h : a = b) : ifCond.holds .eq (lcmpW a b) = true := by
  rcases own_lc3 a b with ⟨h1, e⟩ | ⟨h1, e⟩ | ⟨h1, e⟩ <;> first | (rw [e]; decide) | (exfalso; simp only [Int64.lt_iff_toInt_lt, ← Int64.toInt_inj] at h h1; omega)
theorem own_lceqN {a b : Int64} (h : ¬ (a = b)) : ifCond.holds .eq (lcmpW a b) = false := by
  rcases own_lc3 a b with ⟨h1, e⟩ | ⟨h1, e⟩ | ⟨h1, e⟩ <;> first | (rw [e]; decide) | (exfalso; simp only [Int64.lt_iff_toInt_lt, ← Int64.toInt_inj] at h h1; omega)
theorem own_lcneY {a b : Int64} (h : ¬ (a = b)) : ifCond.holds .ne (lcmpW a b) = true := by
  rcases own_lc3 a b with ⟨h1, e⟩ | ⟨h1, e⟩ | ⟨h1, e⟩ <;> first | (rw [e]; decide) | (exfalso; simp only [Int64.lt_iff_toInt_lt, ← Int64.toInt_inj] at h h1; omega)
theorem own_lcneN {a b : Int64} (h : a = b) : ifCond.holds .ne (lcmpW a b) = false := by
  rcases own_lc3 a b with ⟨h1, e⟩ | ⟨h1, e⟩ | ⟨h1, e⟩ <;> first | (rw [e]; decide) | (exfalso; simp only [Int64.lt_iff_toInt_lt, ← Int64.toInt_inj] at h h1; omega)
end OwnLayer
theorem own_get {c : Cell} {vs : List Value} {d : Value} {z j : Int32} (S : c.slots.size = z.toNatClampNeg) (H : Has c vs d) (q : ¬ (j < 0 ∨ c.slots.size ≤ j.toNatClampNeg)) (i : Nat) (hj : j.toNatClampNeg = i) : c.slots[j.toNatClampNeg]? = some (vs.getD i d) := by
  subst hj
  exact H _ (Nat.lt_of_not_le fun r => q (Or.inr r))
theorem own_mod (x : Int32) {n : Int32} (hn : 0 < n.toInt) : 0 ≤ ((x &&& (2147483647 : Int32)) % n).toInt ∧ ((x &&& (2147483647 : Int32)) % n).toInt < n.toInt := by
  have h := (Jvm.Kit.i32_and_bounds x (m := (2147483647 : Int32)) (by decide)).1
  have h0 : 0 ≤ (x &&& (2147483647 : Int32)).toInt := Jvm.Kit.i32_nonneg.mp h
  rw [Int32.toInt_mod]
  exact ⟨Int.tmod_nonneg _ h0, Int.tmod_lt_of_pos _ hn⟩
theorem own_mod6 (x : Int32) : (x &&& (2147483647 : Int32)) % (6 : Int32) = (0 : Int32) ∨ (x &&& (2147483647 : Int32)) % (6 : Int32) = (1 : Int32) ∨ (x &&& (2147483647 : Int32)) % (6 : Int32) = (2 : Int32) ∨ (x &&& (2147483647 : Int32)) % (6 : Int32) = (3 : Int32) ∨ (x &&& (2147483647 : Int32)) % (6 : Int32) = (4 : Int32) ∨ (x &&& (2147483647 : Int32)) % (6 : Int32) = (5 : Int32) := by
  have h := own_mod x (n := (6 : Int32)) (by decide)
  generalize (x &&& (2147483647 : Int32)) % (6 : Int32) = y at h ⊢
  have e : (6 : Int32).toInt = 6 := rfl
  rw [e] at h
  simp only [← Int32.toInt_inj]
  show y.toInt = 0 ∨ y.toInt = 1 ∨ y.toInt = 2 ∨ y.toInt = 3 ∨ y.toInt = 4 ∨ y.toInt = 5
  omega
def w0_IPV4 (Z : State) : Addr := own_t Z (Jvm.Term.static "com/example/pathfare/pathfare/alto/EndpointAddress$Type" "IPV4" "Lcom/example/pathfare/pathfare/alto/EndpointAddress$Type;")
theorem ev_w0_IPV4 {Z : State} {a0 : Array Value} (hw : ∀ d ∈ tables_1, d.before a0 Z = true) (hA : ∀ d ∈ own_flat narrow_1, d.value a0 Z none Z [] = some true) : (Jvm.Term.static "com/example/pathfare/pathfare/alto/EndpointAddress$Type" "IPV4" "Lcom/example/pathfare/pathfare/alto/EndpointAddress$Type;").eval a0 Z none [] Z = some (.ref (w0_IPV4 Z)) := own_ev (hA _ (List.mem_of_getElem? (i := 0) rfl)) rfl
def w1_TCP6 (Z : State) : Addr := own_t Z (Jvm.Term.static "com/example/pathfare/pathfare/alto/EndpointAddress$Type" "TCP6" "Lcom/example/pathfare/pathfare/alto/EndpointAddress$Type;")
theorem ev_w1_TCP6 {Z : State} {a0 : Array Value} (hw : ∀ d ∈ tables_1, d.before a0 Z = true) (hA : ∀ d ∈ own_flat narrow_1, d.value a0 Z none Z [] = some true) : (Jvm.Term.static "com/example/pathfare/pathfare/alto/EndpointAddress$Type" "TCP6" "Lcom/example/pathfare/pathfare/alto/EndpointAddress$Type;").eval a0 Z none [] Z = some (.ref (w1_TCP6 Z)) := own_ev (hA _ (List.mem_of_getElem? (i := 1) rfl)) rfl
def w2_TCP (Z : State) : Addr := own_t Z (Jvm.Term.static "com/example/pathfare/pathfare/alto/EndpointAddress$Type" "TCP" "Lcom/example/pathfare/pathfare/alto/EndpointAddress$Type;")
theorem ev_w2_TCP {Z : State} {a0 : Array Value} (hw : ∀ d ∈ tables_1, d.before a0 Z = true) (hA : ∀ d ∈ own_flat narrow_1, d.value a0 Z none Z [] = some true) : (Jvm.Term.static "com/example/pathfare/pathfare/alto/EndpointAddress$Type" "TCP" "Lcom/example/pathfare/pathfare/alto/EndpointAddress$Type;").eval a0 Z none [] Z = some (.ref (w2_TCP Z)) := own_ev (hA _ (List.mem_of_getElem? (i := 4) rfl)) rfl
def w3_IPV6 (Z : State) : Addr := own_t Z (Jvm.Term.static "com/example/pathfare/pathfare/alto/EndpointAddress$Type" "IPV6" "Lcom/example/pathfare/pathfare/alto/EndpointAddress$Type;")
theorem ev_w3_IPV6 {Z : State} {a0 : Array Value} (hw : ∀ d ∈ tables_1, d.before a0 Z = true) (hA : ∀ d ∈ own_flat narrow_1, d.value a0 Z none Z [] = some true) : (Jvm.Term.static "com/example/pathfare/pathfare/alto/EndpointAddress$Type" "IPV6" "Lcom/example/pathfare/pathfare/alto/EndpointAddress$Type;").eval a0 Z none [] Z = some (.ref (w3_IPV6 Z)) := own_ev (hA _ (List.mem_of_getElem? (i := 5) rfl)) rfl
def w4_UDP6 (Z : State) : Addr := own_t Z (Jvm.Term.static "com/example/pathfare/pathfare/alto/EndpointAddress$Type" "UDP6" "Lcom/example/pathfare/pathfare/alto/EndpointAddress$Type;")
theorem ev_w4_UDP6 {Z : State} {a0 : Array Value} (hw : ∀ d ∈ tables_1, d.before a0 Z = true) (hA : ∀ d ∈ own_flat narrow_1, d.value a0 Z none Z [] = some true) : (Jvm.Term.static "com/example/pathfare/pathfare/alto/EndpointAddress$Type" "UDP6" "Lcom/example/pathfare/pathfare/alto/EndpointAddress$Type;").eval a0 Z none [] Z = some (.ref (w4_UDP6 Z)) := own_ev (hA _ (List.mem_of_getElem? (i := 8) rfl)) rfl
def w5_UDP (Z : State) : Addr := own_t Z (Jvm.Term.static "com/example/pathfare/pathfare/alto/EndpointAddress$Type" "UDP" "Lcom/example/pathfare/pathfare/alto/EndpointAddress$Type;")
theorem ev_w5_UDP {Z : State} {a0 : Array Value} (hw : ∀ d ∈ tables_1, d.before a0 Z = true) (hA : ∀ d ∈ own_flat narrow_1, d.value a0 Z none Z [] = some true) : (Jvm.Term.static "com/example/pathfare/pathfare/alto/EndpointAddress$Type" "UDP" "Lcom/example/pathfare/pathfare/alto/EndpointAddress$Type;").eval a0 Z none [] Z = some (.ref (w5_UDP Z)) := own_ev (hA _ (List.mem_of_getElem? (i := 10) rfl)) rfl
theorem ex_w0_IPV4 {Z : State} {a0 : Array Value} (hw : ∀ d ∈ tables_1, d.before a0 Z = true) (hA : ∀ d ∈ own_flat narrow_1, d.value a0 Z none Z [] = some true) : Exa Z Z.heap (w0_IPV4 Z) "com/example/pathfare/pathfare/alto/EndpointAddress$Type" := Exa.start (ev_w0_IPV4 hw hA) (hA _ (List.mem_of_getElem? (i := 0) rfl))
theorem ex_w1_TCP6 {Z : State} {a0 : Array Value} (hw : ∀ d ∈ tables_1, d.before a0 Z = true) (hA : ∀ d ∈ own_flat narrow_1, d.value a0 Z none Z [] = some true) : Exa Z Z.heap (w1_TCP6 Z) "com/example/pathfare/pathfare/alto/EndpointAddress$Type" := Exa.start (ev_w1_TCP6 hw hA) (hA _ (List.mem_of_getElem? (i := 1) rfl))
theorem ex_w2_TCP {Z : State} {a0 : Array Value} (hw : ∀ d ∈ tables_1, d.before a0 Z = true) (hA : ∀ d ∈ own_flat narrow_1, d.value a0 Z none Z [] = some true) : Exa Z Z.heap (w2_TCP Z) "com/example/pathfare/pathfare/alto/EndpointAddress$Type" := Exa.start (ev_w2_TCP hw hA) (hA _ (List.mem_of_getElem? (i := 4) rfl))
theorem ex_w3_IPV6 {Z : State} {a0 : Array Value} (hw : ∀ d ∈ tables_1, d.before a0 Z = true) (hA : ∀ d ∈ own_flat narrow_1, d.value a0 Z none Z [] = some true) : Exa Z Z.heap (w3_IPV6 Z) "com/example/pathfare/pathfare/alto/EndpointAddress$Type" := Exa.start (ev_w3_IPV6 hw hA) (hA _ (List.mem_of_getElem? (i := 5) rfl))
theorem ex_w4_UDP6 {Z : State} {a0 : Array Value} (hw : ∀ d ∈ tables_1, d.before a0 Z = true) (hA : ∀ d ∈ own_flat narrow_1, d.value a0 Z none Z [] = some true) : Exa Z Z.heap (w4_UDP6 Z) "com/example/pathfare/pathfare/alto/EndpointAddress$Type" := Exa.start (ev_w4_UDP6 hw hA) (hA _ (List.mem_of_getElem? (i := 8) rfl))
theorem ex_w5_UDP {Z : State} {a0 : Array Value} (hw : ∀ d ∈ tables_1, d.before a0 Z = true) (hA : ∀ d ∈ own_flat narrow_1, d.value a0 Z none Z [] = some true) : Exa Z Z.heap (w5_UDP Z) "com/example/pathfare/pathfare/alto/EndpointAddress$Type" := Exa.start (ev_w5_UDP hw hA) (hA _ (List.mem_of_getElem? (i := 10) rfl))
theorem st_w0_IPV4 {Z : State} {a0 : Array Value} (hw : ∀ d ∈ tables_1, d.before a0 Z = true) (hA : ∀ d ∈ own_flat narrow_1, d.value a0 Z none Z [] = some true) : Sta Z Z.heap "com/example/pathfare/pathfare/alto/EndpointAddress$Type" "IPV4" "Lcom/example/pathfare/pathfare/alto/EndpointAddress$Type;" (.ref (w0_IPV4 Z)) := Sta.start (ev_w0_IPV4 hw hA) (Or.inr ⟨(hw _ (List.mem_of_getElem? (i := 6) rfl)), (hw _ (List.mem_of_getElem? (i := 7) rfl))⟩)
theorem st_w1_TCP6 {Z : State} {a0 : Array Value} (hw : ∀ d ∈ tables_1, d.before a0 Z = true) (hA : ∀ d ∈ own_flat narrow_1, d.value a0 Z none Z [] = some true) : Sta Z Z.heap "com/example/pathfare/pathfare/alto/EndpointAddress$Type" "TCP6" "Lcom/example/pathfare/pathfare/alto/EndpointAddress$Type;" (.ref (w1_TCP6 Z)) := Sta.start (ev_w1_TCP6 hw hA) (Or.inr ⟨(hw _ (List.mem_of_getElem? (i := 6) rfl)), (hw _ (List.mem_of_getElem? (i := 9) rfl))⟩)
theorem st_w2_TCP {Z : State} {a0 : Array Value} (hw : ∀ d ∈ tables_1, d.before a0 Z = true) (hA : ∀ d ∈ own_flat narrow_1, d.value a0 Z none Z [] = some true) : Sta Z Z.heap "com/example/pathfare/pathfare/alto/EndpointAddress$Type" "TCP" "Lcom/example/pathfare/pathfare/alto/EndpointAddress$Type;" (.ref (w2_TCP Z)) := Sta.start (ev_w2_TCP hw hA) (Or.inr ⟨(hw _ (List.mem_of_getElem? (i := 6) rfl)), (hw _ (List.mem_of_getElem? (i := 28) rfl))⟩)
theorem st_w3_IPV6 {Z : State} {a0 : Array Value} (hw : ∀ d ∈ tables_1, d.before a0 Z = true) (hA : ∀ d ∈ own_flat narrow_1, d.value a0 Z none Z [] = some true) : Sta Z Z.heap "com/example/pathfare/pathfare/alto/EndpointAddress$Type" "IPV6" "Lcom/example/pathfare/pathfare/alto/EndpointAddress$Type;" (.ref (w3_IPV6 Z)) := Sta.start (ev_w3_IPV6 hw hA) (Or.inr ⟨(hw _ (List.mem_of_getElem? (i := 6) rfl)), (hw _ (List.mem_of_getElem? (i := 30) rfl))⟩)
theorem st_w4_UDP6 {Z : State} {a0 : Array Value} (hw : ∀ d ∈ tables_1, d.before a0 Z = true) (hA : ∀ d ∈ own_flat narrow_1, d.value a0 Z none Z [] = some true) : Sta Z Z.heap "com/example/pathfare/pathfare/alto/EndpointAddress$Type" "UDP6" "Lcom/example/pathfare/pathfare/alto/EndpointAddress$Type;" (.ref (w4_UDP6 Z)) := Sta.start (ev_w4_UDP6 hw hA) (Or.inr ⟨(hw _ (List.mem_of_getElem? (i := 6) rfl)), (hw _ (List.mem_of_getElem? (i := 32) rfl))⟩)
theorem st_w5_UDP {Z : State} {a0 : Array Value} (hw : ∀ d ∈ tables_1, d.before a0 Z = true) (hA : ∀ d ∈ own_flat narrow_1, d.value a0 Z none Z [] = some true) : Sta Z Z.heap "com/example/pathfare/pathfare/alto/EndpointAddress$Type" "UDP" "Lcom/example/pathfare/pathfare/alto/EndpointAddress$Type;" (.ref (w5_UDP Z)) := Sta.start (ev_w5_UDP hw hA) (Or.inr ⟨(hw _ (List.mem_of_getElem? (i := 6) rfl)), (hw _ (List.mem_of_getElem? (i := 34) rfl))⟩)
theorem fl0 {Z : State} {a0 : Array Value} (hw : ∀ d ∈ tables_1, d.before a0 Z = true) (hA : ∀ d ∈ own_flat narrow_1, d.value a0 Z none Z [] = some true) : Fld Z Z.heap (w0_IPV4 Z) "com/example/pathfare/pathfare/alto/EndpointAddress$Type" "ipv4" "Z" (.int (1 : Int32)) := own_fld (ev_w0_IPV4 hw hA) (own_eqI (hA _ (List.mem_of_getElem? (i := 2) rfl)))
theorem fl1 {Z : State} {a0 : Array Value} (hw : ∀ d ∈ tables_1, d.before a0 Z = true) (hA : ∀ d ∈ own_flat narrow_1, d.value a0 Z none Z [] = some true) : Fld Z Z.heap (w1_TCP6 Z) "com/example/pathfare/pathfare/alto/EndpointAddress$Type" "ipv4" "Z" (.int (0 : Int32)) := own_fld (ev_w1_TCP6 hw hA) (own_eqI (hA _ (List.mem_of_getElem? (i := 3) rfl)))
theorem fl2 {Z : State} {a0 : Array Value} (hw : ∀ d ∈ tables_1, d.before a0 Z = true) (hA : ∀ d ∈ own_flat narrow_1, d.value a0 Z none Z [] = some true) : Fld Z Z.heap (w2_TCP Z) "com/example/pathfare/pathfare/alto/EndpointAddress$Type" "ipv4" "Z" (.int (1 : Int32)) := own_fld (ev_w2_TCP hw hA) (own_eqI (hA _ (List.mem_of_getElem? (i := 6) rfl)))
theorem fl3 {Z : State} {a0 : Array Value} (hw : ∀ d ∈ tables_1, d.before a0 Z = true) (hA : ∀ d ∈ own_flat narrow_1, d.value a0 Z none Z [] = some true) : Fld Z Z.heap (w3_IPV6 Z) "com/example/pathfare/pathfare/alto/EndpointAddress$Type" "ipv4" "Z" (.int (0 : Int32)) := own_fld (ev_w3_IPV6 hw hA) (own_eqI (hA _ (List.mem_of_getElem? (i := 7) rfl)))
theorem fl4 {Z : State} {a0 : Array Value} (hw : ∀ d ∈ tables_1, d.before a0 Z = true) (hA : ∀ d ∈ own_flat narrow_1, d.value a0 Z none Z [] = some true) : Fld Z Z.heap (w4_UDP6 Z) "com/example/pathfare/pathfare/alto/EndpointAddress$Type" "ipv4" "Z" (.int (0 : Int32)) := own_fld (ev_w4_UDP6 hw hA) (own_eqI (hA _ (List.mem_of_getElem? (i := 9) rfl)))
theorem fl5 {Z : State} {a0 : Array Value} (hw : ∀ d ∈ tables_1, d.before a0 Z = true) (hA : ∀ d ∈ own_flat narrow_1, d.value a0 Z none Z [] = some true) : Fld Z Z.heap (w5_UDP Z) "com/example/pathfare/pathfare/alto/EndpointAddress$Type" "ipv4" "Z" (.int (1 : Int32)) := own_fld (ev_w5_UDP hw hA) (own_eqI (hA _ (List.mem_of_getElem? (i := 11) rfl)))
theorem fl6 {Z : State} {a0 : Array Value} (hw : ∀ d ∈ tables_1, d.before a0 Z = true) (hA : ∀ d ∈ own_flat narrow_1, d.value a0 Z none Z [] = some true) : Fld Z Z.heap (w5_UDP Z) "java/lang/Enum" "ordinal" "I" (.int (4 : Int32)) := own_fld (ev_w5_UDP hw hA) (own_eqI (hA _ (List.mem_of_getElem? (i := 12) rfl)))
theorem fl7 {Z : State} {a0 : Array Value} (hw : ∀ d ∈ tables_1, d.before a0 Z = true) (hA : ∀ d ∈ own_flat narrow_1, d.value a0 Z none Z [] = some true) : Fld Z Z.heap (w0_IPV4 Z) "java/lang/Enum" "ordinal" "I" (.int (0 : Int32)) := own_fld (ev_w0_IPV4 hw hA) (own_eqI (hA _ (List.mem_of_getElem? (i := 13) rfl)))
theorem fl8 {Z : State} {a0 : Array Value} (hw : ∀ d ∈ tables_1, d.before a0 Z = true) (hA : ∀ d ∈ own_flat narrow_1, d.value a0 Z none Z [] = some true) : Fld Z Z.heap (w5_UDP Z) "com/example/pathfare/pathfare/alto/EndpointAddress$Type" "socket" "Z" (.int (1 : Int32)) := own_fld (ev_w5_UDP hw hA) (own_eqI (hA _ (List.mem_of_getElem? (i := 14) rfl)))
theorem fl9 {Z : State} {a0 : Array Value} (hw : ∀ d ∈ tables_1, d.before a0 Z = true) (hA : ∀ d ∈ own_flat narrow_1, d.value a0 Z none Z [] = some true) : Fld Z Z.heap (w0_IPV4 Z) "com/example/pathfare/pathfare/alto/EndpointAddress$Type" "socket" "Z" (.int (0 : Int32)) := own_fld (ev_w0_IPV4 hw hA) (own_eqI (hA _ (List.mem_of_getElem? (i := 15) rfl)))
theorem fl10 {Z : State} {a0 : Array Value} (hw : ∀ d ∈ tables_1, d.before a0 Z = true) (hA : ∀ d ∈ own_flat narrow_1, d.value a0 Z none Z [] = some true) : Fld Z Z.heap (w1_TCP6 Z) "java/lang/Enum" "ordinal" "I" (.int (3 : Int32)) := own_fld (ev_w1_TCP6 hw hA) (own_eqI (hA _ (List.mem_of_getElem? (i := 16) rfl)))
theorem fl11 {Z : State} {a0 : Array Value} (hw : ∀ d ∈ tables_1, d.before a0 Z = true) (hA : ∀ d ∈ own_flat narrow_1, d.value a0 Z none Z [] = some true) : Fld Z Z.heap (w3_IPV6 Z) "java/lang/Enum" "ordinal" "I" (.int (1 : Int32)) := own_fld (ev_w3_IPV6 hw hA) (own_eqI (hA _ (List.mem_of_getElem? (i := 17) rfl)))
theorem fl12 {Z : State} {a0 : Array Value} (hw : ∀ d ∈ tables_1, d.before a0 Z = true) (hA : ∀ d ∈ own_flat narrow_1, d.value a0 Z none Z [] = some true) : Fld Z Z.heap (w1_TCP6 Z) "com/example/pathfare/pathfare/alto/EndpointAddress$Type" "socket" "Z" (.int (1 : Int32)) := own_fld (ev_w1_TCP6 hw hA) (own_eqI (hA _ (List.mem_of_getElem? (i := 18) rfl)))
theorem fl13 {Z : State} {a0 : Array Value} (hw : ∀ d ∈ tables_1, d.before a0 Z = true) (hA : ∀ d ∈ own_flat narrow_1, d.value a0 Z none Z [] = some true) : Fld Z Z.heap (w3_IPV6 Z) "com/example/pathfare/pathfare/alto/EndpointAddress$Type" "socket" "Z" (.int (0 : Int32)) := own_fld (ev_w3_IPV6 hw hA) (own_eqI (hA _ (List.mem_of_getElem? (i := 19) rfl)))
theorem fl14 {Z : State} {a0 : Array Value} (hw : ∀ d ∈ tables_1, d.before a0 Z = true) (hA : ∀ d ∈ own_flat narrow_1, d.value a0 Z none Z [] = some true) : Fld Z Z.heap (w2_TCP Z) "java/lang/Enum" "ordinal" "I" (.int (2 : Int32)) := own_fld (ev_w2_TCP hw hA) (own_eqI (hA _ (List.mem_of_getElem? (i := 20) rfl)))
theorem fl15 {Z : State} {a0 : Array Value} (hw : ∀ d ∈ tables_1, d.before a0 Z = true) (hA : ∀ d ∈ own_flat narrow_1, d.value a0 Z none Z [] = some true) : Fld Z Z.heap (w4_UDP6 Z) "java/lang/Enum" "ordinal" "I" (.int (5 : Int32)) := own_fld (ev_w4_UDP6 hw hA) (own_eqI (hA _ (List.mem_of_getElem? (i := 21) rfl)))
theorem fl16 {Z : State} {a0 : Array Value} (hw : ∀ d ∈ tables_1, d.before a0 Z = true) (hA : ∀ d ∈ own_flat narrow_1, d.value a0 Z none Z [] = some true) : Fld Z Z.heap (w2_TCP Z) "com/example/pathfare/pathfare/alto/EndpointAddress$Type" "socket" "Z" (.int (1 : Int32)) := own_fld (ev_w2_TCP hw hA) (own_eqI (hA _ (List.mem_of_getElem? (i := 22) rfl)))
theorem fl17 {Z : State} {a0 : Array Value} (hw : ∀ d ∈ tables_1, d.before a0 Z = true) (hA : ∀ d ∈ own_flat narrow_1, d.value a0 Z none Z [] = some true) : Fld Z Z.heap (w4_UDP6 Z) "com/example/pathfare/pathfare/alto/EndpointAddress$Type" "socket" "Z" (.int (1 : Int32)) := own_fld (ev_w4_UDP6 hw hA) (own_eqI (hA _ (List.mem_of_getElem? (i := 23) rfl)))
theorem d1_0 : decode method_2_code 0 = .ok (.iload_n 0, 1) := by decide +kernel
theorem d1_1 : decode method_2_code 1 = .ok (.ifCond .ne 7, 3) := by decide +kernel
theorem d1_4 : decode method_2_code 4 = .ok (.getstatic 7, 3) := by decide +kernel
theorem d1_7 : decode method_2_code 7 = .ok (.areturn, 1) := by decide +kernel
theorem pn0 : plainName "com/example/pathfare/pathfare/alto/TypeIsCompatibleWithPinLaw" = true := by first | (simp [plainName, overriddenIn]; done) | decide +kernel
theorem pd1 : parseMethodDescriptor "(I)Lcom/example/pathfare/pathfare/alto/EndpointAddress$Type;" = some ⟨[.int], some (.object "com/example/pathfare/pathfare/alto/EndpointAddress$Type")⟩ := by decide +kernel
theorem d2_0 : decode prog_3_method_6_code 0 = .ok (.aload_n 0, 1) := by decide +kernel
theorem d2_1 : decode prog_3_method_6_code 1 = .ok (.getfield 45, 3) := by decide +kernel
theorem d2_4 : decode prog_3_method_6_code 4 = .ok (.aload_n 1, 1) := by decide +kernel
theorem d2_5 : decode prog_3_method_6_code 5 = .ok (.getfield 45, 3) := by decide +kernel
theorem d2_8 : decode prog_3_method_6_code 8 = .ok (.if_icmp .ne 26, 3) := by decide +kernel
theorem d2_11 : decode prog_3_method_6_code 11 = .ok (.aload_n 0, 1) := by decide +kernel
theorem d2_12 : decode prog_3_method_6_code 12 = .ok (.aload_n 1, 1) := by decide +kernel
theorem d2_13 : decode prog_3_method_6_code 13 = .ok (.if_acmp .eq 17, 3) := by decide +kernel
theorem d2_30 : decode prog_3_method_6_code 30 = .ok (.iconst 1, 1) := by decide +kernel
theorem d2_31 : decode prog_3_method_6_code 31 = .ok (.goto 4, 3) := by decide +kernel
theorem d2_35 : decode prog_3_method_6_code 35 = .ok (.ireturn, 1) := by decide +kernel
theorem pn2 : plainName "com/example/pathfare/pathfare/alto/EndpointAddress$Type" = true := by first | (simp [plainName, overriddenIn]; done) | decide +kernel
theorem pd3 : parseMethodDescriptor "(Lcom/example/pathfare/pathfare/alto/EndpointAddress$Type;)Z" = some ⟨[(.object "com/example/pathfare/pathfare/alto/EndpointAddress$Type")], some .boolean⟩ := by decide +kernel
theorem d3_0 : decode method_3_code 0 = .ok (.iload_n 0, 1) := by decide +kernel
theorem d3_1 : decode method_3_code 1 = .ok (.iload_n 1, 1) := by decide +kernel
theorem d3_2 : decode method_3_code 2 = .ok (.if_icmp .ne 5, 3) := by decide +kernel
theorem d3_5 : decode method_3_code 5 = .ok (.iconst 1, 1) := by decide +kernel
theorem d3_6 : decode method_3_code 6 = .ok (.ireturn, 1) := by decide +kernel
theorem pd4 : parseMethodDescriptor "(II)Z" = some ⟨[.int, .int], some .boolean⟩ := by decide +kernel
theorem d1_8 : decode method_2_code 8 = .ok (.iload_n 0, 1) := by decide +kernel
theorem d1_9 : decode method_2_code 9 = .ok (.iconst 1, 1) := by decide +kernel
theorem d1_10 : decode method_2_code 10 = .ok (.if_icmp .ne 7, 3) := by decide +kernel
theorem d1_13 : decode method_2_code 13 = .ok (.getstatic 13, 3) := by decide +kernel
theorem d1_16 : decode method_2_code 16 = .ok (.areturn, 1) := by decide +kernel
theorem d2_34 : decode prog_3_method_6_code 34 = .ok (.iconst 0, 1) := by decide +kernel
theorem d3_7 : decode method_3_code 7 = .ok (.iload_n 0, 1) := by decide +kernel
theorem d3_8 : decode method_3_code 8 = .ok (.iload_n 1, 1) := by decide +kernel
theorem d3_9 : decode method_3_code 9 = .ok (.invokestatic 28, 3) := by decide +kernel
theorem d4_0 : decode jdk_29_method_69_code 0 = .ok (.iload_n 0, 1) := by decide +kernel
theorem d4_1 : decode jdk_29_method_69_code 1 = .ok (.iload_n 1, 1) := by decide +kernel
theorem d4_2 : decode jdk_29_method_69_code 2 = .ok (.if_icmp .gt 7, 3) := by decide +kernel
theorem d4_5 : decode jdk_29_method_69_code 5 = .ok (.iload_n 0, 1) := by decide +kernel
theorem d4_6 : decode jdk_29_method_69_code 6 = .ok (.goto 4, 3) := by decide +kernel
theorem d4_10 : decode jdk_29_method_69_code 10 = .ok (.ireturn, 1) := by decide +kernel
theorem pd5 : parseMethodDescriptor "(II)I" = some ⟨[.int, .int], some .int⟩ := by decide +kernel
theorem d3_12 : decode method_3_code 12 = .ok (.istore_n 2, 1) := by decide +kernel
theorem d3_13 : decode method_3_code 13 = .ok (.iload_n 0, 1) := by decide +kernel
theorem d3_14 : decode method_3_code 14 = .ok (.iload_n 1, 1) := by decide +kernel
theorem d3_15 : decode method_3_code 15 = .ok (.invokestatic 34, 3) := by decide +kernel
theorem d5_0 : decode jdk_29_method_65_code 0 = .ok (.iload_n 0, 1) := by decide +kernel
theorem d5_1 : decode jdk_29_method_65_code 1 = .ok (.iload_n 1, 1) := by decide +kernel
theorem d5_2 : decode jdk_29_method_65_code 2 = .ok (.if_icmp .lt 7, 3) := by decide +kernel
theorem d5_9 : decode jdk_29_method_65_code 9 = .ok (.iload_n 1, 1) := by decide +kernel
theorem d5_10 : decode jdk_29_method_65_code 10 = .ok (.ireturn, 1) := by decide +kernel
theorem d3_18 : decode method_3_code 18 = .ok (.istore_n 3, 1) := by decide +kernel
theorem d3_19 : decode method_3_code 19 = .ok (.iload_n 2, 1) := by decide +kernel
theorem d3_20 : decode method_3_code 20 = .ok (.ifCond .ne 19, 3) := by decide +kernel
theorem d3_23 : decode method_3_code 23 = .ok (.iload_n 3, 1) := by decide +kernel
theorem d3_24 : decode method_3_code 24 = .ok (.iconst 2, 1) := by decide +kernel
theorem d3_25 : decode method_3_code 25 = .ok (.if_icmp .eq 8, 3) := by decide +kernel
theorem d3_28 : decode method_3_code 28 = .ok (.iload_n 3, 1) := by decide +kernel
theorem d3_29 : decode method_3_code 29 = .ok (.iconst 4, 1) := by decide +kernel
theorem d3_30 : decode method_3_code 30 = .ok (.if_icmp .ne 7, 3) := by decide +kernel
theorem d3_37 : decode method_3_code 37 = .ok (.iconst 0, 1) := by decide +kernel
theorem d3_38 : decode method_3_code 38 = .ok (.ireturn, 1) := by decide +kernel
theorem d1_17 : decode method_2_code 17 = .ok (.iload_n 0, 1) := by decide +kernel
theorem d1_18 : decode method_2_code 18 = .ok (.iconst 2, 1) := by decide +kernel
theorem d1_19 : decode method_2_code 19 = .ok (.if_icmp .ne 7, 3) := by decide +kernel
theorem d1_22 : decode method_2_code 22 = .ok (.getstatic 16, 3) := by decide +kernel
theorem d1_25 : decode method_2_code 25 = .ok (.areturn, 1) := by decide +kernel
theorem d2_16 : decode prog_3_method_6_code 16 = .ok (.aload_n 0, 1) := by decide +kernel
theorem d2_17 : decode prog_3_method_6_code 17 = .ok (.getfield 49, 3) := by decide +kernel
theorem d2_20 : decode prog_3_method_6_code 20 = .ok (.ifCond .eq 10, 3) := by decide +kernel
theorem d3_33 : decode method_3_code 33 = .ok (.iconst 1, 1) := by decide +kernel
theorem d3_34 : decode method_3_code 34 = .ok (.goto 4, 3) := by decide +kernel
theorem d1_26 : decode method_2_code 26 = .ok (.iload_n 0, 1) := by decide +kernel
theorem d1_27 : decode method_2_code 27 = .ok (.iconst 3, 1) := by decide +kernel
theorem d1_28 : decode method_2_code 28 = .ok (.if_icmp .ne 7, 3) := by decide +kernel
theorem d1_31 : decode method_2_code 31 = .ok (.getstatic 19, 3) := by decide +kernel
theorem d1_34 : decode method_2_code 34 = .ok (.areturn, 1) := by decide +kernel
theorem d1_35 : decode method_2_code 35 = .ok (.iload_n 0, 1) := by decide +kernel
theorem d1_36 : decode method_2_code 36 = .ok (.iconst 4, 1) := by decide +kernel
theorem d1_37 : decode method_2_code 37 = .ok (.if_icmp .ne 7, 3) := by decide +kernel
theorem d1_40 : decode method_2_code 40 = .ok (.getstatic 22, 3) := by decide +kernel
theorem d1_43 : decode method_2_code 43 = .ok (.areturn, 1) := by decide +kernel
theorem d1_44 : decode method_2_code 44 = .ok (.getstatic 25, 3) := by decide +kernel
theorem d1_47 : decode method_2_code 47 = .ok (.areturn, 1) := by decide +kernel
theorem d4_9 : decode jdk_29_method_69_code 9 = .ok (.iload_n 1, 1) := by decide +kernel
theorem d5_5 : decode jdk_29_method_65_code 5 = .ok (.iload_n 0, 1) := by decide +kernel
theorem d5_6 : decode jdk_29_method_65_code 6 = .ok (.goto 4, 3) := by decide +kernel
theorem d3_39 : decode method_3_code 39 = .ok (.iload_n 2, 1) := by decide +kernel
theorem d3_40 : decode method_3_code 40 = .ok (.iconst 1, 1) := by decide +kernel
theorem d3_41 : decode method_3_code 41 = .ok (.if_icmp .ne 19, 3) := by decide +kernel
theorem d3_44 : decode method_3_code 44 = .ok (.iload_n 3, 1) := by decide +kernel
theorem d3_45 : decode method_3_code 45 = .ok (.iconst 3, 1) := by decide +kernel
theorem d3_46 : decode method_3_code 46 = .ok (.if_icmp .eq 8, 3) := by decide +kernel
theorem d3_49 : decode method_3_code 49 = .ok (.iload_n 3, 1) := by decide +kernel
theorem d3_50 : decode method_3_code 50 = .ok (.iconst 5, 1) := by decide +kernel
theorem d3_51 : decode method_3_code 51 = .ok (.if_icmp .ne 7, 3) := by decide +kernel
theorem d3_58 : decode method_3_code 58 = .ok (.iconst 0, 1) := by decide +kernel
theorem d3_59 : decode method_3_code 59 = .ok (.ireturn, 1) := by decide +kernel
theorem d3_54 : decode method_3_code 54 = .ok (.iconst 1, 1) := by decide +kernel
theorem d3_55 : decode method_3_code 55 = .ok (.goto 4, 3) := by decide +kernel
theorem d2_23 : decode prog_3_method_6_code 23 = .ok (.aload_n 1, 1) := by decide +kernel
theorem d2_24 : decode prog_3_method_6_code 24 = .ok (.getfield 49, 3) := by decide +kernel
theorem d2_27 : decode prog_3_method_6_code 27 = .ok (.ifCond .ne 7, 3) := by decide +kernel
theorem d3_60 : decode method_3_code 60 = .ok (.iconst 0, 1) := by decide +kernel
theorem d3_61 : decode method_3_code 61 = .ok (.ireturn, 1) := by decide +kernel
set_option maxRecDepth 65536 in
set_option maxHeartbeats 40000000 in
theorem rm1_0 (l : Launch) (Z : State) (a0 : Array Value) (hw : ∀ d ∈ tables_1, d.before a0 Z = true) (hA : ∀ d ∈ own_flat narrow_1, d.value a0 Z none Z [] = some true) (ws : List Jvm.Cond) (h0 : Heap) (n0 : Nat) (O0 : Old Z n0 h0) :
    own_Met l Z (⟨"com/example/pathfare/pathfare/alto/TypeIsCompatibleWithPinLaw", "pick", "(I)Lcom/example/pathfare/pathfare/alto/EndpointAddress$Type;"⟩ : MethodName) (Jvm.Cond.code (⟨"com/example/pathfare/pathfare/alto/TypeIsCompatibleWithPinLaw", "pick", "(I)Lcom/example/pathfare/pathfare/alto/EndpointAddress$Type;"⟩ : MethodName) method_2_code 1 (some (.object "com/example/pathfare/pathfare/alto/EndpointAddress$Type"))) ws ({ frames := 0, cells := 0, slots := 0, locals := 0 } : Room) #[(.int (0 : Int32))] h0 (fun v h L => (v = some (.ref (w0_IPV4 Z)) ∧ Fr n0 L ∧ h = h0)) := by
  refine own_met (own := "com/example/pathfare/pathfare/alto/TypeIsCompatibleWithPinLaw") (plainFor_of_name pn0) rfl ?_
  intro p e s m below meth c s₁ hx hby hml hown hnm hret hlk hZ e0 X0
  refine own_cast (g' := (mkF m 0 #[.val (.int (0 : Int32))] [])) (by first | (simp [entryFrame, mkF, argsToLocals, Value.category]; done) | rfl) ?_
  refine own_step (fun _ k => XS.iloadN X0.here hx rfl (hb hby d1_0) rfl k) ?_
  show own_Wp p e below _ s₁ (mkF m 1 #[.val (.int (0 : Int32))] [(.int (0 : Int32))])
  refine own_step (fun _ k => XS.ifNo X0.here hx rfl (hb hby d1_1) rfl (by decide) k) ?_
  show own_Wp p e below _ s₁ (mkF m 4 #[.val (.int (0 : Int32))] [])
  obtain ⟨T1, X1, e1, st1⟩ := getS2 X0 hx hZ hown (host := "") (Or.inl (hw _ (List.mem_of_getElem? (i := 5) rfl))) Via.refl e0 ((st_w0_IPV4 hw hA).ext O0.2) (g := (mkF m 4 #[.val (.int (0 : Int32))] [])) rfl (hb hby d1_4)
  refine own_step st1 ?_
  show own_Wp p e below _ T1 (mkF m 7 #[.val (.int (0 : Int32))] [(.ref (w0_IPV4 Z))])
  exact own_retA X1 hx hret rfl rfl hlk (hb hby d1_7) (by decide) (by decide) (by rw [e1]; exact ⟨rfl, (Fr.nil n0), rfl⟩)

set_option maxRecDepth 65536 in
set_option maxHeartbeats 40000000 in
theorem rm2_1 (l : Launch) (Z : State) (a0 : Array Value) (hw : ∀ d ∈ tables_1, d.before a0 Z = true) (hA : ∀ d ∈ own_flat narrow_1, d.value a0 Z none Z [] = some true) (ws : List Jvm.Cond) (x1 : Addr) (h0 : Heap) (n0 : Nat) (O0 : Old Z n0 h0) (D0 : Fld Z Z.heap x1 "com/example/pathfare/pathfare/alto/EndpointAddress$Type" "ipv4" "Z" (.int (1 : Int32))) :
    own_Met l Z (⟨"com/example/pathfare/pathfare/alto/EndpointAddress$Type", "isCompatibleWith", "(Lcom/example/pathfare/pathfare/alto/EndpointAddress$Type;)Z"⟩ : MethodName) (Jvm.Cond.code (⟨"com/example/pathfare/pathfare/alto/EndpointAddress$Type", "isCompatibleWith", "(Lcom/example/pathfare/pathfare/alto/EndpointAddress$Type;)Z"⟩ : MethodName) prog_3_method_6_code 2 (some .boolean)) ws ({ frames := 0, cells := 0, slots := 0, locals := 0 } : Room) #[(.ref x1), (.ref x1)] h0 (fun v h L => (v = some (.int (1 : Int32)) ∧ Fr n0 L ∧ h = h0)) := by
  refine own_met (own := "com/example/pathfare/pathfare/alto/EndpointAddress$Type") (plainFor_of_name pn2) rfl ?_
  intro p e s m below meth c s₁ hx hby hml hown hnm hret hlk hZ e0 X0
  refine own_cast (g' := (mkF m 0 #[.val (.ref x1), .val (.ref x1)] [])) (by first | (simp [entryFrame, mkF, argsToLocals, Value.category]; done) | rfl) ?_
  refine own_step (fun _ k => XS.aloadN X0.here hx rfl (hb hby d2_0) rfl rfl k) ?_
  show own_Wp p e below _ s₁ (mkF m 1 #[.val (.ref x1), .val (.ref x1)] [(.ref x1)])
  obtain ⟨T1, X1, e1, st1⟩ := getF X0 hx hZ hown (host := "") (Or.inl (hw _ (List.mem_of_getElem? (i := 15) rfl))) Via.refl e0 (D0.ext O0.2) (g := (mkF m 1 #[.val (.ref x1), .val (.ref x1)] [(.ref x1)])) rfl rfl (hb hby d2_1)
  refine own_step st1 ?_
  show own_Wp p e below _ T1 (mkF m 4 #[.val (.ref x1), .val (.ref x1)] [(.int (1 : Int32))])
  refine own_step (fun _ k => XS.aloadN X1.here hx rfl (hb hby d2_4) rfl rfl k) ?_
  show own_Wp p e below _ T1 (mkF m 5 #[.val (.ref x1), .val (.ref x1)] [(.ref x1), (.int (1 : Int32))])
  obtain ⟨T2, X2, e2, st2⟩ := getF X1 hx hZ hown (host := "") (Or.inl (hw _ (List.mem_of_getElem? (i := 15) rfl))) Via.refl e1 (D0.ext O0.2) (g := (mkF m 5 #[.val (.ref x1), .val (.ref x1)] [(.ref x1), (.int (1 : Int32))])) rfl rfl (hb hby d2_5)
  refine own_step st2 ?_
  show own_Wp p e below _ T2 (mkF m 8 #[.val (.ref x1), .val (.ref x1)] [(.int (1 : Int32)), (.int (1 : Int32))])
  refine own_step (fun _ k => XS.icmpNo X2.here hx rfl (hb hby d2_8) rfl (by decide) k) ?_
  show own_Wp p e below _ T2 (mkF m 11 #[.val (.ref x1), .val (.ref x1)] [])
  refine own_step (fun _ k => XS.aloadN X2.here hx rfl (hb hby d2_11) rfl rfl k) ?_
  show own_Wp p e below _ T2 (mkF m 12 #[.val (.ref x1), .val (.ref x1)] [(.ref x1)])
  refine own_step (fun _ k => XS.aloadN X2.here hx rfl (hb hby d2_12) rfl rfl k) ?_
  show own_Wp p e below _ T2 (mkF m 13 #[.val (.ref x1), .val (.ref x1)] [(.ref x1), (.ref x1)])
  refine own_step (fun _ k => Jvm.RoadKit.acmp (g := (mkF m 13 #[.val (.ref x1), .val (.ref x1)] [(.ref x1), (.ref x1)])) X2 hx rfl rfl rfl (pc0 := 13) (pc' := 30) (same := true) rfl (hb hby d2_13) rfl (decide_eq_true rfl) (by decide) (by decide) k) ?_
  show own_Wp p e below _ T2 (mkF m 30 #[.val (.ref x1), .val (.ref x1)] [])
  refine own_step (fun _ k => XS.iconst X2.here hx rfl (hb hby d2_30) k) ?_
  show own_Wp p e below _ T2 (mkF m 31 #[.val (.ref x1), .val (.ref x1)] [(.int (1 : Int32))])
  refine own_step (fun _ k => XS.goto X2.here hx rfl (pc0 := 31) (pc' := 35) rfl (hb hby d2_31) (by decide) (by decide) k) ?_
  show own_Wp p e below _ T2 (mkF m 35 #[.val (.ref x1), .val (.ref x1)] [(.int (1 : Int32))])
  exact own_retN X2 hx (t := .boolean) hret (by simp) hlk (hb hby d2_35) (by decide) (by decide) (by rw [e2]; exact ⟨rfl, (Fr.nil n0), rfl⟩)

set_option maxRecDepth 65536 in
set_option maxHeartbeats 40000000 in
theorem rm3_2 (l : Launch) (Z : State) (a0 : Array Value) (hw : ∀ d ∈ tables_1, d.before a0 Z = true) (hA : ∀ d ∈ own_flat narrow_1, d.value a0 Z none Z [] = some true) (ws : List Jvm.Cond) (h0 : Heap) (n0 : Nat) (O0 : Old Z n0 h0) :
    own_Met l Z (⟨"com/example/pathfare/pathfare/alto/TypeIsCompatibleWithPinLaw", "expected", "(II)Z"⟩ : MethodName) (Jvm.Cond.code (⟨"com/example/pathfare/pathfare/alto/TypeIsCompatibleWithPinLaw", "expected", "(II)Z"⟩ : MethodName) method_3_code 4 (some .boolean)) ws ({ frames := 0, cells := 0, slots := 0, locals := 0 } : Room) #[(.int (0 : Int32)), (.int (0 : Int32))] h0 (fun v h L => (v = some (.int (1 : Int32)) ∧ Fr n0 L ∧ h = h0)) := by
  refine own_met (own := "com/example/pathfare/pathfare/alto/TypeIsCompatibleWithPinLaw") (plainFor_of_name pn0) rfl ?_
  intro p e s m below meth c s₁ hx hby hml hown hnm hret hlk hZ e0 X0
  refine own_cast (g' := (mkF m 0 #[.val (.int (0 : Int32)), .val (.int (0 : Int32)), .unset, .unset] [])) (by first | (simp [entryFrame, mkF, argsToLocals, Value.category]; done) | rfl) ?_
  refine own_step (fun _ k => XS.iloadN X0.here hx rfl (hb hby d3_0) rfl k) ?_
  show own_Wp p e below _ s₁ (mkF m 1 #[.val (.int (0 : Int32)), .val (.int (0 : Int32)), .unset, .unset] [(.int (0 : Int32))])
  refine own_step (fun _ k => XS.iloadN X0.here hx rfl (hb hby d3_1) rfl k) ?_
  show own_Wp p e below _ s₁ (mkF m 2 #[.val (.int (0 : Int32)), .val (.int (0 : Int32)), .unset, .unset] [(.int (0 : Int32)), (.int (0 : Int32))])
  refine own_step (fun _ k => XS.icmpNo X0.here hx rfl (hb hby d3_2) rfl (by decide) k) ?_
  show own_Wp p e below _ s₁ (mkF m 5 #[.val (.int (0 : Int32)), .val (.int (0 : Int32)), .unset, .unset] [])
  refine own_step (fun _ k => XS.iconst X0.here hx rfl (hb hby d3_5) k) ?_
  show own_Wp p e below _ s₁ (mkF m 6 #[.val (.int (0 : Int32)), .val (.int (0 : Int32)), .unset, .unset] [(.int (1 : Int32))])
  exact own_retN X0 hx (t := .boolean) hret (by simp) hlk (hb hby d3_6) (by decide) (by decide) (by rw [e0]; exact ⟨rfl, (Fr.nil n0), rfl⟩)

set_option maxRecDepth 65536 in
set_option maxHeartbeats 40000000 in
theorem rm1_3 (l : Launch) (Z : State) (a0 : Array Value) (hw : ∀ d ∈ tables_1, d.before a0 Z = true) (hA : ∀ d ∈ own_flat narrow_1, d.value a0 Z none Z [] = some true) (ws : List Jvm.Cond) (h0 : Heap) (n0 : Nat) (O0 : Old Z n0 h0) :
    own_Met l Z (⟨"com/example/pathfare/pathfare/alto/TypeIsCompatibleWithPinLaw", "pick", "(I)Lcom/example/pathfare/pathfare/alto/EndpointAddress$Type;"⟩ : MethodName) (Jvm.Cond.code (⟨"com/example/pathfare/pathfare/alto/TypeIsCompatibleWithPinLaw", "pick", "(I)Lcom/example/pathfare/pathfare/alto/EndpointAddress$Type;"⟩ : MethodName) method_2_code 1 (some (.object "com/example/pathfare/pathfare/alto/EndpointAddress$Type"))) ws ({ frames := 0, cells := 0, slots := 0, locals := 0 } : Room) #[(.int (1 : Int32))] h0 (fun v h L => (v = some (.ref (w3_IPV6 Z)) ∧ Fr n0 L ∧ h = h0)) := by
  refine own_met (own := "com/example/pathfare/pathfare/alto/TypeIsCompatibleWithPinLaw") (plainFor_of_name pn0) rfl ?_
  intro p e s m below meth c s₁ hx hby hml hown hnm hret hlk hZ e0 X0
  refine own_cast (g' := (mkF m 0 #[.val (.int (1 : Int32))] [])) (by first | (simp [entryFrame, mkF, argsToLocals, Value.category]; done) | rfl) ?_
  refine own_step (fun _ k => XS.iloadN X0.here hx rfl (hb hby d1_0) rfl k) ?_
  show own_Wp p e below _ s₁ (mkF m 1 #[.val (.int (1 : Int32))] [(.int (1 : Int32))])
  refine own_step (fun _ k => XS.ifYes X0.here hx rfl (pc0 := 1) (pc' := 8) rfl (hb hby d1_1) rfl (by decide) (by decide) (by decide) k) ?_
  show own_Wp p e below _ s₁ (mkF m 8 #[.val (.int (1 : Int32))] [])
  refine own_step (fun _ k => XS.iloadN X0.here hx rfl (hb hby d1_8) rfl k) ?_
  show own_Wp p e below _ s₁ (mkF m 9 #[.val (.int (1 : Int32))] [(.int (1 : Int32))])
  refine own_step (fun _ k => XS.iconst X0.here hx rfl (hb hby d1_9) k) ?_
  show own_Wp p e below _ s₁ (mkF m 10 #[.val (.int (1 : Int32))] [(.int (1 : Int32)), (.int (1 : Int32))])
  refine own_step (fun _ k => XS.icmpNo X0.here hx rfl (hb hby d1_10) rfl (by decide) k) ?_
  show own_Wp p e below _ s₁ (mkF m 13 #[.val (.int (1 : Int32))] [])
  obtain ⟨T1, X1, e1, st1⟩ := getS2 X0 hx hZ hown (host := "") (Or.inl (hw _ (List.mem_of_getElem? (i := 29) rfl))) Via.refl e0 ((st_w3_IPV6 hw hA).ext O0.2) (g := (mkF m 13 #[.val (.int (1 : Int32))] [])) rfl (hb hby d1_13)
  refine own_step st1 ?_
  show own_Wp p e below _ T1 (mkF m 16 #[.val (.int (1 : Int32))] [(.ref (w3_IPV6 Z))])
  exact own_retA X1 hx hret rfl rfl hlk (hb hby d1_16) (by decide) (by decide) (by rw [e1]; exact ⟨rfl, (Fr.nil n0), rfl⟩)

set_option maxRecDepth 65536 in
set_option maxHeartbeats 40000000 in
theorem rm2_4 (l : Launch) (Z : State) (a0 : Array Value) (hw : ∀ d ∈ tables_1, d.before a0 Z = true) (hA : ∀ d ∈ own_flat narrow_1, d.value a0 Z none Z [] = some true) (ws : List Jvm.Cond) (x1 : Addr) (x2 : Addr) (h0 : Heap) (n0 : Nat) (O0 : Old Z n0 h0) (D0 : Fld Z Z.heap x1 "com/example/pathfare/pathfare/alto/EndpointAddress$Type" "ipv4" "Z" (.int (1 : Int32))) (D1 : Fld Z Z.heap x2 "com/example/pathfare/pathfare/alto/EndpointAddress$Type" "ipv4" "Z" (.int (0 : Int32))) :
    own_Met l Z (⟨"com/example/pathfare/pathfare/alto/EndpointAddress$Type", "isCompatibleWith", "(Lcom/example/pathfare/pathfare/alto/EndpointAddress$Type;)Z"⟩ : MethodName) (Jvm.Cond.code (⟨"com/example/pathfare/pathfare/alto/EndpointAddress$Type", "isCompatibleWith", "(Lcom/example/pathfare/pathfare/alto/EndpointAddress$Type;)Z"⟩ : MethodName) prog_3_method_6_code 2 (some .boolean)) ws ({ frames := 0, cells := 0, slots := 0, locals := 0 } : Room) #[(.ref x1), (.ref x2)] h0 (fun v h L => (v = some (.int (0 : Int32)) ∧ Fr n0 L ∧ h = h0)) := by
  refine own_met (own := "com/example/pathfare/pathfare/alto/EndpointAddress$Type") (plainFor_of_name pn2) rfl ?_
  intro p e s m below meth c s₁ hx hby hml hown hnm hret hlk hZ e0 X0
  refine own_cast (g' := (mkF m 0 #[.val (.ref x1), .val (.ref x2)] [])) (by first | (simp [entryFrame, mkF, argsToLocals, Value.category]; done) | rfl) ?_
  refine own_step (fun _ k => XS.aloadN X0.here hx rfl (hb hby d2_0) rfl rfl k) ?_
  show own_Wp p e below _ s₁ (mkF m 1 #[.val (.ref x1), .val (.ref x2)] [(.ref x1)])
  obtain ⟨T1, X1, e1, st1⟩ := getF X0 hx hZ hown (host := "") (Or.inl (hw _ (List.mem_of_getElem? (i := 15) rfl))) Via.refl e0 (D0.ext O0.2) (g := (mkF m 1 #[.val (.ref x1), .val (.ref x2)] [(.ref x1)])) rfl rfl (hb hby d2_1)
  refine own_step st1 ?_
  show own_Wp p e below _ T1 (mkF m 4 #[.val (.ref x1), .val (.ref x2)] [(.int (1 : Int32))])
  refine own_step (fun _ k => XS.aloadN X1.here hx rfl (hb hby d2_4) rfl rfl k) ?_
  show own_Wp p e below _ T1 (mkF m 5 #[.val (.ref x1), .val (.ref x2)] [(.ref x2), (.int (1 : Int32))])
  obtain ⟨T2, X2, e2, st2⟩ := getF X1 hx hZ hown (host := "") (Or.inl (hw _ (List.mem_of_getElem? (i := 15) rfl))) Via.refl e1 (D1.ext O0.2) (g := (mkF m 5 #[.val (.ref x1), .val (.ref x2)] [(.ref x2), (.int (1 : Int32))])) rfl rfl (hb hby d2_5)
  refine own_step st2 ?_
  show own_Wp p e below _ T2 (mkF m 8 #[.val (.ref x1), .val (.ref x2)] [(.int (0 : Int32)), (.int (1 : Int32))])
  refine own_step (fun _ k => XS.icmpYes X2.here hx rfl (pc0 := 8) (pc' := 34) rfl (hb hby d2_8) rfl (by decide) (by decide) (by decide) k) ?_
  show own_Wp p e below _ T2 (mkF m 34 #[.val (.ref x1), .val (.ref x2)] [])
  refine own_step (fun _ k => XS.iconst X2.here hx rfl (hb hby d2_34) k) ?_
  show own_Wp p e below _ T2 (mkF m 35 #[.val (.ref x1), .val (.ref x2)] [(.int (0 : Int32))])
  exact own_retN X2 hx (t := .boolean) hret (by simp) hlk (hb hby d2_35) (by decide) (by decide) (by rw [e2]; exact ⟨rfl, (Fr.nil n0), rfl⟩)

set_option maxRecDepth 65536 in
set_option maxHeartbeats 40000000 in
theorem rm4_5 (l : Launch) (Z : State) (a0 : Array Value) (hw : ∀ d ∈ tables_1, d.before a0 Z = true) (hA : ∀ d ∈ own_flat narrow_1, d.value a0 Z none Z [] = some true) (ws : List Jvm.Cond) (h0 : Heap) (n0 : Nat) (O0 : Old Z n0 h0) :
    own_Met l Z (⟨"java/lang/Math", "min", "(II)I"⟩ : MethodName) (Jvm.Cond.code (⟨"java/lang/Math", "min", "(II)I"⟩ : MethodName) jdk_29_method_69_code 2 (some .int)) ws ({ frames := 0, cells := 0, slots := 0, locals := 0 } : Room) #[(.int (0 : Int32)), (.int (1 : Int32))] h0 (fun v h L => (v = some (.int (0 : Int32)) ∧ Fr n0 L ∧ h = h0)) := by
  refine own_met (own := "java/lang/Math") (Jvm.Free.JP.mathPlain rfl (by decide +kernel)) rfl ?_
  intro p e s m below meth c s₁ hx hby hml hown hnm hret hlk hZ e0 X0
  refine own_cast (g' := (mkF m 0 #[.val (.int (0 : Int32)), .val (.int (1 : Int32))] [])) (by first | (simp [entryFrame, mkF, argsToLocals, Value.category]; done) | rfl) ?_
  refine own_step (fun _ k => XS.iloadN X0.here hx rfl (hb hby d4_0) rfl k) ?_
  show own_Wp p e below _ s₁ (mkF m 1 #[.val (.int (0 : Int32)), .val (.int (1 : Int32))] [(.int (0 : Int32))])
  refine own_step (fun _ k => XS.iloadN X0.here hx rfl (hb hby d4_1) rfl k) ?_
  show own_Wp p e below _ s₁ (mkF m 2 #[.val (.int (0 : Int32)), .val (.int (1 : Int32))] [(.int (1 : Int32)), (.int (0 : Int32))])
  refine own_step (fun _ k => XS.icmpNo X0.here hx rfl (hb hby d4_2) rfl (by decide) k) ?_
  show own_Wp p e below _ s₁ (mkF m 5 #[.val (.int (0 : Int32)), .val (.int (1 : Int32))] [])
  refine own_step (fun _ k => XS.iloadN X0.here hx rfl (hb hby d4_5) rfl k) ?_
  show own_Wp p e below _ s₁ (mkF m 6 #[.val (.int (0 : Int32)), .val (.int (1 : Int32))] [(.int (0 : Int32))])
  refine own_step (fun _ k => XS.goto X0.here hx rfl (pc0 := 6) (pc' := 10) rfl (hb hby d4_6) (by decide) (by decide) k) ?_
  show own_Wp p e below _ s₁ (mkF m 10 #[.val (.int (0 : Int32)), .val (.int (1 : Int32))] [(.int (0 : Int32))])
  exact own_retI X0 hx hret hlk (hb hby d4_10) (by decide) (by decide) (by rw [e0]; exact ⟨rfl, (Fr.nil n0), rfl⟩)

set_option maxRecDepth 65536 in
set_option maxHeartbeats 40000000 in
theorem rm5_6 (l : Launch) (Z : State) (a0 : Array Value) (hw : ∀ d ∈ tables_1, d.before a0 Z = true) (hA : ∀ d ∈ own_flat narrow_1, d.value a0 Z none Z [] = some true) (ws : List Jvm.Cond) (h0 : Heap) (n0 : Nat) (O0 : Old Z n0 h0) :
    own_Met l Z (⟨"java/lang/Math", "max", "(II)I"⟩ : MethodName) (Jvm.Cond.code (⟨"java/lang/Math", "max", "(II)I"⟩ : MethodName) jdk_29_method_65_code 2 (some .int)) ws ({ frames := 0, cells := 0, slots := 0, locals := 0 } : Room) #[(.int (0 : Int32)), (.int (1 : Int32))] h0 (fun v h L => (v = some (.int (1 : Int32)) ∧ Fr n0 L ∧ h = h0)) := by
  refine own_met (own := "java/lang/Math") (Jvm.Free.JP.mathPlain rfl (by decide +kernel)) rfl ?_
  intro p e s m below meth c s₁ hx hby hml hown hnm hret hlk hZ e0 X0
  refine own_cast (g' := (mkF m 0 #[.val (.int (0 : Int32)), .val (.int (1 : Int32))] [])) (by first | (simp [entryFrame, mkF, argsToLocals, Value.category]; done) | rfl) ?_
  refine own_step (fun _ k => XS.iloadN X0.here hx rfl (hb hby d5_0) rfl k) ?_
  show own_Wp p e below _ s₁ (mkF m 1 #[.val (.int (0 : Int32)), .val (.int (1 : Int32))] [(.int (0 : Int32))])
  refine own_step (fun _ k => XS.iloadN X0.here hx rfl (hb hby d5_1) rfl k) ?_
  show own_Wp p e below _ s₁ (mkF m 2 #[.val (.int (0 : Int32)), .val (.int (1 : Int32))] [(.int (1 : Int32)), (.int (0 : Int32))])
  refine own_step (fun _ k => XS.icmpYes X0.here hx rfl (pc0 := 2) (pc' := 9) rfl (hb hby d5_2) rfl (by decide) (by decide) (by decide) k) ?_
  show own_Wp p e below _ s₁ (mkF m 9 #[.val (.int (0 : Int32)), .val (.int (1 : Int32))] [])
  refine own_step (fun _ k => XS.iloadN X0.here hx rfl (hb hby d5_9) rfl k) ?_
  show own_Wp p e below _ s₁ (mkF m 10 #[.val (.int (0 : Int32)), .val (.int (1 : Int32))] [(.int (1 : Int32))])
  exact own_retI X0 hx hret hlk (hb hby d5_10) (by decide) (by decide) (by rw [e0]; exact ⟨rfl, (Fr.nil n0), rfl⟩)

set_option maxRecDepth 65536 in
set_option maxHeartbeats 40000000 in
theorem rm3_7 (l : Launch) (Z : State) (a0 : Array Value) (hw : ∀ d ∈ tables_1, d.before a0 Z = true) (hA : ∀ d ∈ own_flat narrow_1, d.value a0 Z none Z [] = some true) (ws : List Jvm.Cond) (h0 : Heap) (n0 : Nat) (O0 : Old Z n0 h0) :
    own_Met l Z (⟨"com/example/pathfare/pathfare/alto/TypeIsCompatibleWithPinLaw", "expected", "(II)Z"⟩ : MethodName) (Jvm.Cond.code (⟨"com/example/pathfare/pathfare/alto/TypeIsCompatibleWithPinLaw", "expected", "(II)Z"⟩ : MethodName) method_3_code 4 (some .boolean)) ws ({ frames := 1, cells := 0, slots := 0, locals := 13 } : Room) #[(.int (0 : Int32)), (.int (1 : Int32))] h0 (fun v h L => (v = some (.int (0 : Int32)) ∧ Fr n0 L ∧ h = h0)) := by
  refine own_met (own := "com/example/pathfare/pathfare/alto/TypeIsCompatibleWithPinLaw") (plainFor_of_name pn0) rfl ?_
  intro p e s m below meth c s₁ hx hby hml hown hnm hret hlk hZ e0 X0
  refine own_cast (g' := (mkF m 0 #[.val (.int (0 : Int32)), .val (.int (1 : Int32)), .unset, .unset] [])) (by first | (simp [entryFrame, mkF, argsToLocals, Value.category]; done) | rfl) ?_
  refine own_step (fun _ k => XS.iloadN X0.here hx rfl (hb hby d3_0) rfl k) ?_
  show own_Wp p e below _ s₁ (mkF m 1 #[.val (.int (0 : Int32)), .val (.int (1 : Int32)), .unset, .unset] [(.int (0 : Int32))])
  refine own_step (fun _ k => XS.iloadN X0.here hx rfl (hb hby d3_1) rfl k) ?_
  show own_Wp p e below _ s₁ (mkF m 2 #[.val (.int (0 : Int32)), .val (.int (1 : Int32)), .unset, .unset] [(.int (1 : Int32)), (.int (0 : Int32))])
  refine own_step (fun _ k => XS.icmpYes X0.here hx rfl (pc0 := 2) (pc' := 7) rfl (hb hby d3_2) rfl (by decide) (by decide) (by decide) k) ?_
  show own_Wp p e below _ s₁ (mkF m 7 #[.val (.int (0 : Int32)), .val (.int (1 : Int32)), .unset, .unset] [])
  refine own_step (fun _ k => XS.iloadN X0.here hx rfl (hb hby d3_7) rfl k) ?_
  show own_Wp p e below _ s₁ (mkF m 8 #[.val (.int (0 : Int32)), .val (.int (1 : Int32)), .unset, .unset] [(.int (0 : Int32))])
  refine own_step (fun _ k => XS.iloadN X0.here hx rfl (hb hby d3_8) rfl k) ?_
  show own_Wp p e below _ s₁ (mkF m 9 #[.val (.int (0 : Int32)), .val (.int (1 : Int32)), .unset, .unset] [(.int (1 : Int32)), (.int (0 : Int32))])
  obtain ⟨_, T1, L1, X1, hQ1, st1⟩ := own_callS X0 hx hZ hown (hw _ (List.mem_of_getElem? (i := 20) rfl)) (hw _ (List.mem_of_getElem? (i := 21) rfl)) (hw _ (List.mem_of_getElem? (i := 22) rfl)) (hw _ (List.mem_of_getElem? (i := 23) rfl)) (by decide) (rm4_5 l Z a0 hw hA [] h0 n0 O0) (W := 0) (by decide) (by decide) [(.int (0 : Int32)), (.int (1 : Int32))] rfl (lenOf pd5 rfl) (Ls := #[.val (.int (0 : Int32)), .val (.int (1 : Int32)), .unset, .unset]) (by rw [hml]; rfl) (rest := []) (Nat.le_of_eq rfl) (hb hby d3_9) e0 (by decide) (by decide)
  refine st1 _ ?_
  obtain ⟨rfl, N1q, e1⟩ := hQ1
  have N1 := Fr.app (Fr.nil n0) N1q
  show own_Wp p e below _ T1 (mkF m 12 #[.val (.int (0 : Int32)), .val (.int (1 : Int32)), .unset, .unset] [(.int (0 : Int32))])
  refine own_step (fun _ k => XS.istoreN X1.here hx rfl (hb hby d3_12) rfl (l' := #[.val (.int (0 : Int32)), .val (.int (1 : Int32)), .val (.int (0 : Int32)), .unset]) rfl k) ?_
  show own_Wp p e below _ T1 (mkF m 13 #[.val (.int (0 : Int32)), .val (.int (1 : Int32)), .val (.int (0 : Int32)), .unset] [])
  refine own_step (fun _ k => XS.iloadN X1.here hx rfl (hb hby d3_13) rfl k) ?_
  show own_Wp p e below _ T1 (mkF m 14 #[.val (.int (0 : Int32)), .val (.int (1 : Int32)), .val (.int (0 : Int32)), .unset] [(.int (0 : Int32))])
  refine own_step (fun _ k => XS.iloadN X1.here hx rfl (hb hby d3_14) rfl k) ?_
  show own_Wp p e below _ T1 (mkF m 15 #[.val (.int (0 : Int32)), .val (.int (1 : Int32)), .val (.int (0 : Int32)), .unset] [(.int (1 : Int32)), (.int (0 : Int32))])
  obtain ⟨_, T2, L2, X2, hQ2, st2⟩ := own_callS X1 hx hZ hown (hw _ (List.mem_of_getElem? (i := 24) rfl)) (hw _ (List.mem_of_getElem? (i := 25) rfl)) (hw _ (List.mem_of_getElem? (i := 22) rfl)) (hw _ (List.mem_of_getElem? (i := 26) rfl)) (by decide) (rm5_6 l Z a0 hw hA [] h0 n0 O0) (W := 0) (by decide) (by decide) [(.int (0 : Int32)), (.int (1 : Int32))] rfl (lenOf pd5 rfl) (Ls := #[.val (.int (0 : Int32)), .val (.int (1 : Int32)), .val (.int (0 : Int32)), .unset]) (by rw [hml]; rfl) (rest := []) (Nat.le_of_eq rfl) (hb hby d3_15) e1 (by decide) (by decide)
  refine st2 _ ?_
  obtain ⟨rfl, N2q, e2⟩ := hQ2
  have N2 := Fr.app N1 N2q
  show own_Wp p e below _ T2 (mkF m 18 #[.val (.int (0 : Int32)), .val (.int (1 : Int32)), .val (.int (0 : Int32)), .unset] [(.int (1 : Int32))])
  refine own_step (fun _ k => XS.istoreN X2.here hx rfl (hb hby d3_18) rfl (l' := #[.val (.int (0 : Int32)), .val (.int (1 : Int32)), .val (.int (0 : Int32)), .val (.int (1 : Int32))]) rfl k) ?_
  show own_Wp p e below _ T2 (mkF m 19 #[.val (.int (0 : Int32)), .val (.int (1 : Int32)), .val (.int (0 : Int32)), .val (.int (1 : Int32))] [])
  refine own_step (fun _ k => XS.iloadN X2.here hx rfl (hb hby d3_19) rfl k) ?_
  show own_Wp p e below _ T2 (mkF m 20 #[.val (.int (0 : Int32)), .val (.int (1 : Int32)), .val (.int (0 : Int32)), .val (.int (1 : Int32))] [(.int (0 : Int32))])
  refine own_step (fun _ k => XS.ifNo X2.here hx rfl (hb hby d3_20) rfl (by decide) k) ?_
  show own_Wp p e below _ T2 (mkF m 23 #[.val (.int (0 : Int32)), .val (.int (1 : Int32)), .val (.int (0 : Int32)), .val (.int (1 : Int32))] [])
  refine own_step (fun _ k => XS.iloadN X2.here hx rfl (hb hby d3_23) rfl k) ?_
  show own_Wp p e below _ T2 (mkF m 24 #[.val (.int (0 : Int32)), .val (.int (1 : Int32)), .val (.int (0 : Int32)), .val (.int (1 : Int32))] [(.int (1 : Int32))])
  refine own_step (fun _ k => XS.iconst X2.here hx rfl (hb hby d3_24) k) ?_
  show own_Wp p e below _ T2 (mkF m 25 #[.val (.int (0 : Int32)), .val (.int (1 : Int32)), .val (.int (0 : Int32)), .val (.int (1 : Int32))] [(.int (2 : Int32)), (.int (1 : Int32))])
  refine own_step (fun _ k => XS.icmpNo X2.here hx rfl (hb hby d3_25) rfl (by decide) k) ?_
  show own_Wp p e below _ T2 (mkF m 28 #[.val (.int (0 : Int32)), .val (.int (1 : Int32)), .val (.int (0 : Int32)), .val (.int (1 : Int32))] [])
  refine own_step (fun _ k => XS.iloadN X2.here hx rfl (hb hby d3_28) rfl k) ?_
  show own_Wp p e below _ T2 (mkF m 29 #[.val (.int (0 : Int32)), .val (.int (1 : Int32)), .val (.int (0 : Int32)), .val (.int (1 : Int32))] [(.int (1 : Int32))])
  refine own_step (fun _ k => XS.iconst X2.here hx rfl (hb hby d3_29) k) ?_
  show own_Wp p e below _ T2 (mkF m 30 #[.val (.int (0 : Int32)), .val (.int (1 : Int32)), .val (.int (0 : Int32)), .val (.int (1 : Int32))] [(.int (4 : Int32)), (.int (1 : Int32))])
  refine own_step (fun _ k => XS.icmpYes X2.here hx rfl (pc0 := 30) (pc' := 37) rfl (hb hby d3_30) rfl (by decide) (by decide) (by decide) k) ?_
  show own_Wp p e below _ T2 (mkF m 37 #[.val (.int (0 : Int32)), .val (.int (1 : Int32)), .val (.int (0 : Int32)), .val (.int (1 : Int32))] [])
  refine own_step (fun _ k => XS.iconst X2.here hx rfl (hb hby d3_37) k) ?_
  show own_Wp p e below _ T2 (mkF m 38 #[.val (.int (0 : Int32)), .val (.int (1 : Int32)), .val (.int (0 : Int32)), .val (.int (1 : Int32))] [(.int (0 : Int32))])
  exact own_retN X2 hx (t := .boolean) hret (by simp) hlk (hb hby d3_38) (by decide) (by decide) (by rw [e2]; exact ⟨rfl, N2, rfl⟩)

set_option maxRecDepth 65536 in
set_option maxHeartbeats 40000000 in
theorem rm1_8 (l : Launch) (Z : State) (a0 : Array Value) (hw : ∀ d ∈ tables_1, d.before a0 Z = true) (hA : ∀ d ∈ own_flat narrow_1, d.value a0 Z none Z [] = some true) (ws : List Jvm.Cond) (h0 : Heap) (n0 : Nat) (O0 : Old Z n0 h0) :
    own_Met l Z (⟨"com/example/pathfare/pathfare/alto/TypeIsCompatibleWithPinLaw", "pick", "(I)Lcom/example/pathfare/pathfare/alto/EndpointAddress$Type;"⟩ : MethodName) (Jvm.Cond.code (⟨"com/example/pathfare/pathfare/alto/TypeIsCompatibleWithPinLaw", "pick", "(I)Lcom/example/pathfare/pathfare/alto/EndpointAddress$Type;"⟩ : MethodName) method_2_code 1 (some (.object "com/example/pathfare/pathfare/alto/EndpointAddress$Type"))) ws ({ frames := 0, cells := 0, slots := 0, locals := 0 } : Room) #[(.int (2 : Int32))] h0 (fun v h L => (v = some (.ref (w2_TCP Z)) ∧ Fr n0 L ∧ h = h0)) := by
  refine own_met (own := "com/example/pathfare/pathfare/alto/TypeIsCompatibleWithPinLaw") (plainFor_of_name pn0) rfl ?_
  intro p e s m below meth c s₁ hx hby hml hown hnm hret hlk hZ e0 X0
  refine own_cast (g' := (mkF m 0 #[.val (.int (2 : Int32))] [])) (by first | (simp [entryFrame, mkF, argsToLocals, Value.category]; done) | rfl) ?_
  refine own_step (fun _ k => XS.iloadN X0.here hx rfl (hb hby d1_0) rfl k) ?_
  show own_Wp p e below _ s₁ (mkF m 1 #[.val (.int (2 : Int32))] [(.int (2 : Int32))])
  refine own_step (fun _ k => XS.ifYes X0.here hx rfl (pc0 := 1) (pc' := 8) rfl (hb hby d1_1) rfl (by decide) (by decide) (by decide) k) ?_
  show own_Wp p e below _ s₁ (mkF m 8 #[.val (.int (2 : Int32))] [])
  refine own_step (fun _ k => XS.iloadN X0.here hx rfl (hb hby d1_8) rfl k) ?_
  show own_Wp p e below _ s₁ (mkF m 9 #[.val (.int (2 : Int32))] [(.int (2 : Int32))])
  refine own_step (fun _ k => XS.iconst X0.here hx rfl (hb hby d1_9) k) ?_
  show own_Wp p e below _ s₁ (mkF m 10 #[.val (.int (2 : Int32))] [(.int (1 : Int32)), (.int (2 : Int32))])
  refine own_step (fun _ k => XS.icmpYes X0.here hx rfl (pc0 := 10) (pc' := 17) rfl (hb hby d1_10) rfl (by decide) (by decide) (by decide) k) ?_
  show own_Wp p e below _ s₁ (mkF m 17 #[.val (.int (2 : Int32))] [])
  refine own_step (fun _ k => XS.iloadN X0.here hx rfl (hb hby d1_17) rfl k) ?_
  show own_Wp p e below _ s₁ (mkF m 18 #[.val (.int (2 : Int32))] [(.int (2 : Int32))])
  refine own_step (fun _ k => XS.iconst X0.here hx rfl (hb hby d1_18) k) ?_
  show own_Wp p e below _ s₁ (mkF m 19 #[.val (.int (2 : Int32))] [(.int (2 : Int32)), (.int (2 : Int32))])
  refine own_step (fun _ k => XS.icmpNo X0.here hx rfl (hb hby d1_19) rfl (by decide) k) ?_
  show own_Wp p e below _ s₁ (mkF m 22 #[.val (.int (2 : Int32))] [])
  obtain ⟨T1, X1, e1, st1⟩ := getS2 X0 hx hZ hown (host := "") (Or.inl (hw _ (List.mem_of_getElem? (i := 27) rfl))) Via.refl e0 ((st_w2_TCP hw hA).ext O0.2) (g := (mkF m 22 #[.val (.int (2 : Int32))] [])) rfl (hb hby d1_22)
  refine own_step st1 ?_
  show own_Wp p e below _ T1 (mkF m 25 #[.val (.int (2 : Int32))] [(.ref (w2_TCP Z))])
  exact own_retA X1 hx hret rfl rfl hlk (hb hby d1_25) (by decide) (by decide) (by rw [e1]; exact ⟨rfl, (Fr.nil n0), rfl⟩)

set_option maxRecDepth 65536 in
set_option maxHeartbeats 40000000 in
theorem rm2_9 (l : Launch) (Z : State) (a0 : Array Value) (hw : ∀ d ∈ tables_1, d.before a0 Z = true) (hA : ∀ d ∈ own_flat narrow_1, d.value a0 Z none Z [] = some true) (ws : List Jvm.Cond) (x1 : Addr) (x2 : Addr) (h0 : Heap) (n0 : Nat) (O0 : Old Z n0 h0) (D0 : Fld Z Z.heap x1 "com/example/pathfare/pathfare/alto/EndpointAddress$Type" "ipv4" "Z" (.int (1 : Int32))) (D1 : Fld Z Z.heap x2 "com/example/pathfare/pathfare/alto/EndpointAddress$Type" "ipv4" "Z" (.int (1 : Int32))) (D2 : x1 ≠ x2) (D3 : Fld Z Z.heap x1 "com/example/pathfare/pathfare/alto/EndpointAddress$Type" "socket" "Z" (.int (0 : Int32))) :
    own_Met l Z (⟨"com/example/pathfare/pathfare/alto/EndpointAddress$Type", "isCompatibleWith", "(Lcom/example/pathfare/pathfare/alto/EndpointAddress$Type;)Z"⟩ : MethodName) (Jvm.Cond.code (⟨"com/example/pathfare/pathfare/alto/EndpointAddress$Type", "isCompatibleWith", "(Lcom/example/pathfare/pathfare/alto/EndpointAddress$Type;)Z"⟩ : MethodName) prog_3_method_6_code 2 (some .boolean)) ws ({ frames := 0, cells := 0, slots := 0, locals := 0 } : Room) #[(.ref x1), (.ref x2)] h0 (fun v h L => (v = some (.int (1 : Int32)) ∧ Fr n0 L ∧ h = h0)) := by
  refine own_met (own := "com/example/pathfare/pathfare/alto/EndpointAddress$Type") (plainFor_of_name pn2) rfl ?_
  intro p e s m below meth c s₁ hx hby hml hown hnm hret hlk hZ e0 X0
  refine own_cast (g' := (mkF m 0 #[.val (.ref x1), .val (.ref x2)] [])) (by first | (simp [entryFrame, mkF, argsToLocals, Value.category]; done) | rfl) ?_
  refine own_step (fun _ k => XS.aloadN X0.here hx rfl (hb hby d2_0) rfl rfl k) ?_
  show own_Wp p e below _ s₁ (mkF m 1 #[.val (.ref x1), .val (.ref x2)] [(.ref x1)])
  obtain ⟨T1, X1, e1, st1⟩ := getF X0 hx hZ hown (host := "") (Or.inl (hw _ (List.mem_of_getElem? (i := 15) rfl))) Via.refl e0 (D0.ext O0.2) (g := (mkF m 1 #[.val (.ref x1), .val (.ref x2)] [(.ref x1)])) rfl rfl (hb hby d2_1)
  refine own_step st1 ?_
  show own_Wp p e below _ T1 (mkF m 4 #[.val (.ref x1), .val (.ref x2)] [(.int (1 : Int32))])
  refine own_step (fun _ k => XS.aloadN X1.here hx rfl (hb hby d2_4) rfl rfl k) ?_
  show own_Wp p e below _ T1 (mkF m 5 #[.val (.ref x1), .val (.ref x2)] [(.ref x2), (.int (1 : Int32))])
  obtain ⟨T2, X2, e2, st2⟩ := getF X1 hx hZ hown (host := "") (Or.inl (hw _ (List.mem_of_getElem? (i := 15) rfl))) Via.refl e1 (D1.ext O0.2) (g := (mkF m 5 #[.val (.ref x1), .val (.ref x2)] [(.ref x2), (.int (1 : Int32))])) rfl rfl (hb hby d2_5)
  refine own_step st2 ?_
  show own_Wp p e below _ T2 (mkF m 8 #[.val (.ref x1), .val (.ref x2)] [(.int (1 : Int32)), (.int (1 : Int32))])
  refine own_step (fun _ k => XS.icmpNo X2.here hx rfl (hb hby d2_8) rfl (by decide) k) ?_
  show own_Wp p e below _ T2 (mkF m 11 #[.val (.ref x1), .val (.ref x2)] [])
  refine own_step (fun _ k => XS.aloadN X2.here hx rfl (hb hby d2_11) rfl rfl k) ?_
  show own_Wp p e below _ T2 (mkF m 12 #[.val (.ref x1), .val (.ref x2)] [(.ref x1)])
  refine own_step (fun _ k => XS.aloadN X2.here hx rfl (hb hby d2_12) rfl rfl k) ?_
  show own_Wp p e below _ T2 (mkF m 13 #[.val (.ref x1), .val (.ref x2)] [(.ref x2), (.ref x1)])
  refine own_step (fun _ k => Jvm.RoadKit.acmp (g := (mkF m 13 #[.val (.ref x1), .val (.ref x2)] [(.ref x2), (.ref x1)])) X2 hx rfl rfl rfl (pc0 := 13) (pc' := 16) (same := false) rfl (hb hby d2_13) rfl (decide_eq_false fun q => D2 (Value.ref.inj q)) (by decide) (by decide) k) ?_
  show own_Wp p e below _ T2 (mkF m 16 #[.val (.ref x1), .val (.ref x2)] [])
  refine own_step (fun _ k => XS.aloadN X2.here hx rfl (hb hby d2_16) rfl rfl k) ?_
  show own_Wp p e below _ T2 (mkF m 17 #[.val (.ref x1), .val (.ref x2)] [(.ref x1)])
  obtain ⟨T3, X3, e3, st3⟩ := getF X2 hx hZ hown (host := "") (Or.inl (hw _ (List.mem_of_getElem? (i := 35) rfl))) Via.refl e2 (D3.ext O0.2) (g := (mkF m 17 #[.val (.ref x1), .val (.ref x2)] [(.ref x1)])) rfl rfl (hb hby d2_17)
  refine own_step st3 ?_
  show own_Wp p e below _ T3 (mkF m 20 #[.val (.ref x1), .val (.ref x2)] [(.int (0 : Int32))])
  refine own_step (fun _ k => XS.ifYes X3.here hx rfl (pc0 := 20) (pc' := 30) rfl (hb hby d2_20) rfl (by decide) (by decide) (by decide) k) ?_
  show own_Wp p e below _ T3 (mkF m 30 #[.val (.ref x1), .val (.ref x2)] [])
  refine own_step (fun _ k => XS.iconst X3.here hx rfl (hb hby d2_30) k) ?_
  show own_Wp p e below _ T3 (mkF m 31 #[.val (.ref x1), .val (.ref x2)] [(.int (1 : Int32))])
  refine own_step (fun _ k => XS.goto X3.here hx rfl (pc0 := 31) (pc' := 35) rfl (hb hby d2_31) (by decide) (by decide) k) ?_
  show own_Wp p e below _ T3 (mkF m 35 #[.val (.ref x1), .val (.ref x2)] [(.int (1 : Int32))])
  exact own_retN X3 hx (t := .boolean) hret (by simp) hlk (hb hby d2_35) (by decide) (by decide) (by rw [e3]; exact ⟨rfl, (Fr.nil n0), rfl⟩)

set_option maxRecDepth 65536 in
set_option maxHeartbeats 40000000 in
theorem rm4_10 (l : Launch) (Z : State) (a0 : Array Value) (hw : ∀ d ∈ tables_1, d.before a0 Z = true) (hA : ∀ d ∈ own_flat narrow_1, d.value a0 Z none Z [] = some true) (ws : List Jvm.Cond) (h0 : Heap) (n0 : Nat) (O0 : Old Z n0 h0) :
    own_Met l Z (⟨"java/lang/Math", "min", "(II)I"⟩ : MethodName) (Jvm.Cond.code (⟨"java/lang/Math", "min", "(II)I"⟩ : MethodName) jdk_29_method_69_code 2 (some .int)) ws ({ frames := 0, cells := 0, slots := 0, locals := 0 } : Room) #[(.int (0 : Int32)), (.int (2 : Int32))] h0 (fun v h L => (v = some (.int (0 : Int32)) ∧ Fr n0 L ∧ h = h0)) := by
  refine own_met (own := "java/lang/Math") (Jvm.Free.JP.mathPlain rfl (by decide +kernel)) rfl ?_
  intro p e s m below meth c s₁ hx hby hml hown hnm hret hlk hZ e0 X0
  refine own_cast (g' := (mkF m 0 #[.val (.int (0 : Int32)), .val (.int (2 : Int32))] [])) (by first | (simp [entryFrame, mkF, argsToLocals, Value.category]; done) | rfl) ?_
  refine own_step (fun _ k => XS.iloadN X0.here hx rfl (hb hby d4_0) rfl k) ?_
  show own_Wp p e below _ s₁ (mkF m 1 #[.val (.int (0 : Int32)), .val (.int (2 : Int32))] [(.int (0 : Int32))])
  refine own_step (fun _ k => XS.iloadN X0.here hx rfl (hb hby d4_1) rfl k) ?_
  show own_Wp p e below _ s₁ (mkF m 2 #[.val (.int (0 : Int32)), .val (.int (2 : Int32))] [(.int (2 : Int32)), (.int (0 : Int32))])
  refine own_step (fun _ k => XS.icmpNo X0.here hx rfl (hb hby d4_2) rfl (by decide) k) ?_
  show own_Wp p e below _ s₁ (mkF m 5 #[.val (.int (0 : Int32)), .val (.int (2 : Int32))] [])
  refine own_step (fun _ k => XS.iloadN X0.here hx rfl (hb hby d4_5) rfl k) ?_
  show own_Wp p e below _ s₁ (mkF m 6 #[.val (.int (0 : Int32)), .val (.int (2 : Int32))] [(.int (0 : Int32))])
  refine own_step (fun _ k => XS.goto X0.here hx rfl (pc0 := 6) (pc' := 10) rfl (hb hby d4_6) (by decide) (by decide) k) ?_
  show own_Wp p e below _ s₁ (mkF m 10 #[.val (.int (0 : Int32)), .val (.int (2 : Int32))] [(.int (0 : Int32))])
  exact own_retI X0 hx hret hlk (hb hby d4_10) (by decide) (by decide) (by rw [e0]; exact ⟨rfl, (Fr.nil n0), rfl⟩)

set_option maxRecDepth 65536 in
set_option maxHeartbeats 40000000 in
theorem rm5_11 (l : Launch) (Z : State) (a0 : Array Value) (hw : ∀ d ∈ tables_1, d.before a0 Z = true) (hA : ∀ d ∈ own_flat narrow_1, d.value a0 Z none Z [] = some true) (ws : List Jvm.Cond) (h0 : Heap) (n0 : Nat) (O0 : Old Z n0 h0) :
    own_Met l Z (⟨"java/lang/Math", "max", "(II)I"⟩ : MethodName) (Jvm.Cond.code (⟨"java/lang/Math", "max", "(II)I"⟩ : MethodName) jdk_29_method_65_code 2 (some .int)) ws ({ frames := 0, cells := 0, slots := 0, locals := 0 } : Room) #[(.int (0 : Int32)), (.int (2 : Int32))] h0 (fun v h L => (v = some (.int (2 : Int32)) ∧ Fr n0 L ∧ h = h0)) := by
  refine own_met (own := "java/lang/Math") (Jvm.Free.JP.mathPlain rfl (by decide +kernel)) rfl ?_
  intro p e s m below meth c s₁ hx hby hml hown hnm hret hlk hZ e0 X0
  refine own_cast (g' := (mkF m 0 #[.val (.int (0 : Int32)), .val (.int (2 : Int32))] [])) (by first | (simp [entryFrame, mkF, argsToLocals, Value.category]; done) | rfl) ?_
  refine own_step (fun _ k => XS.iloadN X0.here hx rfl (hb hby d5_0) rfl k) ?_
  show own_Wp p e below _ s₁ (mkF m 1 #[.val (.int (0 : Int32)), .val (.int (2 : Int32))] [(.int (0 : Int32))])
  refine own_step (fun _ k => XS.iloadN X0.here hx rfl (hb hby d5_1) rfl k) ?_
  show own_Wp p e below _ s₁ (mkF m 2 #[.val (.int (0 : Int32)), .val (.int (2 : Int32))] [(.int (2 : Int32)), (.int (0 : Int32))])
  refine own_step (fun _ k => XS.icmpYes X0.here hx rfl (pc0 := 2) (pc' := 9) rfl (hb hby d5_2) rfl (by decide) (by decide) (by decide) k) ?_
  show own_Wp p e below _ s₁ (mkF m 9 #[.val (.int (0 : Int32)), .val (.int (2 : Int32))] [])
  refine own_step (fun _ k => XS.iloadN X0.here hx rfl (hb hby d5_9) rfl k) ?_
  show own_Wp p e below _ s₁ (mkF m 10 #[.val (.int (0 : Int32)), .val (.int (2 : Int32))] [(.int (2 : Int32))])
  exact own_retI X0 hx hret hlk (hb hby d5_10) (by decide) (by decide) (by rw [e0]; exact ⟨rfl, (Fr.nil n0), rfl⟩)

set_option maxRecDepth 65536 in
set_option maxHeartbeats 40000000 in
theorem rm3_12 (l : Launch) (Z : State) (a0 : Array Value) (hw : ∀ d ∈ tables_1, d.before a0 Z = true) (hA : ∀ d ∈ own_flat narrow_1, d.value a0 Z none Z [] = some true) (ws : List Jvm.Cond) (h0 : Heap) (n0 : Nat) (O0 : Old Z n0 h0) :
    own_Met l Z (⟨"com/example/pathfare/pathfare/alto/TypeIsCompatibleWithPinLaw", "expected", "(II)Z"⟩ : MethodName) (Jvm.Cond.code (⟨"com/example/pathfare/pathfare/alto/TypeIsCompatibleWithPinLaw", "expected", "(II)Z"⟩ : MethodName) method_3_code 4 (some .boolean)) ws ({ frames := 1, cells := 0, slots := 0, locals := 13 } : Room) #[(.int (0 : Int32)), (.int (2 : Int32))] h0 (fun v h L => (v = some (.int (1 : Int32)) ∧ Fr n0 L ∧ h = h0)) := by
  refine own_met (own := "com/example/pathfare/pathfare/alto/TypeIsCompatibleWithPinLaw") (plainFor_of_name pn0) rfl ?_
  intro p e s m below meth c s₁ hx hby hml hown hnm hret hlk hZ e0 X0
  refine own_cast (g' := (mkF m 0 #[.val (.int (0 : Int32)), .val (.int (2 : Int32)), .unset, .unset] [])) (by first | (simp [entryFrame, mkF, argsToLocals, Value.category]; done) | rfl) ?_
  refine own_step (fun _ k => XS.iloadN X0.here hx rfl (hb hby d3_0) rfl k) ?_
  show own_Wp p e below _ s₁ (mkF m 1 #[.val (.int (0 : Int32)), .val (.int (2 : Int32)), .unset, .unset] [(.int (0 : Int32))])
  refine own_step (fun _ k => XS.iloadN X0.here hx rfl (hb hby d3_1) rfl k) ?_
  show own_Wp p e below _ s₁ (mkF m 2 #[.val (.int (0 : Int32)), .val (.int (2 : Int32)), .unset, .unset] [(.int (2 : Int32)), (.int (0 : Int32))])
  refine own_step (fun _ k => XS.icmpYes X0.here hx rfl (pc0 := 2) (pc' := 7) rfl (hb hby d3_2) rfl (by decide) (by decide) (by decide) k) ?_
  show own_Wp p e below _ s₁ (mkF m 7 #[.val (.int (0 : Int32)), .val (.int (2 : Int32)), .unset, .unset] [])
  refine own_step (fun _ k => XS.iloadN X0.here hx rfl (hb hby d3_7) rfl k) ?_
  show own_Wp p e below _ s₁ (mkF m 8 #[.val (.int (0 : Int32)), .val (.int (2 : Int32)), .unset, .unset] [(.int (0 : Int32))])
  refine own_step (fun _ k => XS.iloadN X0.here hx rfl (hb hby d3_8) rfl k) ?_
  show own_Wp p e below _ s₁ (mkF m 9 #[.val (.int (0 : Int32)), .val (.int (2 : Int32)), .unset, .unset] [(.int (2 : Int32)), (.int (0 : Int32))])
  obtain ⟨_, T1, L1, X1, hQ1, st1⟩ := own_callS X0 hx hZ hown (hw _ (List.mem_of_getElem? (i := 20) rfl)) (hw _ (List.mem_of_getElem? (i := 21) rfl)) (hw _ (List.mem_of_getElem? (i := 22) rfl)) (hw _ (List.mem_of_getElem? (i := 23) rfl)) (by decide) (rm4_10 l Z a0 hw hA [] h0 n0 O0) (W := 0) (by decide) (by decide) [(.int (0 : Int32)), (.int (2 : Int32))] rfl (lenOf pd5 rfl) (Ls := #[.val (.int (0 : Int32)), .val (.int (2 : Int32)), .unset, .unset]) (by rw [hml]; rfl) (rest := []) (Nat.le_of_eq rfl) (hb hby d3_9) e0 (by decide) (by decide)
  refine st1 _ ?_
  obtain ⟨rfl, N1q, e1⟩ := hQ1
  have N1 := Fr.app (Fr.nil n0) N1q
  show own_Wp p e below _ T1 (mkF m 12 #[.val (.int (0 : Int32)), .val (.int (2 : Int32)), .unset, .unset] [(.int (0 : Int32))])
  refine own_step (fun _ k => XS.istoreN X1.here hx rfl (hb hby d3_12) rfl (l' := #[.val (.int (0 : Int32)), .val (.int (2 : Int32)), .val (.int (0 : Int32)), .unset]) rfl k) ?_
  show own_Wp p e below _ T1 (mkF m 13 #[.val (.int (0 : Int32)), .val (.int (2 : Int32)), .val (.int (0 : Int32)), .unset] [])
  refine own_step (fun _ k => XS.iloadN X1.here hx rfl (hb hby d3_13) rfl k) ?_
  show own_Wp p e below _ T1 (mkF m 14 #[.val (.int (0 : Int32)), .val (.int (2 : Int32)), .val (.int (0 : Int32)), .unset] [(.int (0 : Int32))])
  refine own_step (fun _ k => XS.iloadN X1.here hx rfl (hb hby d3_14) rfl k) ?_
  show own_Wp p e below _ T1 (mkF m 15 #[.val (.int (0 : Int32)), .val (.int (2 : Int32)), .val (.int (0 : Int32)), .unset] [(.int (2 : Int32)), (.int (0 : Int32))])
  obtain ⟨_, T2, L2, X2, hQ2, st2⟩ := own_callS X1 hx hZ hown (hw _ (List.mem_of_getElem? (i := 24) rfl)) (hw _ (List.mem_of_getElem? (i := 25) rfl)) (hw _ (List.mem_of_getElem? (i := 22) rfl)) (hw _ (List.mem_of_getElem? (i := 26) rfl)) (by decide) (rm5_11 l Z a0 hw hA [] h0 n0 O0) (W := 0) (by decide) (by decide) [(.int (0 : Int32)), (.int (2 : Int32))] rfl (lenOf pd5 rfl) (Ls := #[.val (.int (0 : Int32)), .val (.int (2 : Int32)), .val (.int (0 : Int32)), .unset]) (by rw [hml]; rfl) (rest := []) (Nat.le_of_eq rfl) (hb hby d3_15) e1 (by decide) (by decide)
  refine st2 _ ?_
  obtain ⟨rfl, N2q, e2⟩ := hQ2
  have N2 := Fr.app N1 N2q
  show own_Wp p e below _ T2 (mkF m 18 #[.val (.int (0 : Int32)), .val (.int (2 : Int32)), .val (.int (0 : Int32)), .unset] [(.int (2 : Int32))])
  refine own_step (fun _ k => XS.istoreN X2.here hx rfl (hb hby d3_18) rfl (l' := #[.val (.int (0 : Int32)), .val (.int (2 : Int32)), .val (.int (0 : Int32)), .val (.int (2 : Int32))]) rfl k) ?_
  show own_Wp p e below _ T2 (mkF m 19 #[.val (.int (0 : Int32)), .val (.int (2 : Int32)), .val (.int (0 : Int32)), .val (.int (2 : Int32))] [])
  refine own_step (fun _ k => XS.iloadN X2.here hx rfl (hb hby d3_19) rfl k) ?_
  show own_Wp p e below _ T2 (mkF m 20 #[.val (.int (0 : Int32)), .val (.int (2 : Int32)), .val (.int (0 : Int32)), .val (.int (2 : Int32))] [(.int (0 : Int32))])
  refine own_step (fun _ k => XS.ifNo X2.here hx rfl (hb hby d3_20) rfl (by decide) k) ?_
  show own_Wp p e below _ T2 (mkF m 23 #[.val (.int (0 : Int32)), .val (.int (2 : Int32)), .val (.int (0 : Int32)), .val (.int (2 : Int32))] [])
  refine own_step (fun _ k => XS.iloadN X2.here hx rfl (hb hby d3_23) rfl k) ?_
  show own_Wp p e below _ T2 (mkF m 24 #[.val (.int (0 : Int32)), .val (.int (2 : Int32)), .val (.int (0 : Int32)), .val (.int (2 : Int32))] [(.int (2 : Int32))])
  refine own_step (fun _ k => XS.iconst X2.here hx rfl (hb hby d3_24) k) ?_
  show own_Wp p e below _ T2 (mkF m 25 #[.val (.int (0 : Int32)), .val (.int (2 : Int32)), .val (.int (0 : Int32)), .val (.int (2 : Int32))] [(.int (2 : Int32)), (.int (2 : Int32))])
  refine own_step (fun _ k => XS.icmpYes X2.here hx rfl (pc0 := 25) (pc' := 33) rfl (hb hby d3_25) rfl (by decide) (by decide) (by decide) k) ?_
  show own_Wp p e below _ T2 (mkF m 33 #[.val (.int (0 : Int32)), .val (.int (2 : Int32)), .val (.int (0 : Int32)), .val (.int (2 : Int32))] [])
  refine own_step (fun _ k => XS.iconst X2.here hx rfl (hb hby d3_33) k) ?_
  show own_Wp p e below _ T2 (mkF m 34 #[.val (.int (0 : Int32)), .val (.int (2 : Int32)), .val (.int (0 : Int32)), .val (.int (2 : Int32))] [(.int (1 : Int32))])
  refine own_step (fun _ k => XS.goto X2.here hx rfl (pc0 := 34) (pc' := 38) rfl (hb hby d3_34) (by decide) (by decide) k) ?_
  show own_Wp p e below _ T2 (mkF m 38 #[.val (.int (0 : Int32)), .val (.int (2 : Int32)), .val (.int (0 : Int32)), .val (.int (2 : Int32))] [(.int (1 : Int32))])
  exact own_retN X2 hx (t := .boolean) hret (by simp) hlk (hb hby d3_38) (by decide) (by decide) (by rw [e2]; exact ⟨rfl, N2, rfl⟩)

set_option maxRecDepth 65536 in
set_option maxHeartbeats 40000000 in
theorem rm1_13 (l : Launch) (Z : State) (a0 : Array Value) (hw : ∀ d ∈ tables_1, d.before a0 Z = true) (hA : ∀ d ∈ own_flat narrow_1, d.value a0 Z none Z [] = some true) (ws : List Jvm.Cond) (h0 : Heap) (n0 : Nat) (O0 : Old Z n0 h0) :
    own_Met l Z (⟨"com/example/pathfare/pathfare/alto/TypeIsCompatibleWithPinLaw", "pick", "(I)Lcom/example/pathfare/pathfare/alto/EndpointAddress$Type;"⟩ : MethodName) (Jvm.Cond.code (⟨"com/example/pathfare/pathfare/alto/TypeIsCompatibleWithPinLaw", "pick", "(I)Lcom/example/pathfare/pathfare/alto/EndpointAddress$Type;"⟩ : MethodName) method_2_code 1 (some (.object "com/example/pathfare/pathfare/alto/EndpointAddress$Type"))) ws ({ frames := 0, cells := 0, slots := 0, locals := 0 } : Room) #[(.int (3 : Int32))] h0 (fun v h L => (v = some (.ref (w1_TCP6 Z)) ∧ Fr n0 L ∧ h = h0)) := by
  refine own_met (own := "com/example/pathfare/pathfare/alto/TypeIsCompatibleWithPinLaw") (plainFor_of_name pn0) rfl ?_
  intro p e s m below meth c s₁ hx hby hml hown hnm hret hlk hZ e0 X0
  refine own_cast (g' := (mkF m 0 #[.val (.int (3 : Int32))] [])) (by first | (simp [entryFrame, mkF, argsToLocals, Value.category]; done) | rfl) ?_
  refine own_step (fun _ k => XS.iloadN X0.here hx rfl (hb hby d1_0) rfl k) ?_
  show own_Wp p e below _ s₁ (mkF m 1 #[.val (.int (3 : Int32))] [(.int (3 : Int32))])
  refine own_step (fun _ k => XS.ifYes X0.here hx rfl (pc0 := 1) (pc' := 8) rfl (hb hby d1_1) rfl (by decide) (by decide) (by decide) k) ?_
  show own_Wp p e below _ s₁ (mkF m 8 #[.val (.int (3 : Int32))] [])
  refine own_step (fun _ k => XS.iloadN X0.here hx rfl (hb hby d1_8) rfl k) ?_
  show own_Wp p e below _ s₁ (mkF m 9 #[.val (.int (3 : Int32))] [(.int (3 : Int32))])
  refine own_step (fun _ k => XS.iconst X0.here hx rfl (hb hby d1_9) k) ?_
  show own_Wp p e below _ s₁ (mkF m 10 #[.val (.int (3 : Int32))] [(.int (1 : Int32)), (.int (3 : Int32))])
  refine own_step (fun _ k => XS.icmpYes X0.here hx rfl (pc0 := 10) (pc' := 17) rfl (hb hby d1_10) rfl (by decide) (by decide) (by decide) k) ?_
  show own_Wp p e below _ s₁ (mkF m 17 #[.val (.int (3 : Int32))] [])
  refine own_step (fun _ k => XS.iloadN X0.here hx rfl (hb hby d1_17) rfl k) ?_
  show own_Wp p e below _ s₁ (mkF m 18 #[.val (.int (3 : Int32))] [(.int (3 : Int32))])
  refine own_step (fun _ k => XS.iconst X0.here hx rfl (hb hby d1_18) k) ?_
  show own_Wp p e below _ s₁ (mkF m 19 #[.val (.int (3 : Int32))] [(.int (2 : Int32)), (.int (3 : Int32))])
  refine own_step (fun _ k => XS.icmpYes X0.here hx rfl (pc0 := 19) (pc' := 26) rfl (hb hby d1_19) rfl (by decide) (by decide) (by decide) k) ?_
  show own_Wp p e below _ s₁ (mkF m 26 #[.val (.int (3 : Int32))] [])
  refine own_step (fun _ k => XS.iloadN X0.here hx rfl (hb hby d1_26) rfl k) ?_
  show own_Wp p e below _ s₁ (mkF m 27 #[.val (.int (3 : Int32))] [(.int (3 : Int32))])
  refine own_step (fun _ k => XS.iconst X0.here hx rfl (hb hby d1_27) k) ?_
  show own_Wp p e below _ s₁ (mkF m 28 #[.val (.int (3 : Int32))] [(.int (3 : Int32)), (.int (3 : Int32))])
  refine own_step (fun _ k => XS.icmpNo X0.here hx rfl (hb hby d1_28) rfl (by decide) k) ?_
  show own_Wp p e below _ s₁ (mkF m 31 #[.val (.int (3 : Int32))] [])
  obtain ⟨T1, X1, e1, st1⟩ := getS2 X0 hx hZ hown (host := "") (Or.inl (hw _ (List.mem_of_getElem? (i := 8) rfl))) Via.refl e0 ((st_w1_TCP6 hw hA).ext O0.2) (g := (mkF m 31 #[.val (.int (3 : Int32))] [])) rfl (hb hby d1_31)
  refine own_step st1 ?_
  show own_Wp p e below _ T1 (mkF m 34 #[.val (.int (3 : Int32))] [(.ref (w1_TCP6 Z))])
  exact own_retA X1 hx hret rfl rfl hlk (hb hby d1_34) (by decide) (by decide) (by rw [e1]; exact ⟨rfl, (Fr.nil n0), rfl⟩)

set_option maxRecDepth 65536 in
set_option maxHeartbeats 40000000 in
theorem rm4_14 (l : Launch) (Z : State) (a0 : Array Value) (hw : ∀ d ∈ tables_1, d.before a0 Z = true) (hA : ∀ d ∈ own_flat narrow_1, d.value a0 Z none Z [] = some true) (ws : List Jvm.Cond) (h0 : Heap) (n0 : Nat) (O0 : Old Z n0 h0) :
    own_Met l Z (⟨"java/lang/Math", "min", "(II)I"⟩ : MethodName) (Jvm.Cond.code (⟨"java/lang/Math", "min", "(II)I"⟩ : MethodName) jdk_29_method_69_code 2 (some .int)) ws ({ frames := 0, cells := 0, slots := 0, locals := 0 } : Room) #[(.int (0 : Int32)), (.int (3 : Int32))] h0 (fun v h L => (v = some (.int (0 : Int32)) ∧ Fr n0 L ∧ h = h0)) := by
  refine own_met (own := "java/lang/Math") (Jvm.Free.JP.mathPlain rfl (by decide +kernel)) rfl ?_
  intro p e s m below meth c s₁ hx hby hml hown hnm hret hlk hZ e0 X0
  refine own_cast (g' := (mkF m 0 #[.val (.int (0 : Int32)), .val (.int (3 : Int32))] [])) (by first | (simp [entryFrame, mkF, argsToLocals, Value.category]; done) | rfl) ?_
  refine own_step (fun _ k => XS.iloadN X0.here hx rfl (hb hby d4_0) rfl k) ?_
  show own_Wp p e below _ s₁ (mkF m 1 #[.val (.int (0 : Int32)), .val (.int (3 : Int32))] [(.int (0 : Int32))])
  refine own_step (fun _ k => XS.iloadN X0.here hx rfl (hb hby d4_1) rfl k) ?_
  show own_Wp p e below _ s₁ (mkF m 2 #[.val (.int (0 : Int32)), .val (.int (3 : Int32))] [(.int (3 : Int32)), (.int (0 : Int32))])
  refine own_step (fun _ k => XS.icmpNo X0.here hx rfl (hb hby d4_2) rfl (by decide) k) ?_
  show own_Wp p e below _ s₁ (mkF m 5 #[.val (.int (0 : Int32)), .val (.int (3 : Int32))] [])
  refine own_step (fun _ k => XS.iloadN X0.here hx rfl (hb hby d4_5) rfl k) ?_
  show own_Wp p e below _ s₁ (mkF m 6 #[.val (.int (0 : Int32)), .val (.int (3 : Int32))] [(.int (0 : Int32))])
  refine own_step (fun _ k => XS.goto X0.here hx rfl (pc0 := 6) (pc' := 10) rfl (hb hby d4_6) (by decide) (by decide) k) ?_
  show own_Wp p e below _ s₁ (mkF m 10 #[.val (.int (0 : Int32)), .val (.int (3 : Int32))] [(.int (0 : Int32))])
  exact own_retI X0 hx hret hlk (hb hby d4_10) (by decide) (by decide) (by rw [e0]; exact ⟨rfl, (Fr.nil n0), rfl⟩)

set_option maxRecDepth 65536 in
set_option maxHeartbeats 40000000 in
theorem rm5_15 (l : Launch) (Z : State) (a0 : Array Value) (hw : ∀ d ∈ tables_1, d.before a0 Z = true) (hA : ∀ d ∈ own_flat narrow_1, d.value a0 Z none Z [] = some true) (ws : List Jvm.Cond) (h0 : Heap) (n0 : Nat) (O0 : Old Z n0 h0) :
    own_Met l Z (⟨"java/lang/Math", "max", "(II)I"⟩ : MethodName) (Jvm.Cond.code (⟨"java/lang/Math", "max", "(II)I"⟩ : MethodName) jdk_29_method_65_code 2 (some .int)) ws ({ frames := 0, cells := 0, slots := 0, locals := 0 } : Room) #[(.int (0 : Int32)), (.int (3 : Int32))] h0 (fun v h L => (v = some (.int (3 : Int32)) ∧ Fr n0 L ∧ h = h0)) := by
  refine own_met (own := "java/lang/Math") (Jvm.Free.JP.mathPlain rfl (by decide +kernel)) rfl ?_
  intro p e s m below meth c s₁ hx hby hml hown hnm hret hlk hZ e0 X0
  refine own_cast (g' := (mkF m 0 #[.val (.int (0 : Int32)), .val (.int (3 : Int32))] [])) (by first | (simp [entryFrame, mkF, argsToLocals, Value.category]; done) | rfl) ?_
  refine own_step (fun _ k => XS.iloadN X0.here hx rfl (hb hby d5_0) rfl k) ?_
  show own_Wp p e below _ s₁ (mkF m 1 #[.val (.int (0 : Int32)), .val (.int (3 : Int32))] [(.int (0 : Int32))])
  refine own_step (fun _ k => XS.iloadN X0.here hx rfl (hb hby d5_1) rfl k) ?_
  show own_Wp p e below _ s₁ (mkF m 2 #[.val (.int (0 : Int32)), .val (.int (3 : Int32))] [(.int (3 : Int32)), (.int (0 : Int32))])
  refine own_step (fun _ k => XS.icmpYes X0.here hx rfl (pc0 := 2) (pc' := 9) rfl (hb hby d5_2) rfl (by decide) (by decide) (by decide) k) ?_
  show own_Wp p e below _ s₁ (mkF m 9 #[.val (.int (0 : Int32)), .val (.int (3 : Int32))] [])
  refine own_step (fun _ k => XS.iloadN X0.here hx rfl (hb hby d5_9) rfl k) ?_
  show own_Wp p e below _ s₁ (mkF m 10 #[.val (.int (0 : Int32)), .val (.int (3 : Int32))] [(.int (3 : Int32))])
  exact own_retI X0 hx hret hlk (hb hby d5_10) (by decide) (by decide) (by rw [e0]; exact ⟨rfl, (Fr.nil n0), rfl⟩)

set_option maxRecDepth 65536 in
set_option maxHeartbeats 40000000 in
theorem rm3_16 (l : Launch) (Z : State) (a0 : Array Value) (hw : ∀ d ∈ tables_1, d.before a0 Z = true) (hA : ∀ d ∈ own_flat narrow_1, d.value a0 Z none Z [] = some true) (ws : List Jvm.Cond) (h0 : Heap) (n0 : Nat) (O0 : Old Z n0 h0) :
    own_Met l Z (⟨"com/example/pathfare/pathfare/alto/TypeIsCompatibleWithPinLaw", "expected", "(II)Z"⟩ : MethodName) (Jvm.Cond.code (⟨"com/example/pathfare/pathfare/alto/TypeIsCompatibleWithPinLaw", "expected", "(II)Z"⟩ : MethodName) method_3_code 4 (some .boolean)) ws ({ frames := 1, cells := 0, slots := 0, locals := 13 } : Room) #[(.int (0 : Int32)), (.int (3 : Int32))] h0 (fun v h L => (v = some (.int (0 : Int32)) ∧ Fr n0 L ∧ h = h0)) := by
  refine own_met (own := "com/example/pathfare/pathfare/alto/TypeIsCompatibleWithPinLaw") (plainFor_of_name pn0) rfl ?_
  intro p e s m below meth c s₁ hx hby hml hown hnm hret hlk hZ e0 X0
  refine own_cast (g' := (mkF m 0 #[.val (.int (0 : Int32)), .val (.int (3 : Int32)), .unset, .unset] [])) (by first | (simp [entryFrame, mkF, argsToLocals, Value.category]; done) | rfl) ?_
  refine own_step (fun _ k => XS.iloadN X0.here hx rfl (hb hby d3_0) rfl k) ?_
  show own_Wp p e below _ s₁ (mkF m 1 #[.val (.int (0 : Int32)), .val (.int (3 : Int32)), .unset, .unset] [(.int (0 : Int32))])
  refine own_step (fun _ k => XS.iloadN X0.here hx rfl (hb hby d3_1) rfl k) ?_
  show own_Wp p e below _ s₁ (mkF m 2 #[.val (.int (0 : Int32)), .val (.int (3 : Int32)), .unset, .unset] [(.int (3 : Int32)), (.int (0 : Int32))])
  refine own_step (fun _ k => XS.icmpYes X0.here hx rfl (pc0 := 2) (pc' := 7) rfl (hb hby d3_2) rfl (by decide) (by decide) (by decide) k) ?_
  show own_Wp p e below _ s₁ (mkF m 7 #[.val (.int (0 : Int32)), .val (.int (3 : Int32)), .unset, .unset] [])
  refine own_step (fun _ k => XS.iloadN X0.here hx rfl (hb hby d3_7) rfl k) ?_
  show own_Wp p e below _ s₁ (mkF m 8 #[.val (.int (0 : Int32)), .val (.int (3 : Int32)), .unset, .unset] [(.int (0 : Int32))])
  refine own_step (fun _ k => XS.iloadN X0.here hx rfl (hb hby d3_8) rfl k) ?_
  show own_Wp p e below _ s₁ (mkF m 9 #[.val (.int (0 : Int32)), .val (.int (3 : Int32)), .unset, .unset] [(.int (3 : Int32)), (.int (0 : Int32))])
  obtain ⟨_, T1, L1, X1, hQ1, st1⟩ := own_callS X0 hx hZ hown (hw _ (List.mem_of_getElem? (i := 20) rfl)) (hw _ (List.mem_of_getElem? (i := 21) rfl)) (hw _ (List.mem_of_getElem? (i := 22) rfl)) (hw _ (List.mem_of_getElem? (i := 23) rfl)) (by decide) (rm4_14 l Z a0 hw hA [] h0 n0 O0) (W := 0) (by decide) (by decide) [(.int (0 : Int32)), (.int (3 : Int32))] rfl (lenOf pd5 rfl) (Ls := #[.val (.int (0 : Int32)), .val (.int (3 : Int32)), .unset, .unset]) (by rw [hml]; rfl) (rest := []) (Nat.le_of_eq rfl) (hb hby d3_9) e0 (by decide) (by decide)
  refine st1 _ ?_
  obtain ⟨rfl, N1q, e1⟩ := hQ1
  have N1 := Fr.app (Fr.nil n0) N1q
  show own_Wp p e below _ T1 (mkF m 12 #[.val (.int (0 : Int32)), .val (.int (3 : Int32)), .unset, .unset] [(.int (0 : Int32))])
  refine own_step (fun _ k => XS.istoreN X1.here hx rfl (hb hby d3_12) rfl (l' := #[.val (.int (0 : Int32)), .val (.int (3 : Int32)), .val (.int (0 : Int32)), .unset]) rfl k) ?_
  show own_Wp p e below _ T1 (mkF m 13 #[.val (.int (0 : Int32)), .val (.int (3 : Int32)), .val (.int (0 : Int32)), .unset] [])
  refine own_step (fun _ k => XS.iloadN X1.here hx rfl (hb hby d3_13) rfl k) ?_
  show own_Wp p e below _ T1 (mkF m 14 #[.val (.int (0 : Int32)), .val (.int (3 : Int32)), .val (.int (0 : Int32)), .unset] [(.int (0 : Int32))])
  refine own_step (fun _ k => XS.iloadN X1.here hx rfl (hb hby d3_14) rfl k) ?_
  show own_Wp p e below _ T1 (mkF m 15 #[.val (.int (0 : Int32)), .val (.int (3 : Int32)), .val (.int (0 : Int32)), .unset] [(.int (3 : Int32)), (.int (0 : Int32))])
  obtain ⟨_, T2, L2, X2, hQ2, st2⟩ := own_callS X1 hx hZ hown (hw _ (List.mem_of_getElem? (i := 24) rfl)) (hw _ (List.mem_of_getElem? (i := 25) rfl)) (hw _ (List.mem_of_getElem? (i := 22) rfl)) (hw _ (List.mem_of_getElem? (i := 26) rfl)) (by decide) (rm5_15 l Z a0 hw hA [] h0 n0 O0) (W := 0) (by decide) (by decide) [(.int (0 : Int32)), (.int (3 : Int32))] rfl (lenOf pd5 rfl) (Ls := #[.val (.int (0 : Int32)), .val (.int (3 : Int32)), .val (.int (0 : Int32)), .unset]) (by rw [hml]; rfl) (rest := []) (Nat.le_of_eq rfl) (hb hby d3_15) e1 (by decide) (by decide)
  refine st2 _ ?_
  obtain ⟨rfl, N2q, e2⟩ := hQ2
  have N2 := Fr.app N1 N2q
  show own_Wp p e below _ T2 (mkF m 18 #[.val (.int (0 : Int32)), .val (.int (3 : Int32)), .val (.int (0 : Int32)), .unset] [(.int (3 : Int32))])
  refine own_step (fun _ k => XS.istoreN X2.here hx rfl (hb hby d3_18) rfl (l' := #[.val (.int (0 : Int32)), .val (.int (3 : Int32)), .val (.int (0 : Int32)), .val (.int (3 : Int32))]) rfl k) ?_
  show own_Wp p e below _ T2 (mkF m 19 #[.val (.int (0 : Int32)), .val (.int (3 : Int32)), .val (.int (0 : Int32)), .val (.int (3 : Int32))] [])
  refine own_step (fun _ k => XS.iloadN X2.here hx rfl (hb hby d3_19) rfl k) ?_
  show own_Wp p e below _ T2 (mkF m 20 #[.val (.int (0 : Int32)), .val (.int (3 : Int32)), .val (.int (0 : Int32)), .val (.int (3 : Int32))] [(.int (0 : Int32))])
  refine own_step (fun _ k => XS.ifNo X2.here hx rfl (hb hby d3_20) rfl (by decide) k) ?_
  show own_Wp p e below _ T2 (mkF m 23 #[.val (.int (0 : Int32)), .val (.int (3 : Int32)), .val (.int (0 : Int32)), .val (.int (3 : Int32))] [])
  refine own_step (fun _ k => XS.iloadN X2.here hx rfl (hb hby d3_23) rfl k) ?_
  show own_Wp p e below _ T2 (mkF m 24 #[.val (.int (0 : Int32)), .val (.int (3 : Int32)), .val (.int (0 : Int32)), .val (.int (3 : Int32))] [(.int (3 : Int32))])
  refine own_step (fun _ k => XS.iconst X2.here hx rfl (hb hby d3_24) k) ?_
  show own_Wp p e below _ T2 (mkF m 25 #[.val (.int (0 : Int32)), .val (.int (3 : Int32)), .val (.int (0 : Int32)), .val (.int (3 : Int32))] [(.int (2 : Int32)), (.int (3 : Int32))])
  refine own_step (fun _ k => XS.icmpNo X2.here hx rfl (hb hby d3_25) rfl (by decide) k) ?_
  show own_Wp p e below _ T2 (mkF m 28 #[.val (.int (0 : Int32)), .val (.int (3 : Int32)), .val (.int (0 : Int32)), .val (.int (3 : Int32))] [])
  refine own_step (fun _ k => XS.iloadN X2.here hx rfl (hb hby d3_28) rfl k) ?_
  show own_Wp p e below _ T2 (mkF m 29 #[.val (.int (0 : Int32)), .val (.int (3 : Int32)), .val (.int (0 : Int32)), .val (.int (3 : Int32))] [(.int (3 : Int32))])
  refine own_step (fun _ k => XS.iconst X2.here hx rfl (hb hby d3_29) k) ?_
  show own_Wp p e below _ T2 (mkF m 30 #[.val (.int (0 : Int32)), .val (.int (3 : Int32)), .val (.int (0 : Int32)), .val (.int (3 : Int32))] [(.int (4 : Int32)), (.int (3 : Int32))])
  refine own_step (fun _ k => XS.icmpYes X2.here hx rfl (pc0 := 30) (pc' := 37) rfl (hb hby d3_30) rfl (by decide) (by decide) (by decide) k) ?_
  show own_Wp p e below _ T2 (mkF m 37 #[.val (.int (0 : Int32)), .val (.int (3 : Int32)), .val (.int (0 : Int32)), .val (.int (3 : Int32))] [])
  refine own_step (fun _ k => XS.iconst X2.here hx rfl (hb hby d3_37) k) ?_
  show own_Wp p e below _ T2 (mkF m 38 #[.val (.int (0 : Int32)), .val (.int (3 : Int32)), .val (.int (0 : Int32)), .val (.int (3 : Int32))] [(.int (0 : Int32))])
  exact own_retN X2 hx (t := .boolean) hret (by simp) hlk (hb hby d3_38) (by decide) (by decide) (by rw [e2]; exact ⟨rfl, N2, rfl⟩)

set_option maxRecDepth 65536 in
set_option maxHeartbeats 40000000 in
theorem rm1_17 (l : Launch) (Z : State) (a0 : Array Value) (hw : ∀ d ∈ tables_1, d.before a0 Z = true) (hA : ∀ d ∈ own_flat narrow_1, d.value a0 Z none Z [] = some true) (ws : List Jvm.Cond) (h0 : Heap) (n0 : Nat) (O0 : Old Z n0 h0) :
    own_Met l Z (⟨"com/example/pathfare/pathfare/alto/TypeIsCompatibleWithPinLaw", "pick", "(I)Lcom/example/pathfare/pathfare/alto/EndpointAddress$Type;"⟩ : MethodName) (Jvm.Cond.code (⟨"com/example/pathfare/pathfare/alto/TypeIsCompatibleWithPinLaw", "pick", "(I)Lcom/example/pathfare/pathfare/alto/EndpointAddress$Type;"⟩ : MethodName) method_2_code 1 (some (.object "com/example/pathfare/pathfare/alto/EndpointAddress$Type"))) ws ({ frames := 0, cells := 0, slots := 0, locals := 0 } : Room) #[(.int (4 : Int32))] h0 (fun v h L => (v = some (.ref (w5_UDP Z)) ∧ Fr n0 L ∧ h = h0)) := by
  refine own_met (own := "com/example/pathfare/pathfare/alto/TypeIsCompatibleWithPinLaw") (plainFor_of_name pn0) rfl ?_
  intro p e s m below meth c s₁ hx hby hml hown hnm hret hlk hZ e0 X0
  refine own_cast (g' := (mkF m 0 #[.val (.int (4 : Int32))] [])) (by first | (simp [entryFrame, mkF, argsToLocals, Value.category]; done) | rfl) ?_
  refine own_step (fun _ k => XS.iloadN X0.here hx rfl (hb hby d1_0) rfl k) ?_
  show own_Wp p e below _ s₁ (mkF m 1 #[.val (.int (4 : Int32))] [(.int (4 : Int32))])
  refine own_step (fun _ k => XS.ifYes X0.here hx rfl (pc0 := 1) (pc' := 8) rfl (hb hby d1_1) rfl (by decide) (by decide) (by decide) k) ?_
  show own_Wp p e below _ s₁ (mkF m 8 #[.val (.int (4 : Int32))] [])
  refine own_step (fun _ k => XS.iloadN X0.here hx rfl (hb hby d1_8) rfl k) ?_
  show own_Wp p e below _ s₁ (mkF m 9 #[.val (.int (4 : Int32))] [(.int (4 : Int32))])
  refine own_step (fun _ k => XS.iconst X0.here hx rfl (hb hby d1_9) k) ?_
  show own_Wp p e below _ s₁ (mkF m 10 #[.val (.int (4 : Int32))] [(.int (1 : Int32)), (.int (4 : Int32))])
  refine own_step (fun _ k => XS.icmpYes X0.here hx rfl (pc0 := 10) (pc' := 17) rfl (hb hby d1_10) rfl (by decide) (by decide) (by decide) k) ?_
  show own_Wp p e below _ s₁ (mkF m 17 #[.val (.int (4 : Int32))] [])
  refine own_step (fun _ k => XS.iloadN X0.here hx rfl (hb hby d1_17) rfl k) ?_
  show own_Wp p e below _ s₁ (mkF m 18 #[.val (.int (4 : Int32))] [(.int (4 : Int32))])
  refine own_step (fun _ k => XS.iconst X0.here hx rfl (hb hby d1_18) k) ?_
  show own_Wp p e below _ s₁ (mkF m 19 #[.val (.int (4 : Int32))] [(.int (2 : Int32)), (.int (4 : Int32))])
  refine own_step (fun _ k => XS.icmpYes X0.here hx rfl (pc0 := 19) (pc' := 26) rfl (hb hby d1_19) rfl (by decide) (by decide) (by decide) k) ?_
  show own_Wp p e below _ s₁ (mkF m 26 #[.val (.int (4 : Int32))] [])
  refine own_step (fun _ k => XS.iloadN X0.here hx rfl (hb hby d1_26) rfl k) ?_
  show own_Wp p e below _ s₁ (mkF m 27 #[.val (.int (4 : Int32))] [(.int (4 : Int32))])
  refine own_step (fun _ k => XS.iconst X0.here hx rfl (hb hby d1_27) k) ?_
  show own_Wp p e below _ s₁ (mkF m 28 #[.val (.int (4 : Int32))] [(.int (3 : Int32)), (.int (4 : Int32))])
  refine own_step (fun _ k => XS.icmpYes X0.here hx rfl (pc0 := 28) (pc' := 35) rfl (hb hby d1_28) rfl (by decide) (by decide) (by decide) k) ?_
  show own_Wp p e below _ s₁ (mkF m 35 #[.val (.int (4 : Int32))] [])
  refine own_step (fun _ k => XS.iloadN X0.here hx rfl (hb hby d1_35) rfl k) ?_
  show own_Wp p e below _ s₁ (mkF m 36 #[.val (.int (4 : Int32))] [(.int (4 : Int32))])
  refine own_step (fun _ k => XS.iconst X0.here hx rfl (hb hby d1_36) k) ?_
  show own_Wp p e below _ s₁ (mkF m 37 #[.val (.int (4 : Int32))] [(.int (4 : Int32)), (.int (4 : Int32))])
  refine own_step (fun _ k => XS.icmpNo X0.here hx rfl (hb hby d1_37) rfl (by decide) k) ?_
  show own_Wp p e below _ s₁ (mkF m 40 #[.val (.int (4 : Int32))] [])
  obtain ⟨T1, X1, e1, st1⟩ := getS2 X0 hx hZ hown (host := "") (Or.inl (hw _ (List.mem_of_getElem? (i := 33) rfl))) Via.refl e0 ((st_w5_UDP hw hA).ext O0.2) (g := (mkF m 40 #[.val (.int (4 : Int32))] [])) rfl (hb hby d1_40)
  refine own_step st1 ?_
  show own_Wp p e below _ T1 (mkF m 43 #[.val (.int (4 : Int32))] [(.ref (w5_UDP Z))])
  exact own_retA X1 hx hret rfl rfl hlk (hb hby d1_43) (by decide) (by decide) (by rw [e1]; exact ⟨rfl, (Fr.nil n0), rfl⟩)

set_option maxRecDepth 65536 in
set_option maxHeartbeats 40000000 in
theorem rm4_18 (l : Launch) (Z : State) (a0 : Array Value) (hw : ∀ d ∈ tables_1, d.before a0 Z = true) (hA : ∀ d ∈ own_flat narrow_1, d.value a0 Z none Z [] = some true) (ws : List Jvm.Cond) (h0 : Heap) (n0 : Nat) (O0 : Old Z n0 h0) :
    own_Met l Z (⟨"java/lang/Math", "min", "(II)I"⟩ : MethodName) (Jvm.Cond.code (⟨"java/lang/Math", "min", "(II)I"⟩ : MethodName) jdk_29_method_69_code 2 (some .int)) ws ({ frames := 0, cells := 0, slots := 0, locals := 0 } : Room) #[(.int (0 : Int32)), (.int (4 : Int32))] h0 (fun v h L => (v = some (.int (0 : Int32)) ∧ Fr n0 L ∧ h = h0)) := by
  refine own_met (own := "java/lang/Math") (Jvm.Free.JP.mathPlain rfl (by decide +kernel)) rfl ?_
  intro p e s m below meth c s₁ hx hby hml hown hnm hret hlk hZ e0 X0
  refine own_cast (g' := (mkF m 0 #[.val (.int (0 : Int32)), .val (.int (4 : Int32))] [])) (by first | (simp [entryFrame, mkF, argsToLocals, Value.category]; done) | rfl) ?_
  refine own_step (fun _ k => XS.iloadN X0.here hx rfl (hb hby d4_0) rfl k) ?_
  show own_Wp p e below _ s₁ (mkF m 1 #[.val (.int (0 : Int32)), .val (.int (4 : Int32))] [(.int (0 : Int32))])
  refine own_step (fun _ k => XS.iloadN X0.here hx rfl (hb hby d4_1) rfl k) ?_
  show own_Wp p e below _ s₁ (mkF m 2 #[.val (.int (0 : Int32)), .val (.int (4 : Int32))] [(.int (4 : Int32)), (.int (0 : Int32))])
  refine own_step (fun _ k => XS.icmpNo X0.here hx rfl (hb hby d4_2) rfl (by decide) k) ?_
  show own_Wp p e below _ s₁ (mkF m 5 #[.val (.int (0 : Int32)), .val (.int (4 : Int32))] [])
  refine own_step (fun _ k => XS.iloadN X0.here hx rfl (hb hby d4_5) rfl k) ?_
  show own_Wp p e below _ s₁ (mkF m 6 #[.val (.int (0 : Int32)), .val (.int (4 : Int32))] [(.int (0 : Int32))])
  refine own_step (fun _ k => XS.goto X0.here hx rfl (pc0 := 6) (pc' := 10) rfl (hb hby d4_6) (by decide) (by decide) k) ?_
  show own_Wp p e below _ s₁ (mkF m 10 #[.val (.int (0 : Int32)), .val (.int (4 : Int32))] [(.int (0 : Int32))])
  exact own_retI X0 hx hret hlk (hb hby d4_10) (by decide) (by decide) (by rw [e0]; exact ⟨rfl, (Fr.nil n0), rfl⟩)

set_option maxRecDepth 65536 in
set_option maxHeartbeats 40000000 in
theorem rm5_19 (l : Launch) (Z : State) (a0 : Array Value) (hw : ∀ d ∈ tables_1, d.before a0 Z = true) (hA : ∀ d ∈ own_flat narrow_1, d.value a0 Z none Z [] = some true) (ws : List Jvm.Cond) (h0 : Heap) (n0 : Nat) (O0 : Old Z n0 h0) :
    own_Met l Z (⟨"java/lang/Math", "max", "(II)I"⟩ : MethodName) (Jvm.Cond.code (⟨"java/lang/Math", "max", "(II)I"⟩ : MethodName) jdk_29_method_65_code 2 (some .int)) ws ({ frames := 0, cells := 0, slots := 0, locals := 0 } : Room) #[(.int (0 : Int32)), (.int (4 : Int32))] h0 (fun v h L => (v = some (.int (4 : Int32)) ∧ Fr n0 L ∧ h = h0)) := by
  refine own_met (own := "java/lang/Math") (Jvm.Free.JP.mathPlain rfl (by decide +kernel)) rfl ?_
  intro p e s m below meth c s₁ hx hby hml hown hnm hret hlk hZ e0 X0
  refine own_cast (g' := (mkF m 0 #[.val (.int (0 : Int32)), .val (.int (4 : Int32))] [])) (by first | (simp [entryFrame, mkF, argsToLocals, Value.category]; done) | rfl) ?_
  refine own_step (fun _ k => XS.iloadN X0.here hx rfl (hb hby d5_0) rfl k) ?_
  show own_Wp p e below _ s₁ (mkF m 1 #[.val (.int (0 : Int32)), .val (.int (4 : Int32))] [(.int (0 : Int32))])
  refine own_step (fun _ k => XS.iloadN X0.here hx rfl (hb hby d5_1) rfl k) ?_
  show own_Wp p e below _ s₁ (mkF m 2 #[.val (.int (0 : Int32)), .val (.int (4 : Int32))] [(.int (4 : Int32)), (.int (0 : Int32))])
  refine own_step (fun _ k => XS.icmpYes X0.here hx rfl (pc0 := 2) (pc' := 9) rfl (hb hby d5_2) rfl (by decide) (by decide) (by decide) k) ?_
  show own_Wp p e below _ s₁ (mkF m 9 #[.val (.int (0 : Int32)), .val (.int (4 : Int32))] [])
  refine own_step (fun _ k => XS.iloadN X0.here hx rfl (hb hby d5_9) rfl k) ?_
  show own_Wp p e below _ s₁ (mkF m 10 #[.val (.int (0 : Int32)), .val (.int (4 : Int32))] [(.int (4 : Int32))])
  exact own_retI X0 hx hret hlk (hb hby d5_10) (by decide) (by decide) (by rw [e0]; exact ⟨rfl, (Fr.nil n0), rfl⟩)

set_option maxRecDepth 65536 in
set_option maxHeartbeats 40000000 in
theorem rm3_20 (l : Launch) (Z : State) (a0 : Array Value) (hw : ∀ d ∈ tables_1, d.before a0 Z = true) (hA : ∀ d ∈ own_flat narrow_1, d.value a0 Z none Z [] = some true) (ws : List Jvm.Cond) (h0 : Heap) (n0 : Nat) (O0 : Old Z n0 h0) :
    own_Met l Z (⟨"com/example/pathfare/pathfare/alto/TypeIsCompatibleWithPinLaw", "expected", "(II)Z"⟩ : MethodName) (Jvm.Cond.code (⟨"com/example/pathfare/pathfare/alto/TypeIsCompatibleWithPinLaw", "expected", "(II)Z"⟩ : MethodName) method_3_code 4 (some .boolean)) ws ({ frames := 1, cells := 0, slots := 0, locals := 13 } : Room) #[(.int (0 : Int32)), (.int (4 : Int32))] h0 (fun v h L => (v = some (.int (1 : Int32)) ∧ Fr n0 L ∧ h = h0)) := by
  refine own_met (own := "com/example/pathfare/pathfare/alto/TypeIsCompatibleWithPinLaw") (plainFor_of_name pn0) rfl ?_
  intro p e s m below meth c s₁ hx hby hml hown hnm hret hlk hZ e0 X0
  refine own_cast (g' := (mkF m 0 #[.val (.int (0 : Int32)), .val (.int (4 : Int32)), .unset, .unset] [])) (by first | (simp [entryFrame, mkF, argsToLocals, Value.category]; done) | rfl) ?_
  refine own_step (fun _ k => XS.iloadN X0.here hx rfl (hb hby d3_0) rfl k) ?_
  show own_Wp p e below _ s₁ (mkF m 1 #[.val (.int (0 : Int32)), .val (.int (4 : Int32)), .unset, .unset] [(.int (0 : Int32))])
  refine own_step (fun _ k => XS.iloadN X0.here hx rfl (hb hby d3_1) rfl k) ?_
  show own_Wp p e below _ s₁ (mkF m 2 #[.val (.int (0 : Int32)), .val (.int (4 : Int32)), .unset, .unset] [(.int (4 : Int32)), (.int (0 : Int32))])
  refine own_step (fun _ k => XS.icmpYes X0.here hx rfl (pc0 := 2) (pc' := 7) rfl (hb hby d3_2) rfl (by decide) (by decide) (by decide) k) ?_
  show own_Wp p e below _ s₁ (mkF m 7 #[.val (.int (0 : Int32)), .val (.int (4 : Int32)), .unset, .unset] [])
  refine own_step (fun _ k => XS.iloadN X0.here hx rfl (hb hby d3_7) rfl k) ?_
  show own_Wp p e below _ s₁ (mkF m 8 #[.val (.int (0 : Int32)), .val (.int (4 : Int32)), .unset, .unset] [(.int (0 : Int32))])
  refine own_step (fun _ k => XS.iloadN X0.here hx rfl (hb hby d3_8) rfl k) ?_
  show own_Wp p e below _ s₁ (mkF m 9 #[.val (.int (0 : Int32)), .val (.int (4 : Int32)), .unset, .unset] [(.int (4 : Int32)), (.int (0 : Int32))])
  obtain ⟨_, T1, L1, X1, hQ1, st1⟩ := own_callS X0 hx hZ hown (hw _ (List.mem_of_getElem? (i := 20) rfl)) (hw _ (List.mem_of_getElem? (i := 21) rfl)) (hw _ (List.mem_of_getElem? (i := 22) rfl)) (hw _ (List.mem_of_getElem? (i := 23) rfl)) (by decide) (rm4_18 l Z a0 hw hA [] h0 n0 O0) (W := 0) (by decide) (by decide) [(.int (0 : Int32)), (.int (4 : Int32))] rfl (lenOf pd5 rfl) (Ls := #[.val (.int (0 : Int32)), .val (.int (4 : Int32)), .unset, .unset]) (by rw [hml]; rfl) (rest := []) (Nat.le_of_eq rfl) (hb hby d3_9) e0 (by decide) (by decide)
  refine st1 _ ?_
  obtain ⟨rfl, N1q, e1⟩ := hQ1
  have N1 := Fr.app (Fr.nil n0) N1q
  show own_Wp p e below _ T1 (mkF m 12 #[.val (.int (0 : Int32)), .val (.int (4 : Int32)), .unset, .unset] [(.int (0 : Int32))])
  refine own_step (fun _ k => XS.istoreN X1.here hx rfl (hb hby d3_12) rfl (l' := #[.val (.int (0 : Int32)), .val (.int (4 : Int32)), .val (.int (0 : Int32)), .unset]) rfl k) ?_
  show own_Wp p e below _ T1 (mkF m 13 #[.val (.int (0 : Int32)), .val (.int (4 : Int32)), .val (.int (0 : Int32)), .unset] [])
  refine own_step (fun _ k => XS.iloadN X1.here hx rfl (hb hby d3_13) rfl k) ?_
  show own_Wp p e below _ T1 (mkF m 14 #[.val (.int (0 : Int32)), .val (.int (4 : Int32)), .val (.int (0 : Int32)), .unset] [(.int (0 : Int32))])
  refine own_step (fun _ k => XS.iloadN X1.here hx rfl (hb hby d3_14) rfl k) ?_
  show own_Wp p e below _ T1 (mkF m 15 #[.val (.int (0 : Int32)), .val (.int (4 : Int32)), .val (.int (0 : Int32)), .unset] [(.int (4 : Int32)), (.int (0 : Int32))])
  obtain ⟨_, T2, L2, X2, hQ2, st2⟩ := own_callS X1 hx hZ hown (hw _ (List.mem_of_getElem? (i := 24) rfl)) (hw _ (List.mem_of_getElem? (i := 25) rfl)) (hw _ (List.mem_of_getElem? (i := 22) rfl)) (hw _ (List.mem_of_getElem? (i := 26) rfl)) (by decide) (rm5_19 l Z a0 hw hA [] h0 n0 O0) (W := 0) (by decide) (by decide) [(.int (0 : Int32)), (.int (4 : Int32))] rfl (lenOf pd5 rfl) (Ls := #[.val (.int (0 : Int32)), .val (.int (4 : Int32)), .val (.int (0 : Int32)), .unset]) (by rw [hml]; rfl) (rest := []) (Nat.le_of_eq rfl) (hb hby d3_15) e1 (by decide) (by decide)
  refine st2 _ ?_
  obtain ⟨rfl, N2q, e2⟩ := hQ2
  have N2 := Fr.app N1 N2q
  show own_Wp p e below _ T2 (mkF m 18 #[.val (.int (0 : Int32)), .val (.int (4 : Int32)), .val (.int (0 : Int32)), .unset] [(.int (4 : Int32))])
  refine own_step (fun _ k => XS.istoreN X2.here hx rfl (hb hby d3_18) rfl (l' := #[.val (.int (0 : Int32)), .val (.int (4 : Int32)), .val (.int (0 : Int32)), .val (.int (4 : Int32))]) rfl k) ?_
  show own_Wp p e below _ T2 (mkF m 19 #[.val (.int (0 : Int32)), .val (.int (4 : Int32)), .val (.int (0 : Int32)), .val (.int (4 : Int32))] [])
  refine own_step (fun _ k => XS.iloadN X2.here hx rfl (hb hby d3_19) rfl k) ?_
  show own_Wp p e below _ T2 (mkF m 20 #[.val (.int (0 : Int32)), .val (.int (4 : Int32)), .val (.int (0 : Int32)), .val (.int (4 : Int32))] [(.int (0 : Int32))])
  refine own_step (fun _ k => XS.ifNo X2.here hx rfl (hb hby d3_20) rfl (by decide) k) ?_
  show own_Wp p e below _ T2 (mkF m 23 #[.val (.int (0 : Int32)), .val (.int (4 : Int32)), .val (.int (0 : Int32)), .val (.int (4 : Int32))] [])
  refine own_step (fun _ k => XS.iloadN X2.here hx rfl (hb hby d3_23) rfl k) ?_
  show own_Wp p e below _ T2 (mkF m 24 #[.val (.int (0 : Int32)), .val (.int (4 : Int32)), .val (.int (0 : Int32)), .val (.int (4 : Int32))] [(.int (4 : Int32))])
  refine own_step (fun _ k => XS.iconst X2.here hx rfl (hb hby d3_24) k) ?_
  show own_Wp p e below _ T2 (mkF m 25 #[.val (.int (0 : Int32)), .val (.int (4 : Int32)), .val (.int (0 : Int32)), .val (.int (4 : Int32))] [(.int (2 : Int32)), (.int (4 : Int32))])
  refine own_step (fun _ k => XS.icmpNo X2.here hx rfl (hb hby d3_25) rfl (by decide) k) ?_
  show own_Wp p e below _ T2 (mkF m 28 #[.val (.int (0 : Int32)), .val (.int (4 : Int32)), .val (.int (0 : Int32)), .val (.int (4 : Int32))] [])
  refine own_step (fun _ k => XS.iloadN X2.here hx rfl (hb hby d3_28) rfl k) ?_
  show own_Wp p e below _ T2 (mkF m 29 #[.val (.int (0 : Int32)), .val (.int (4 : Int32)), .val (.int (0 : Int32)), .val (.int (4 : Int32))] [(.int (4 : Int32))])
  refine own_step (fun _ k => XS.iconst X2.here hx rfl (hb hby d3_29) k) ?_
  show own_Wp p e below _ T2 (mkF m 30 #[.val (.int (0 : Int32)), .val (.int (4 : Int32)), .val (.int (0 : Int32)), .val (.int (4 : Int32))] [(.int (4 : Int32)), (.int (4 : Int32))])
  refine own_step (fun _ k => XS.icmpNo X2.here hx rfl (hb hby d3_30) rfl (by decide) k) ?_
  show own_Wp p e below _ T2 (mkF m 33 #[.val (.int (0 : Int32)), .val (.int (4 : Int32)), .val (.int (0 : Int32)), .val (.int (4 : Int32))] [])
  refine own_step (fun _ k => XS.iconst X2.here hx rfl (hb hby d3_33) k) ?_
  show own_Wp p e below _ T2 (mkF m 34 #[.val (.int (0 : Int32)), .val (.int (4 : Int32)), .val (.int (0 : Int32)), .val (.int (4 : Int32))] [(.int (1 : Int32))])
  refine own_step (fun _ k => XS.goto X2.here hx rfl (pc0 := 34) (pc' := 38) rfl (hb hby d3_34) (by decide) (by decide) k) ?_
  show own_Wp p e below _ T2 (mkF m 38 #[.val (.int (0 : Int32)), .val (.int (4 : Int32)), .val (.int (0 : Int32)), .val (.int (4 : Int32))] [(.int (1 : Int32))])
  exact own_retN X2 hx (t := .boolean) hret (by simp) hlk (hb hby d3_38) (by decide) (by decide) (by rw [e2]; exact ⟨rfl, N2, rfl⟩)

set_option maxRecDepth 65536 in
set_option maxHeartbeats 40000000 in
theorem rm1_21 (l : Launch) (Z : State) (a0 : Array Value) (hw : ∀ d ∈ tables_1, d.before a0 Z = true) (hA : ∀ d ∈ own_flat narrow_1, d.value a0 Z none Z [] = some true) (ws : List Jvm.Cond) (h0 : Heap) (n0 : Nat) (O0 : Old Z n0 h0) :
    own_Met l Z (⟨"com/example/pathfare/pathfare/alto/TypeIsCompatibleWithPinLaw", "pick", "(I)Lcom/example/pathfare/pathfare/alto/EndpointAddress$Type;"⟩ : MethodName) (Jvm.Cond.code (⟨"com/example/pathfare/pathfare/alto/TypeIsCompatibleWithPinLaw", "pick", "(I)Lcom/example/pathfare/pathfare/alto/EndpointAddress$Type;"⟩ : MethodName) method_2_code 1 (some (.object "com/example/pathfare/pathfare/alto/EndpointAddress$Type"))) ws ({ frames := 0, cells := 0, slots := 0, locals := 0 } : Room) #[(.int (5 : Int32))] h0 (fun v h L => (v = some (.ref (w4_UDP6 Z)) ∧ Fr n0 L ∧ h = h0)) := by
  refine own_met (own := "com/example/pathfare/pathfare/alto/TypeIsCompatibleWithPinLaw") (plainFor_of_name pn0) rfl ?_
  intro p e s m below meth c s₁ hx hby hml hown hnm hret hlk hZ e0 X0
  refine own_cast (g' := (mkF m 0 #[.val (.int (5 : Int32))] [])) (by first | (simp [entryFrame, mkF, argsToLocals, Value.category]; done) | rfl) ?_
  refine own_step (fun _ k => XS.iloadN X0.here hx rfl (hb hby d1_0) rfl k) ?_
  show own_Wp p e below _ s₁ (mkF m 1 #[.val (.int (5 : Int32))] [(.int (5 : Int32))])
  refine own_step (fun _ k => XS.ifYes X0.here hx rfl (pc0 := 1) (pc' := 8) rfl (hb hby d1_1) rfl (by decide) (by decide) (by decide) k) ?_
  show own_Wp p e below _ s₁ (mkF m 8 #[.val (.int (5 : Int32))] [])
  refine own_step (fun _ k => XS.iloadN X0.here hx rfl (hb hby d1_8) rfl k) ?_
  show own_Wp p e below _ s₁ (mkF m 9 #[.val (.int (5 : Int32))] [(.int (5 : Int32))])
  refine own_step (fun _ k => XS.iconst X0.here hx rfl (hb hby d1_9) k) ?_
  show own_Wp p e below _ s₁ (mkF m 10 #[.val (.int (5 : Int32))] [(.int (1 : Int32)), (.int (5 : Int32))])
  refine own_step (fun _ k => XS.icmpYes X0.here hx rfl (pc0 := 10) (pc' := 17) rfl (hb hby d1_10) rfl (by decide) (by decide) (by decide) k) ?_
  show own_Wp p e below _ s₁ (mkF m 17 #[.val (.int (5 : Int32))] [])
  refine own_step (fun _ k => XS.iloadN X0.here hx rfl (hb hby d1_17) rfl k) ?_
  show own_Wp p e below _ s₁ (mkF m 18 #[.val (.int (5 : Int32))] [(.int (5 : Int32))])
  refine own_step (fun _ k => XS.iconst X0.here hx rfl (hb hby d1_18) k) ?_
  show own_Wp p e below _ s₁ (mkF m 19 #[.val (.int (5 : Int32))] [(.int (2 : Int32)), (.int (5 : Int32))])
  refine own_step (fun _ k => XS.icmpYes X0.here hx rfl (pc0 := 19) (pc' := 26) rfl (hb hby d1_19) rfl (by decide) (by decide) (by decide) k) ?_
  show own_Wp p e below _ s₁ (mkF m 26 #[.val (.int (5 : Int32))] [])
  refine own_step (fun _ k => XS.iloadN X0.here hx rfl (hb hby d1_26) rfl k) ?_
  show own_Wp p e below _ s₁ (mkF m 27 #[.val (.int (5 : Int32))] [(.int (5 : Int32))])
  refine own_step (fun _ k => XS.iconst X0.here hx rfl (hb hby d1_27) k) ?_
  show own_Wp p e below _ s₁ (mkF m 28 #[.val (.int (5 : Int32))] [(.int (3 : Int32)), (.int (5 : Int32))])
  refine own_step (fun _ k => XS.icmpYes X0.here hx rfl (pc0 := 28) (pc' := 35) rfl (hb hby d1_28) rfl (by decide) (by decide) (by decide) k) ?_
  show own_Wp p e below _ s₁ (mkF m 35 #[.val (.int (5 : Int32))] [])
  refine own_step (fun _ k => XS.iloadN X0.here hx rfl (hb hby d1_35) rfl k) ?_
  show own_Wp p e below _ s₁ (mkF m 36 #[.val (.int (5 : Int32))] [(.int (5 : Int32))])
  refine own_step (fun _ k => XS.iconst X0.here hx rfl (hb hby d1_36) k) ?_
  show own_Wp p e below _ s₁ (mkF m 37 #[.val (.int (5 : Int32))] [(.int (4 : Int32)), (.int (5 : Int32))])
  refine own_step (fun _ k => XS.icmpYes X0.here hx rfl (pc0 := 37) (pc' := 44) rfl (hb hby d1_37) rfl (by decide) (by decide) (by decide) k) ?_
  show own_Wp p e below _ s₁ (mkF m 44 #[.val (.int (5 : Int32))] [])
  obtain ⟨T1, X1, e1, st1⟩ := getS2 X0 hx hZ hown (host := "") (Or.inl (hw _ (List.mem_of_getElem? (i := 31) rfl))) Via.refl e0 ((st_w4_UDP6 hw hA).ext O0.2) (g := (mkF m 44 #[.val (.int (5 : Int32))] [])) rfl (hb hby d1_44)
  refine own_step st1 ?_
  show own_Wp p e below _ T1 (mkF m 47 #[.val (.int (5 : Int32))] [(.ref (w4_UDP6 Z))])
  exact own_retA X1 hx hret rfl rfl hlk (hb hby d1_47) (by decide) (by decide) (by rw [e1]; exact ⟨rfl, (Fr.nil n0), rfl⟩)

set_option maxRecDepth 65536 in
set_option maxHeartbeats 40000000 in
theorem rm4_22 (l : Launch) (Z : State) (a0 : Array Value) (hw : ∀ d ∈ tables_1, d.before a0 Z = true) (hA : ∀ d ∈ own_flat narrow_1, d.value a0 Z none Z [] = some true) (ws : List Jvm.Cond) (h0 : Heap) (n0 : Nat) (O0 : Old Z n0 h0) :
    own_Met l Z (⟨"java/lang/Math", "min", "(II)I"⟩ : MethodName) (Jvm.Cond.code (⟨"java/lang/Math", "min", "(II)I"⟩ : MethodName) jdk_29_method_69_code 2 (some .int)) ws ({ frames := 0, cells := 0, slots := 0, locals := 0 } : Room) #[(.int (0 : Int32)), (.int (5 : Int32))] h0 (fun v h L => (v = some (.int (0 : Int32)) ∧ Fr n0 L ∧ h = h0)) := by
  refine own_met (own := "java/lang/Math") (Jvm.Free.JP.mathPlain rfl (by decide +kernel)) rfl ?_
  intro p e s m below meth c s₁ hx hby hml hown hnm hret hlk hZ e0 X0
  refine own_cast (g' := (mkF m 0 #[.val (.int (0 : Int32)), .val (.int (5 : Int32))] [])) (by first | (simp [entryFrame, mkF, argsToLocals, Value.category]; done) | rfl) ?_
  refine own_step (fun _ k => XS.iloadN X0.here hx rfl (hb hby d4_0) rfl k) ?_
  show own_Wp p e below _ s₁ (mkF m 1 #[.val (.int (0 : Int32)), .val (.int (5 : Int32))] [(.int (0 : Int32))])
  refine own_step (fun _ k => XS.iloadN X0.here hx rfl (hb hby d4_1) rfl k) ?_
  show own_Wp p e below _ s₁ (mkF m 2 #[.val (.int (0 : Int32)), .val (.int (5 : Int32))] [(.int (5 : Int32)), (.int (0 : Int32))])
  refine own_step (fun _ k => XS.icmpNo X0.here hx rfl (hb hby d4_2) rfl (by decide) k) ?_
  show own_Wp p e below _ s₁ (mkF m 5 #[.val (.int (0 : Int32)), .val (.int (5 : Int32))] [])
  refine own_step (fun _ k => XS.iloadN X0.here hx rfl (hb hby d4_5) rfl k) ?_
  show own_Wp p e below _ s₁ (mkF m 6 #[.val (.int (0 : Int32)), .val (.int (5 : Int32))] [(.int (0 : Int32))])
  refine own_step (fun _ k => XS.goto X0.here hx rfl (pc0 := 6) (pc' := 10) rfl (hb hby d4_6) (by decide) (by decide) k) ?_
  show own_Wp p e below _ s₁ (mkF m 10 #[.val (.int (0 : Int32)), .val (.int (5 : Int32))] [(.int (0 : Int32))])
  exact own_retI X0 hx hret hlk (hb hby d4_10) (by decide) (by decide) (by rw [e0]; exact ⟨rfl, (Fr.nil n0), rfl⟩)

set_option maxRecDepth 65536 in
set_option maxHeartbeats 40000000 in
theorem rm5_23 (l : Launch) (Z : State) (a0 : Array Value) (hw : ∀ d ∈ tables_1, d.before a0 Z = true) (hA : ∀ d ∈ own_flat narrow_1, d.value a0 Z none Z [] = some true) (ws : List Jvm.Cond) (h0 : Heap) (n0 : Nat) (O0 : Old Z n0 h0) :
    own_Met l Z (⟨"java/lang/Math", "max", "(II)I"⟩ : MethodName) (Jvm.Cond.code (⟨"java/lang/Math", "max", "(II)I"⟩ : MethodName) jdk_29_method_65_code 2 (some .int)) ws ({ frames := 0, cells := 0, slots := 0, locals := 0 } : Room) #[(.int (0 : Int32)), (.int (5 : Int32))] h0 (fun v h L => (v = some (.int (5 : Int32)) ∧ Fr n0 L ∧ h = h0)) := by
  refine own_met (own := "java/lang/Math") (Jvm.Free.JP.mathPlain rfl (by decide +kernel)) rfl ?_
  intro p e s m below meth c s₁ hx hby hml hown hnm hret hlk hZ e0 X0
  refine own_cast (g' := (mkF m 0 #[.val (.int (0 : Int32)), .val (.int (5 : Int32))] [])) (by first | (simp [entryFrame, mkF, argsToLocals, Value.category]; done) | rfl) ?_
  refine own_step (fun _ k => XS.iloadN X0.here hx rfl (hb hby d5_0) rfl k) ?_
  show own_Wp p e below _ s₁ (mkF m 1 #[.val (.int (0 : Int32)), .val (.int (5 : Int32))] [(.int (0 : Int32))])
  refine own_step (fun _ k => XS.iloadN X0.here hx rfl (hb hby d5_1) rfl k) ?_
  show own_Wp p e below _ s₁ (mkF m 2 #[.val (.int (0 : Int32)), .val (.int (5 : Int32))] [(.int (5 : Int32)), (.int (0 : Int32))])
  refine own_step (fun _ k => XS.icmpYes X0.here hx rfl (pc0 := 2) (pc' := 9) rfl (hb hby d5_2) rfl (by decide) (by decide) (by decide) k) ?_
  show own_Wp p e below _ s₁ (mkF m 9 #[.val (.int (0 : Int32)), .val (.int (5 : Int32))] [])
  refine own_step (fun _ k => XS.iloadN X0.here hx rfl (hb hby d5_9) rfl k) ?_
  show own_Wp p e below _ s₁ (mkF m 10 #[.val (.int (0 : Int32)), .val (.int (5 : Int32))] [(.int (5 : Int32))])
  exact own_retI X0 hx hret hlk (hb hby d5_10) (by decide) (by decide) (by rw [e0]; exact ⟨rfl, (Fr.nil n0), rfl⟩)

set_option maxRecDepth 65536 in
set_option maxHeartbeats 40000000 in
theorem rm3_24 (l : Launch) (Z : State) (a0 : Array Value) (hw : ∀ d ∈ tables_1, d.before a0 Z = true) (hA : ∀ d ∈ own_flat narrow_1, d.value a0 Z none Z [] = some true) (ws : List Jvm.Cond) (h0 : Heap) (n0 : Nat) (O0 : Old Z n0 h0) :
    own_Met l Z (⟨"com/example/pathfare/pathfare/alto/TypeIsCompatibleWithPinLaw", "expected", "(II)Z"⟩ : MethodName) (Jvm.Cond.code (⟨"com/example/pathfare/pathfare/alto/TypeIsCompatibleWithPinLaw", "expected", "(II)Z"⟩ : MethodName) method_3_code 4 (some .boolean)) ws ({ frames := 1, cells := 0, slots := 0, locals := 13 } : Room) #[(.int (0 : Int32)), (.int (5 : Int32))] h0 (fun v h L => (v = some (.int (0 : Int32)) ∧ Fr n0 L ∧ h = h0)) := by
  refine own_met (own := "com/example/pathfare/pathfare/alto/TypeIsCompatibleWithPinLaw") (plainFor_of_name pn0) rfl ?_
  intro p e s m below meth c s₁ hx hby hml hown hnm hret hlk hZ e0 X0
  refine own_cast (g' := (mkF m 0 #[.val (.int (0 : Int32)), .val (.int (5 : Int32)), .unset, .unset] [])) (by first | (simp [entryFrame, mkF, argsToLocals, Value.category]; done) | rfl) ?_
  refine own_step (fun _ k => XS.iloadN X0.here hx rfl (hb hby d3_0) rfl k) ?_
  show own_Wp p e below _ s₁ (mkF m 1 #[.val (.int (0 : Int32)), .val (.int (5 : Int32)), .unset, .unset] [(.int (0 : Int32))])
  refine own_step (fun _ k => XS.iloadN X0.here hx rfl (hb hby d3_1) rfl k) ?_
  show own_Wp p e below _ s₁ (mkF m 2 #[.val (.int (0 : Int32)), .val (.int (5 : Int32)), .unset, .unset] [(.int (5 : Int32)), (.int (0 : Int32))])
  refine own_step (fun _ k => XS.icmpYes X0.here hx rfl (pc0 := 2) (pc' := 7) rfl (hb hby d3_2) rfl (by decide) (by decide) (by decide) k) ?_
  show own_Wp p e below _ s₁ (mkF m 7 #[.val (.int (0 : Int32)), .val (.int (5 : Int32)), .unset, .unset] [])
  refine own_step (fun _ k => XS.iloadN X0.here hx rfl (hb hby d3_7) rfl k) ?_
  show own_Wp p e below _ s₁ (mkF m 8 #[.val (.int (0 : Int32)), .val (.int (5 : Int32)), .unset, .unset] [(.int (0 : Int32))])
  refine own_step (fun _ k => XS.iloadN X0.here hx rfl (hb hby d3_8) rfl k) ?_
  show own_Wp p e below _ s₁ (mkF m 9 #[.val (.int (0 : Int32)), .val (.int (5 : Int32)), .unset, .unset] [(.int (5 : Int32)), (.int (0 : Int32))])
  obtain ⟨_, T1, L1, X1, hQ1, st1⟩ := own_callS X0 hx hZ hown (hw _ (List.mem_of_getElem? (i := 20) rfl)) (hw _ (List.mem_of_getElem? (i := 21) rfl)) (hw _ (List.mem_of_getElem? (i := 22) rfl)) (hw _ (List.mem_of_getElem? (i := 23) rfl)) (by decide) (rm4_22 l Z a0 hw hA [] h0 n0 O0) (W := 0) (by decide) (by decide) [(.int (0 : Int32)), (.int (5 : Int32))] rfl (lenOf pd5 rfl) (Ls := #[.val (.int (0 : Int32)), .val (.int (5 : Int32)), .unset, .unset]) (by rw [hml]; rfl) (rest := []) (Nat.le_of_eq rfl) (hb hby d3_9) e0 (by decide) (by decide)
  refine st1 _ ?_
  obtain ⟨rfl, N1q, e1⟩ := hQ1
  have N1 := Fr.app (Fr.nil n0) N1q
  show own_Wp p e below _ T1 (mkF m 12 #[.val (.int (0 : Int32)), .val (.int (5 : Int32)), .unset, .unset] [(.int (0 : Int32))])
  refine own_step (fun _ k => XS.istoreN X1.here hx rfl (hb hby d3_12) rfl (l' := #[.val (.int (0 : Int32)), .val (.int (5 : Int32)), .val (.int (0 : Int32)), .unset]) rfl k) ?_
  show own_Wp p e below _ T1 (mkF m 13 #[.val (.int (0 : Int32)), .val (.int (5 : Int32)), .val (.int (0 : Int32)), .unset] [])
  refine own_step (fun _ k => XS.iloadN X1.here hx rfl (hb hby d3_13) rfl k) ?_
  show own_Wp p e below _ T1 (mkF m 14 #[.val (.int (0 : Int32)), .val (.int (5 : Int32)), .val (.int (0 : Int32)), .unset] [(.int (0 : Int32))])
  refine own_step (fun _ k => XS.iloadN X1.here hx rfl (hb hby d3_14) rfl k) ?_
  show own_Wp p e below _ T1 (mkF m 15 #[.val (.int (0 : Int32)), .val (.int (5 : Int32)), .val (.int (0 : Int32)), .unset] [(.int (5 : Int32)), (.int (0 : Int32))])
  obtain ⟨_, T2, L2, X2, hQ2, st2⟩ := own_callS X1 hx hZ hown (hw _ (List.mem_of_getElem? (i := 24) rfl)) (hw _ (List.mem_of_getElem? (i := 25) rfl)) (hw _ (List.mem_of_getElem? (i := 22) rfl)) (hw _ (List.mem_of_getElem? (i := 26) rfl)) (by decide) (rm5_23 l Z a0 hw hA [] h0 n0 O0) (W := 0) (by decide) (by decide) [(.int (0 : Int32)), (.int (5 : Int32))] rfl (lenOf pd5 rfl) (Ls := #[.val (.int (0 : Int32)), .val (.int (5 : Int32)), .val (.int (0 : Int32)), .unset]) (by rw [hml]; rfl) (rest := []) (Nat.le_of_eq rfl) (hb hby d3_15) e1 (by decide) (by decide)
  refine st2 _ ?_
  obtain ⟨rfl, N2q, e2⟩ := hQ2
  have N2 := Fr.app N1 N2q
  show own_Wp p e below _ T2 (mkF m 18 #[.val (.int (0 : Int32)), .val (.int (5 : Int32)), .val (.int (0 : Int32)), .unset] [(.int (5 : Int32))])
  refine own_step (fun _ k => XS.istoreN X2.here hx rfl (hb hby d3_18) rfl (l' := #[.val (.int (0 : Int32)), .val (.int (5 : Int32)), .val (.int (0 : Int32)), .val (.int (5 : Int32))]) rfl k) ?_
  show own_Wp p e below _ T2 (mkF m 19 #[.val (.int (0 : Int32)), .val (.int (5 : Int32)), .val (.int (0 : Int32)), .val (.int (5 : Int32))] [])
  refine own_step (fun _ k => XS.iloadN X2.here hx rfl (hb hby d3_19) rfl k) ?_
  show own_Wp p e below _ T2 (mkF m 20 #[.val (.int (0 : Int32)), .val (.int (5 : Int32)), .val (.int (0 : Int32)), .val (.int (5 : Int32))] [(.int (0 : Int32))])
  refine own_step (fun _ k => XS.ifNo X2.here hx rfl (hb hby d3_20) rfl (by decide) k) ?_
  show own_Wp p e below _ T2 (mkF m 23 #[.val (.int (0 : Int32)), .val (.int (5 : Int32)), .val (.int (0 : Int32)), .val (.int (5 : Int32))] [])
  refine own_step (fun _ k => XS.iloadN X2.here hx rfl (hb hby d3_23) rfl k) ?_
  show own_Wp p e below _ T2 (mkF m 24 #[.val (.int (0 : Int32)), .val (.int (5 : Int32)), .val (.int (0 : Int32)), .val (.int (5 : Int32))] [(.int (5 : Int32))])
  refine own_step (fun _ k => XS.iconst X2.here hx rfl (hb hby d3_24) k) ?_
  show own_Wp p e below _ T2 (mkF m 25 #[.val (.int (0 : Int32)), .val (.int (5 : Int32)), .val (.int (0 : Int32)), .val (.int (5 : Int32))] [(.int (2 : Int32)), (.int (5 : Int32))])
  refine own_step (fun _ k => XS.icmpNo X2.here hx rfl (hb hby d3_25) rfl (by decide) k) ?_
  show own_Wp p e below _ T2 (mkF m 28 #[.val (.int (0 : Int32)), .val (.int (5 : Int32)), .val (.int (0 : Int32)), .val (.int (5 : Int32))] [])
  refine own_step (fun _ k => XS.iloadN X2.here hx rfl (hb hby d3_28) rfl k) ?_
  show own_Wp p e below _ T2 (mkF m 29 #[.val (.int (0 : Int32)), .val (.int (5 : Int32)), .val (.int (0 : Int32)), .val (.int (5 : Int32))] [(.int (5 : Int32))])
  refine own_step (fun _ k => XS.iconst X2.here hx rfl (hb hby d3_29) k) ?_
  show own_Wp p e below _ T2 (mkF m 30 #[.val (.int (0 : Int32)), .val (.int (5 : Int32)), .val (.int (0 : Int32)), .val (.int (5 : Int32))] [(.int (4 : Int32)), (.int (5 : Int32))])
  refine own_step (fun _ k => XS.icmpYes X2.here hx rfl (pc0 := 30) (pc' := 37) rfl (hb hby d3_30) rfl (by decide) (by decide) (by decide) k) ?_
  show own_Wp p e below _ T2 (mkF m 37 #[.val (.int (0 : Int32)), .val (.int (5 : Int32)), .val (.int (0 : Int32)), .val (.int (5 : Int32))] [])
  refine own_step (fun _ k => XS.iconst X2.here hx rfl (hb hby d3_37) k) ?_
  show own_Wp p e below _ T2 (mkF m 38 #[.val (.int (0 : Int32)), .val (.int (5 : Int32)), .val (.int (0 : Int32)), .val (.int (5 : Int32))] [(.int (0 : Int32))])
  exact own_retN X2 hx (t := .boolean) hret (by simp) hlk (hb hby d3_38) (by decide) (by decide) (by rw [e2]; exact ⟨rfl, N2, rfl⟩)

set_option maxRecDepth 65536 in
set_option maxHeartbeats 40000000 in
theorem rm2_25 (l : Launch) (Z : State) (a0 : Array Value) (hw : ∀ d ∈ tables_1, d.before a0 Z = true) (hA : ∀ d ∈ own_flat narrow_1, d.value a0 Z none Z [] = some true) (ws : List Jvm.Cond) (x1 : Addr) (x2 : Addr) (h0 : Heap) (n0 : Nat) (O0 : Old Z n0 h0) (D0 : Fld Z Z.heap x1 "com/example/pathfare/pathfare/alto/EndpointAddress$Type" "ipv4" "Z" (.int (0 : Int32))) (D1 : Fld Z Z.heap x2 "com/example/pathfare/pathfare/alto/EndpointAddress$Type" "ipv4" "Z" (.int (1 : Int32))) :
    own_Met l Z (⟨"com/example/pathfare/pathfare/alto/EndpointAddress$Type", "isCompatibleWith", "(Lcom/example/pathfare/pathfare/alto/EndpointAddress$Type;)Z"⟩ : MethodName) (Jvm.Cond.code (⟨"com/example/pathfare/pathfare/alto/EndpointAddress$Type", "isCompatibleWith", "(Lcom/example/pathfare/pathfare/alto/EndpointAddress$Type;)Z"⟩ : MethodName) prog_3_method_6_code 2 (some .boolean)) ws ({ frames := 0, cells := 0, slots := 0, locals := 0 } : Room) #[(.ref x1), (.ref x2)] h0 (fun v h L => (v = some (.int (0 : Int32)) ∧ Fr n0 L ∧ h = h0)) := by
  refine own_met (own := "com/example/pathfare/pathfare/alto/EndpointAddress$Type") (plainFor_of_name pn2) rfl ?_
  intro p e s m below meth c s₁ hx hby hml hown hnm hret hlk hZ e0 X0
  refine own_cast (g' := (mkF m 0 #[.val (.ref x1), .val (.ref x2)] [])) (by first | (simp [entryFrame, mkF, argsToLocals, Value.category]; done) | rfl) ?_
  refine own_step (fun _ k => XS.aloadN X0.here hx rfl (hb hby d2_0) rfl rfl k) ?_
  show own_Wp p e below _ s₁ (mkF m 1 #[.val (.ref x1), .val (.ref x2)] [(.ref x1)])
  obtain ⟨T1, X1, e1, st1⟩ := getF X0 hx hZ hown (host := "") (Or.inl (hw _ (List.mem_of_getElem? (i := 15) rfl))) Via.refl e0 (D0.ext O0.2) (g := (mkF m 1 #[.val (.ref x1), .val (.ref x2)] [(.ref x1)])) rfl rfl (hb hby d2_1)
  refine own_step st1 ?_
  show own_Wp p e below _ T1 (mkF m 4 #[.val (.ref x1), .val (.ref x2)] [(.int (0 : Int32))])
  refine own_step (fun _ k => XS.aloadN X1.here hx rfl (hb hby d2_4) rfl rfl k) ?_
  show own_Wp p e below _ T1 (mkF m 5 #[.val (.ref x1), .val (.ref x2)] [(.ref x2), (.int (0 : Int32))])
  obtain ⟨T2, X2, e2, st2⟩ := getF X1 hx hZ hown (host := "") (Or.inl (hw _ (List.mem_of_getElem? (i := 15) rfl))) Via.refl e1 (D1.ext O0.2) (g := (mkF m 5 #[.val (.ref x1), .val (.ref x2)] [(.ref x2), (.int (0 : Int32))])) rfl rfl (hb hby d2_5)
  refine own_step st2 ?_
  show own_Wp p e below _ T2 (mkF m 8 #[.val (.ref x1), .val (.ref x2)] [(.int (1 : Int32)), (.int (0 : Int32))])
  refine own_step (fun _ k => XS.icmpYes X2.here hx rfl (pc0 := 8) (pc' := 34) rfl (hb hby d2_8) rfl (by decide) (by decide) (by decide) k) ?_
  show own_Wp p e below _ T2 (mkF m 34 #[.val (.ref x1), .val (.ref x2)] [])
  refine own_step (fun _ k => XS.iconst X2.here hx rfl (hb hby d2_34) k) ?_
  show own_Wp p e below _ T2 (mkF m 35 #[.val (.ref x1), .val (.ref x2)] [(.int (0 : Int32))])
  exact own_retN X2 hx (t := .boolean) hret (by simp) hlk (hb hby d2_35) (by decide) (by decide) (by rw [e2]; exact ⟨rfl, (Fr.nil n0), rfl⟩)

set_option maxRecDepth 65536 in
set_option maxHeartbeats 40000000 in
theorem rm4_26 (l : Launch) (Z : State) (a0 : Array Value) (hw : ∀ d ∈ tables_1, d.before a0 Z = true) (hA : ∀ d ∈ own_flat narrow_1, d.value a0 Z none Z [] = some true) (ws : List Jvm.Cond) (h0 : Heap) (n0 : Nat) (O0 : Old Z n0 h0) :
    own_Met l Z (⟨"java/lang/Math", "min", "(II)I"⟩ : MethodName) (Jvm.Cond.code (⟨"java/lang/Math", "min", "(II)I"⟩ : MethodName) jdk_29_method_69_code 2 (some .int)) ws ({ frames := 0, cells := 0, slots := 0, locals := 0 } : Room) #[(.int (1 : Int32)), (.int (0 : Int32))] h0 (fun v h L => (v = some (.int (0 : Int32)) ∧ Fr n0 L ∧ h = h0)) := by
  refine own_met (own := "java/lang/Math") (Jvm.Free.JP.mathPlain rfl (by decide +kernel)) rfl ?_
  intro p e s m below meth c s₁ hx hby hml hown hnm hret hlk hZ e0 X0
  refine own_cast (g' := (mkF m 0 #[.val (.int (1 : Int32)), .val (.int (0 : Int32))] [])) (by first | (simp [entryFrame, mkF, argsToLocals, Value.category]; done) | rfl) ?_
  refine own_step (fun _ k => XS.iloadN X0.here hx rfl (hb hby d4_0) rfl k) ?_
  show own_Wp p e below _ s₁ (mkF m 1 #[.val (.int (1 : Int32)), .val (.int (0 : Int32))] [(.int (1 : Int32))])
  refine own_step (fun _ k => XS.iloadN X0.here hx rfl (hb hby d4_1) rfl k) ?_
  show own_Wp p e below _ s₁ (mkF m 2 #[.val (.int (1 : Int32)), .val (.int (0 : Int32))] [(.int (0 : Int32)), (.int (1 : Int32))])
  refine own_step (fun _ k => XS.icmpYes X0.here hx rfl (pc0 := 2) (pc' := 9) rfl (hb hby d4_2) rfl (by decide) (by decide) (by decide) k) ?_
  show own_Wp p e below _ s₁ (mkF m 9 #[.val (.int (1 : Int32)), .val (.int (0 : Int32))] [])
  refine own_step (fun _ k => XS.iloadN X0.here hx rfl (hb hby d4_9) rfl k) ?_
  show own_Wp p e below _ s₁ (mkF m 10 #[.val (.int (1 : Int32)), .val (.int (0 : Int32))] [(.int (0 : Int32))])
  exact own_retI X0 hx hret hlk (hb hby d4_10) (by decide) (by decide) (by rw [e0]; exact ⟨rfl, (Fr.nil n0), rfl⟩)

set_option maxRecDepth 65536 in
set_option maxHeartbeats 40000000 in
theorem rm5_27 (l : Launch) (Z : State) (a0 : Array Value) (hw : ∀ d ∈ tables_1, d.before a0 Z = true) (hA : ∀ d ∈ own_flat narrow_1, d.value a0 Z none Z [] = some true) (ws : List Jvm.Cond) (h0 : Heap) (n0 : Nat) (O0 : Old Z n0 h0) :
    own_Met l Z (⟨"java/lang/Math", "max", "(II)I"⟩ : MethodName) (Jvm.Cond.code (⟨"java/lang/Math", "max", "(II)I"⟩ : MethodName) jdk_29_method_65_code 2 (some .int)) ws ({ frames := 0, cells := 0, slots := 0, locals := 0 } : Room) #[(.int (1 : Int32)), (.int (0 : Int32))] h0 (fun v h L => (v = some (.int (1 : Int32)) ∧ Fr n0 L ∧ h = h0)) := by
  refine own_met (own := "java/lang/Math") (Jvm.Free.JP.mathPlain rfl (by decide +kernel)) rfl ?_
  intro p e s m below meth c s₁ hx hby hml hown hnm hret hlk hZ e0 X0
  refine own_cast (g' := (mkF m 0 #[.val (.int (1 : Int32)), .val (.int (0 : Int32))] [])) (by first | (simp [entryFrame, mkF, argsToLocals, Value.category]; done) | rfl) ?_
  refine own_step (fun _ k => XS.iloadN X0.here hx rfl (hb hby d5_0) rfl k) ?_
  show own_Wp p e below _ s₁ (mkF m 1 #[.val (.int (1 : Int32)), .val (.int (0 : Int32))] [(.int (1 : Int32))])
  refine own_step (fun _ k => XS.iloadN X0.here hx rfl (hb hby d5_1) rfl k) ?_
  show own_Wp p e below _ s₁ (mkF m 2 #[.val (.int (1 : Int32)), .val (.int (0 : Int32))] [(.int (0 : Int32)), (.int (1 : Int32))])
  refine own_step (fun _ k => XS.icmpNo X0.here hx rfl (hb hby d5_2) rfl (by decide) k) ?_
  show own_Wp p e below _ s₁ (mkF m 5 #[.val (.int (1 : Int32)), .val (.int (0 : Int32))] [])
  refine own_step (fun _ k => XS.iloadN X0.here hx rfl (hb hby d5_5) rfl k) ?_
  show own_Wp p e below _ s₁ (mkF m 6 #[.val (.int (1 : Int32)), .val (.int (0 : Int32))] [(.int (1 : Int32))])
  refine own_step (fun _ k => XS.goto X0.here hx rfl (pc0 := 6) (pc' := 10) rfl (hb hby d5_6) (by decide) (by decide) k) ?_
  show own_Wp p e below _ s₁ (mkF m 10 #[.val (.int (1 : Int32)), .val (.int (0 : Int32))] [(.int (1 : Int32))])
  exact own_retI X0 hx hret hlk (hb hby d5_10) (by decide) (by decide) (by rw [e0]; exact ⟨rfl, (Fr.nil n0), rfl⟩)

set_option maxRecDepth 65536 in
set_option maxHeartbeats 40000000 in
theorem rm3_28 (l : Launch) (Z : State) (a0 : Array Value) (hw : ∀ d ∈ tables_1, d.before a0 Z = true) (hA : ∀ d ∈ own_flat narrow_1, d.value a0 Z none Z [] = some true) (ws : List Jvm.Cond) (h0 : Heap) (n0 : Nat) (O0 : Old Z n0 h0) :
    own_Met l Z (⟨"com/example/pathfare/pathfare/alto/TypeIsCompatibleWithPinLaw", "expected", "(II)Z"⟩ : MethodName) (Jvm.Cond.code (⟨"com/example/pathfare/pathfare/alto/TypeIsCompatibleWithPinLaw", "expected", "(II)Z"⟩ : MethodName) method_3_code 4 (some .boolean)) ws ({ frames := 1, cells := 0, slots := 0, locals := 13 } : Room) #[(.int (1 : Int32)), (.int (0 : Int32))] h0 (fun v h L => (v = some (.int (0 : Int32)) ∧ Fr n0 L ∧ h = h0)) := by
  refine own_met (own := "com/example/pathfare/pathfare/alto/TypeIsCompatibleWithPinLaw") (plainFor_of_name pn0) rfl ?_
  intro p e s m below meth c s₁ hx hby hml hown hnm hret hlk hZ e0 X0
  refine own_cast (g' := (mkF m 0 #[.val (.int (1 : Int32)), .val (.int (0 : Int32)), .unset, .unset] [])) (by first | (simp [entryFrame, mkF, argsToLocals, Value.category]; done) | rfl) ?_
  refine own_step (fun _ k => XS.iloadN X0.here hx rfl (hb hby d3_0) rfl k) ?_
  show own_Wp p e below _ s₁ (mkF m 1 #[.val (.int (1 : Int32)), .val (.int (0 : Int32)), .unset, .unset] [(.int (1 : Int32))])
  refine own_step (fun _ k => XS.iloadN X0.here hx rfl (hb hby d3_1) rfl k) ?_
  show own_Wp p e below _ s₁ (mkF m 2 #[.val (.int (1 : Int32)), .val (.int (0 : Int32)), .unset, .unset] [(.int (0 : Int32)), (.int (1 : Int32))])
  refine own_step (fun _ k => XS.icmpYes X0.here hx rfl (pc0 := 2) (pc' := 7) rfl (hb hby d3_2) rfl (by decide) (by decide) (by decide) k) ?_
  show own_Wp p e below _ s₁ (mkF m 7 #[.val (.int (1 : Int32)), .val (.int (0 : Int32)), .unset, .unset] [])
  refine own_step (fun _ k => XS.iloadN X0.here hx rfl (hb hby d3_7) rfl k) ?_
  show own_Wp p e below _ s₁ (mkF m 8 #[.val (.int (1 : Int32)), .val (.int (0 : Int32)), .unset, .unset] [(.int (1 : Int32))])
  refine own_step (fun _ k => XS.iloadN X0.here hx rfl (hb hby d3_8) rfl k) ?_
  show own_Wp p e below _ s₁ (mkF m 9 #[.val (.int (1 : Int32)), .val (.int (0 : Int32)), .unset, .unset] [(.int (0 : Int32)), (.int (1 : Int32))])
  obtain ⟨_, T1, L1, X1, hQ1, st1⟩ := own_callS X0 hx hZ hown (hw _ (List.mem_of_getElem? (i := 20) rfl)) (hw _ (List.mem_of_getElem? (i := 21) rfl)) (hw _ (List.mem_of_getElem? (i := 22) rfl)) (hw _ (List.mem_of_getElem? (i := 23) rfl)) (by decide) (rm4_26 l Z a0 hw hA [] h0 n0 O0) (W := 0) (by decide) (by decide) [(.int (1 : Int32)), (.int (0 : Int32))] rfl (lenOf pd5 rfl) (Ls := #[.val (.int (1 : Int32)), .val (.int (0 : Int32)), .unset, .unset]) (by rw [hml]; rfl) (rest := []) (Nat.le_of_eq rfl) (hb hby d3_9) e0 (by decide) (by decide)
  refine st1 _ ?_
  obtain ⟨rfl, N1q, e1⟩ := hQ1
  have N1 := Fr.app (Fr.nil n0) N1q
  show own_Wp p e below _ T1 (mkF m 12 #[.val (.int (1 : Int32)), .val (.int (0 : Int32)), .unset, .unset] [(.int (0 : Int32))])
  refine own_step (fun _ k => XS.istoreN X1.here hx rfl (hb hby d3_12) rfl (l' := #[.val (.int (1 : Int32)), .val (.int (0 : Int32)), .val (.int (0 : Int32)), .unset]) rfl k) ?_
  show own_Wp p e below _ T1 (mkF m 13 #[.val (.int (1 : Int32)), .val (.int (0 : Int32)), .val (.int (0 : Int32)), .unset] [])
  refine own_step (fun _ k => XS.iloadN X1.here hx rfl (hb hby d3_13) rfl k) ?_
  show own_Wp p e below _ T1 (mkF m 14 #[.val (.int (1 : Int32)), .val (.int (0 : Int32)), .val (.int (0 : Int32)), .unset] [(.int (1 : Int32))])
  refine own_step (fun _ k => XS.iloadN X1.here hx rfl (hb hby d3_14) rfl k) ?_
  show own_Wp p e below _ T1 (mkF m 15 #[.val (.int (1 : Int32)), .val (.int (0 : Int32)), .val (.int (0 : Int32)), .unset] [(.int (0 : Int32)), (.int (1 : Int32))])
  obtain ⟨_, T2, L2, X2, hQ2, st2⟩ := own_callS X1 hx hZ hown (hw _ (List.mem_of_getElem? (i := 24) rfl)) (hw _ (List.mem_of_getElem? (i := 25) rfl)) (hw _ (List.mem_of_getElem? (i := 22) rfl)) (hw _ (List.mem_of_getElem? (i := 26) rfl)) (by decide) (rm5_27 l Z a0 hw hA [] h0 n0 O0) (W := 0) (by decide) (by decide) [(.int (1 : Int32)), (.int (0 : Int32))] rfl (lenOf pd5 rfl) (Ls := #[.val (.int (1 : Int32)), .val (.int (0 : Int32)), .val (.int (0 : Int32)), .unset]) (by rw [hml]; rfl) (rest := []) (Nat.le_of_eq rfl) (hb hby d3_15) e1 (by decide) (by decide)
  refine st2 _ ?_
  obtain ⟨rfl, N2q, e2⟩ := hQ2
  have N2 := Fr.app N1 N2q
  show own_Wp p e below _ T2 (mkF m 18 #[.val (.int (1 : Int32)), .val (.int (0 : Int32)), .val (.int (0 : Int32)), .unset] [(.int (1 : Int32))])
  refine own_step (fun _ k => XS.istoreN X2.here hx rfl (hb hby d3_18) rfl (l' := #[.val (.int (1 : Int32)), .val (.int (0 : Int32)), .val (.int (0 : Int32)), .val (.int (1 : Int32))]) rfl k) ?_
  show own_Wp p e below _ T2 (mkF m 19 #[.val (.int (1 : Int32)), .val (.int (0 : Int32)), .val (.int (0 : Int32)), .val (.int (1 : Int32))] [])
  refine own_step (fun _ k => XS.iloadN X2.here hx rfl (hb hby d3_19) rfl k) ?_
  show own_Wp p e below _ T2 (mkF m 20 #[.val (.int (1 : Int32)), .val (.int (0 : Int32)), .val (.int (0 : Int32)), .val (.int (1 : Int32))] [(.int (0 : Int32))])
  refine own_step (fun _ k => XS.ifNo X2.here hx rfl (hb hby d3_20) rfl (by decide) k) ?_
  show own_Wp p e below _ T2 (mkF m 23 #[.val (.int (1 : Int32)), .val (.int (0 : Int32)), .val (.int (0 : Int32)), .val (.int (1 : Int32))] [])
  refine own_step (fun _ k => XS.iloadN X2.here hx rfl (hb hby d3_23) rfl k) ?_
  show own_Wp p e below _ T2 (mkF m 24 #[.val (.int (1 : Int32)), .val (.int (0 : Int32)), .val (.int (0 : Int32)), .val (.int (1 : Int32))] [(.int (1 : Int32))])
  refine own_step (fun _ k => XS.iconst X2.here hx rfl (hb hby d3_24) k) ?_
  show own_Wp p e below _ T2 (mkF m 25 #[.val (.int (1 : Int32)), .val (.int (0 : Int32)), .val (.int (0 : Int32)), .val (.int (1 : Int32))] [(.int (2 : Int32)), (.int (1 : Int32))])
  refine own_step (fun _ k => XS.icmpNo X2.here hx rfl (hb hby d3_25) rfl (by decide) k) ?_
  show own_Wp p e below _ T2 (mkF m 28 #[.val (.int (1 : Int32)), .val (.int (0 : Int32)), .val (.int (0 : Int32)), .val (.int (1 : Int32))] [])
  refine own_step (fun _ k => XS.iloadN X2.here hx rfl (hb hby d3_28) rfl k) ?_
  show own_Wp p e below _ T2 (mkF m 29 #[.val (.int (1 : Int32)), .val (.int (0 : Int32)), .val (.int (0 : Int32)), .val (.int (1 : Int32))] [(.int (1 : Int32))])
  refine own_step (fun _ k => XS.iconst X2.here hx rfl (hb hby d3_29) k) ?_
  show own_Wp p e below _ T2 (mkF m 30 #[.val (.int (1 : Int32)), .val (.int (0 : Int32)), .val (.int (0 : Int32)), .val (.int (1 : Int32))] [(.int (4 : Int32)), (.int (1 : Int32))])
  refine own_step (fun _ k => XS.icmpYes X2.here hx rfl (pc0 := 30) (pc' := 37) rfl (hb hby d3_30) rfl (by decide) (by decide) (by decide) k) ?_
  show own_Wp p e below _ T2 (mkF m 37 #[.val (.int (1 : Int32)), .val (.int (0 : Int32)), .val (.int (0 : Int32)), .val (.int (1 : Int32))] [])
  refine own_step (fun _ k => XS.iconst X2.here hx rfl (hb hby d3_37) k) ?_
  show own_Wp p e below _ T2 (mkF m 38 #[.val (.int (1 : Int32)), .val (.int (0 : Int32)), .val (.int (0 : Int32)), .val (.int (1 : Int32))] [(.int (0 : Int32))])
  exact own_retN X2 hx (t := .boolean) hret (by simp) hlk (hb hby d3_38) (by decide) (by decide) (by rw [e2]; exact ⟨rfl, N2, rfl⟩)

set_option maxRecDepth 65536 in
set_option maxHeartbeats 40000000 in
theorem rm2_29 (l : Launch) (Z : State) (a0 : Array Value) (hw : ∀ d ∈ tables_1, d.before a0 Z = true) (hA : ∀ d ∈ own_flat narrow_1, d.value a0 Z none Z [] = some true) (ws : List Jvm.Cond) (x1 : Addr) (h0 : Heap) (n0 : Nat) (O0 : Old Z n0 h0) (D0 : Fld Z Z.heap x1 "com/example/pathfare/pathfare/alto/EndpointAddress$Type" "ipv4" "Z" (.int (0 : Int32))) :
    own_Met l Z (⟨"com/example/pathfare/pathfare/alto/EndpointAddress$Type", "isCompatibleWith", "(Lcom/example/pathfare/pathfare/alto/EndpointAddress$Type;)Z"⟩ : MethodName) (Jvm.Cond.code (⟨"com/example/pathfare/pathfare/alto/EndpointAddress$Type", "isCompatibleWith", "(Lcom/example/pathfare/pathfare/alto/EndpointAddress$Type;)Z"⟩ : MethodName) prog_3_method_6_code 2 (some .boolean)) ws ({ frames := 0, cells := 0, slots := 0, locals := 0 } : Room) #[(.ref x1), (.ref x1)] h0 (fun v h L => (v = some (.int (1 : Int32)) ∧ Fr n0 L ∧ h = h0)) := by
  refine own_met (own := "com/example/pathfare/pathfare/alto/EndpointAddress$Type") (plainFor_of_name pn2) rfl ?_
  intro p e s m below meth c s₁ hx hby hml hown hnm hret hlk hZ e0 X0
  refine own_cast (g' := (mkF m 0 #[.val (.ref x1), .val (.ref x1)] [])) (by first | (simp [entryFrame, mkF, argsToLocals, Value.category]; done) | rfl) ?_
  refine own_step (fun _ k => XS.aloadN X0.here hx rfl (hb hby d2_0) rfl rfl k) ?_
  show own_Wp p e below _ s₁ (mkF m 1 #[.val (.ref x1), .val (.ref x1)] [(.ref x1)])
  obtain ⟨T1, X1, e1, st1⟩ := getF X0 hx hZ hown (host := "") (Or.inl (hw _ (List.mem_of_getElem? (i := 15) rfl))) Via.refl e0 (D0.ext O0.2) (g := (mkF m 1 #[.val (.ref x1), .val (.ref x1)] [(.ref x1)])) rfl rfl (hb hby d2_1)
  refine own_step st1 ?_
  show own_Wp p e below _ T1 (mkF m 4 #[.val (.ref x1), .val (.ref x1)] [(.int (0 : Int32))])
  refine own_step (fun _ k => XS.aloadN X1.here hx rfl (hb hby d2_4) rfl rfl k) ?_
  show own_Wp p e below _ T1 (mkF m 5 #[.val (.ref x1), .val (.ref x1)] [(.ref x1), (.int (0 : Int32))])
  obtain ⟨T2, X2, e2, st2⟩ := getF X1 hx hZ hown (host := "") (Or.inl (hw _ (List.mem_of_getElem? (i := 15) rfl))) Via.refl e1 (D0.ext O0.2) (g := (mkF m 5 #[.val (.ref x1), .val (.ref x1)] [(.ref x1), (.int (0 : Int32))])) rfl rfl (hb hby d2_5)
  refine own_step st2 ?_
  show own_Wp p e below _ T2 (mkF m 8 #[.val (.ref x1), .val (.ref x1)] [(.int (0 : Int32)), (.int (0 : Int32))])
  refine own_step (fun _ k => XS.icmpNo X2.here hx rfl (hb hby d2_8) rfl (by decide) k) ?_
  show own_Wp p e below _ T2 (mkF m 11 #[.val (.ref x1), .val (.ref x1)] [])
  refine own_step (fun _ k => XS.aloadN X2.here hx rfl (hb hby d2_11) rfl rfl k) ?_
  show own_Wp p e below _ T2 (mkF m 12 #[.val (.ref x1), .val (.ref x1)] [(.ref x1)])
  refine own_step (fun _ k => XS.aloadN X2.here hx rfl (hb hby d2_12) rfl rfl k) ?_
  show own_Wp p e below _ T2 (mkF m 13 #[.val (.ref x1), .val (.ref x1)] [(.ref x1), (.ref x1)])
  refine own_step (fun _ k => Jvm.RoadKit.acmp (g := (mkF m 13 #[.val (.ref x1), .val (.ref x1)] [(.ref x1), (.ref x1)])) X2 hx rfl rfl rfl (pc0 := 13) (pc' := 30) (same := true) rfl (hb hby d2_13) rfl (decide_eq_true rfl) (by decide) (by decide) k) ?_
  show own_Wp p e below _ T2 (mkF m 30 #[.val (.ref x1), .val (.ref x1)] [])
  refine own_step (fun _ k => XS.iconst X2.here hx rfl (hb hby d2_30) k) ?_
  show own_Wp p e below _ T2 (mkF m 31 #[.val (.ref x1), .val (.ref x1)] [(.int (1 : Int32))])
  refine own_step (fun _ k => XS.goto X2.here hx rfl (pc0 := 31) (pc' := 35) rfl (hb hby d2_31) (by decide) (by decide) k) ?_
  show own_Wp p e below _ T2 (mkF m 35 #[.val (.ref x1), .val (.ref x1)] [(.int (1 : Int32))])
  exact own_retN X2 hx (t := .boolean) hret (by simp) hlk (hb hby d2_35) (by decide) (by decide) (by rw [e2]; exact ⟨rfl, (Fr.nil n0), rfl⟩)

set_option maxRecDepth 65536 in
set_option maxHeartbeats 40000000 in
theorem rm3_30 (l : Launch) (Z : State) (a0 : Array Value) (hw : ∀ d ∈ tables_1, d.before a0 Z = true) (hA : ∀ d ∈ own_flat narrow_1, d.value a0 Z none Z [] = some true) (ws : List Jvm.Cond) (h0 : Heap) (n0 : Nat) (O0 : Old Z n0 h0) :
    own_Met l Z (⟨"com/example/pathfare/pathfare/alto/TypeIsCompatibleWithPinLaw", "expected", "(II)Z"⟩ : MethodName) (Jvm.Cond.code (⟨"com/example/pathfare/pathfare/alto/TypeIsCompatibleWithPinLaw", "expected", "(II)Z"⟩ : MethodName) method_3_code 4 (some .boolean)) ws ({ frames := 0, cells := 0, slots := 0, locals := 0 } : Room) #[(.int (1 : Int32)), (.int (1 : Int32))] h0 (fun v h L => (v = some (.int (1 : Int32)) ∧ Fr n0 L ∧ h = h0)) := by
  refine own_met (own := "com/example/pathfare/pathfare/alto/TypeIsCompatibleWithPinLaw") (plainFor_of_name pn0) rfl ?_
  intro p e s m below meth c s₁ hx hby hml hown hnm hret hlk hZ e0 X0
  refine own_cast (g' := (mkF m 0 #[.val (.int (1 : Int32)), .val (.int (1 : Int32)), .unset, .unset] [])) (by first | (simp [entryFrame, mkF, argsToLocals, Value.category]; done) | rfl) ?_
  refine own_step (fun _ k => XS.iloadN X0.here hx rfl (hb hby d3_0) rfl k) ?_
  show own_Wp p e below _ s₁ (mkF m 1 #[.val (.int (1 : Int32)), .val (.int (1 : Int32)), .unset, .unset] [(.int (1 : Int32))])
  refine own_step (fun _ k => XS.iloadN X0.here hx rfl (hb hby d3_1) rfl k) ?_
  show own_Wp p e below _ s₁ (mkF m 2 #[.val (.int (1 : Int32)), .val (.int (1 : Int32)), .unset, .unset] [(.int (1 : Int32)), (.int (1 : Int32))])
  refine own_step (fun _ k => XS.icmpNo X0.here hx rfl (hb hby d3_2) rfl (by decide) k) ?_
  show own_Wp p e below _ s₁ (mkF m 5 #[.val (.int (1 : Int32)), .val (.int (1 : Int32)), .unset, .unset] [])
  refine own_step (fun _ k => XS.iconst X0.here hx rfl (hb hby d3_5) k) ?_
  show own_Wp p e below _ s₁ (mkF m 6 #[.val (.int (1 : Int32)), .val (.int (1 : Int32)), .unset, .unset] [(.int (1 : Int32))])
  exact own_retN X0 hx (t := .boolean) hret (by simp) hlk (hb hby d3_6) (by decide) (by decide) (by rw [e0]; exact ⟨rfl, (Fr.nil n0), rfl⟩)

set_option maxRecDepth 65536 in
set_option maxHeartbeats 40000000 in
theorem rm4_31 (l : Launch) (Z : State) (a0 : Array Value) (hw : ∀ d ∈ tables_1, d.before a0 Z = true) (hA : ∀ d ∈ own_flat narrow_1, d.value a0 Z none Z [] = some true) (ws : List Jvm.Cond) (h0 : Heap) (n0 : Nat) (O0 : Old Z n0 h0) :
    own_Met l Z (⟨"java/lang/Math", "min", "(II)I"⟩ : MethodName) (Jvm.Cond.code (⟨"java/lang/Math", "min", "(II)I"⟩ : MethodName) jdk_29_method_69_code 2 (some .int)) ws ({ frames := 0, cells := 0, slots := 0, locals := 0 } : Room) #[(.int (1 : Int32)), (.int (2 : Int32))] h0 (fun v h L => (v = some (.int (1 : Int32)) ∧ Fr n0 L ∧ h = h0)) := by
  refine own_met (own := "java/lang/Math") (Jvm.Free.JP.mathPlain rfl (by decide +kernel)) rfl ?_
  intro p e s m below meth c s₁ hx hby hml hown hnm hret hlk hZ e0 X0
  refine own_cast (g' := (mkF m 0 #[.val (.int (1 : Int32)), .val (.int (2 : Int32))] [])) (by first | (simp [entryFrame, mkF, argsToLocals, Value.category]; done) | rfl) ?_
  refine own_step (fun _ k => XS.iloadN X0.here hx rfl (hb hby d4_0) rfl k) ?_
  show own_Wp p e below _ s₁ (mkF m 1 #[.val (.int (1 : Int32)), .val (.int (2 : Int32))] [(.int (1 : Int32))])
  refine own_step (fun _ k => XS.iloadN X0.here hx rfl (hb hby d4_1) rfl k) ?_
  show own_Wp p e below _ s₁ (mkF m 2 #[.val (.int (1 : Int32)), .val (.int (2 : Int32))] [(.int (2 : Int32)), (.int (1 : Int32))])
  refine own_step (fun _ k => XS.icmpNo X0.here hx rfl (hb hby d4_2) rfl (by decide) k) ?_
  show own_Wp p e below _ s₁ (mkF m 5 #[.val (.int (1 : Int32)), .val (.int (2 : Int32))] [])
  refine own_step (fun _ k => XS.iloadN X0.here hx rfl (hb hby d4_5) rfl k) ?_
  show own_Wp p e below _ s₁ (mkF m 6 #[.val (.int (1 : Int32)), .val (.int (2 : Int32))] [(.int (1 : Int32))])
  refine own_step (fun _ k => XS.goto X0.here hx rfl (pc0 := 6) (pc' := 10) rfl (hb hby d4_6) (by decide) (by decide) k) ?_
  show own_Wp p e below _ s₁ (mkF m 10 #[.val (.int (1 : Int32)), .val (.int (2 : Int32))] [(.int (1 : Int32))])
  exact own_retI X0 hx hret hlk (hb hby d4_10) (by decide) (by decide) (by rw [e0]; exact ⟨rfl, (Fr.nil n0), rfl⟩)

set_option maxRecDepth 65536 in
set_option maxHeartbeats 40000000 in
theorem rm5_32 (l : Launch) (Z : State) (a0 : Array Value) (hw : ∀ d ∈ tables_1, d.before a0 Z = true) (hA : ∀ d ∈ own_flat narrow_1, d.value a0 Z none Z [] = some true) (ws : List Jvm.Cond) (h0 : Heap) (n0 : Nat) (O0 : Old Z n0 h0) :
    own_Met l Z (⟨"java/lang/Math", "max", "(II)I"⟩ : MethodName) (Jvm.Cond.code (⟨"java/lang/Math", "max", "(II)I"⟩ : MethodName) jdk_29_method_65_code 2 (some .int)) ws ({ frames := 0, cells := 0, slots := 0, locals := 0 } : Room) #[(.int (1 : Int32)), (.int (2 : Int32))] h0 (fun v h L => (v = some (.int (2 : Int32)) ∧ Fr n0 L ∧ h = h0)) := by
  refine own_met (own := "java/lang/Math") (Jvm.Free.JP.mathPlain rfl (by decide +kernel)) rfl ?_
  intro p e s m below meth c s₁ hx hby hml hown hnm hret hlk hZ e0 X0
  refine own_cast (g' := (mkF m 0 #[.val (.int (1 : Int32)), .val (.int (2 : Int32))] [])) (by first | (simp [entryFrame, mkF, argsToLocals, Value.category]; done) | rfl) ?_
  refine own_step (fun _ k => XS.iloadN X0.here hx rfl (hb hby d5_0) rfl k) ?_
  show own_Wp p e below _ s₁ (mkF m 1 #[.val (.int (1 : Int32)), .val (.int (2 : Int32))] [(.int (1 : Int32))])
  refine own_step (fun _ k => XS.iloadN X0.here hx rfl (hb hby d5_1) rfl k) ?_
  show own_Wp p e below _ s₁ (mkF m 2 #[.val (.int (1 : Int32)), .val (.int (2 : Int32))] [(.int (2 : Int32)), (.int (1 : Int32))])
  refine own_step (fun _ k => XS.icmpYes X0.here hx rfl (pc0 := 2) (pc' := 9) rfl (hb hby d5_2) rfl (by decide) (by decide) (by decide) k) ?_
  show own_Wp p e below _ s₁ (mkF m 9 #[.val (.int (1 : Int32)), .val (.int (2 : Int32))] [])
  refine own_step (fun _ k => XS.iloadN X0.here hx rfl (hb hby d5_9) rfl k) ?_
  show own_Wp p e below _ s₁ (mkF m 10 #[.val (.int (1 : Int32)), .val (.int (2 : Int32))] [(.int (2 : Int32))])
  exact own_retI X0 hx hret hlk (hb hby d5_10) (by decide) (by decide) (by rw [e0]; exact ⟨rfl, (Fr.nil n0), rfl⟩)

set_option maxRecDepth 65536 in
set_option maxHeartbeats 40000000 in
theorem rm3_33 (l : Launch) (Z : State) (a0 : Array Value) (hw : ∀ d ∈ tables_1, d.before a0 Z = true) (hA : ∀ d ∈ own_flat narrow_1, d.value a0 Z none Z [] = some true) (ws : List Jvm.Cond) (h0 : Heap) (n0 : Nat) (O0 : Old Z n0 h0) :
    own_Met l Z (⟨"com/example/pathfare/pathfare/alto/TypeIsCompatibleWithPinLaw", "expected", "(II)Z"⟩ : MethodName) (Jvm.Cond.code (⟨"com/example/pathfare/pathfare/alto/TypeIsCompatibleWithPinLaw", "expected", "(II)Z"⟩ : MethodName) method_3_code 4 (some .boolean)) ws ({ frames := 1, cells := 0, slots := 0, locals := 13 } : Room) #[(.int (1 : Int32)), (.int (2 : Int32))] h0 (fun v h L => (v = some (.int (0 : Int32)) ∧ Fr n0 L ∧ h = h0)) := by
  refine own_met (own := "com/example/pathfare/pathfare/alto/TypeIsCompatibleWithPinLaw") (plainFor_of_name pn0) rfl ?_
  intro p e s m below meth c s₁ hx hby hml hown hnm hret hlk hZ e0 X0
  refine own_cast (g' := (mkF m 0 #[.val (.int (1 : Int32)), .val (.int (2 : Int32)), .unset, .unset] [])) (by first | (simp [entryFrame, mkF, argsToLocals, Value.category]; done) | rfl) ?_
  refine own_step (fun _ k => XS.iloadN X0.here hx rfl (hb hby d3_0) rfl k) ?_
  show own_Wp p e below _ s₁ (mkF m 1 #[.val (.int (1 : Int32)), .val (.int (2 : Int32)), .unset, .unset] [(.int (1 : Int32))])
  refine own_step (fun _ k => XS.iloadN X0.here hx rfl (hb hby d3_1) rfl k) ?_
  show own_Wp p e below _ s₁ (mkF m 2 #[.val (.int (1 : Int32)), .val (.int (2 : Int32)), .unset, .unset] [(.int (2 : Int32)), (.int (1 : Int32))])
  refine own_step (fun _ k => XS.icmpYes X0.here hx rfl (pc0 := 2) (pc' := 7) rfl (hb hby d3_2) rfl (by decide) (by decide) (by decide) k) ?_
  show own_Wp p e below _ s₁ (mkF m 7 #[.val (.int (1 : Int32)), .val (.int (2 : Int32)), .unset, .unset] [])
  refine own_step (fun _ k => XS.iloadN X0.here hx rfl (hb hby d3_7) rfl k) ?_
  show own_Wp p e below _ s₁ (mkF m 8 #[.val (.int (1 : Int32)), .val (.int (2 : Int32)), .unset, .unset] [(.int (1 : Int32))])
  refine own_step (fun _ k => XS.iloadN X0.here hx rfl (hb hby d3_8) rfl k) ?_
  show own_Wp p e below _ s₁ (mkF m 9 #[.val (.int (1 : Int32)), .val (.int (2 : Int32)), .unset, .unset] [(.int (2 : Int32)), (.int (1 : Int32))])
  obtain ⟨_, T1, L1, X1, hQ1, st1⟩ := own_callS X0 hx hZ hown (hw _ (List.mem_of_getElem? (i := 20) rfl)) (hw _ (List.mem_of_getElem? (i := 21) rfl)) (hw _ (List.mem_of_getElem? (i := 22) rfl)) (hw _ (List.mem_of_getElem? (i := 23) rfl)) (by decide) (rm4_31 l Z a0 hw hA [] h0 n0 O0) (W := 0) (by decide) (by decide) [(.int (1 : Int32)), (.int (2 : Int32))] rfl (lenOf pd5 rfl) (Ls := #[.val (.int (1 : Int32)), .val (.int (2 : Int32)), .unset, .unset]) (by rw [hml]; rfl) (rest := []) (Nat.le_of_eq rfl) (hb hby d3_9) e0 (by decide) (by decide)
  refine st1 _ ?_
  obtain ⟨rfl, N1q, e1⟩ := hQ1
  have N1 := Fr.app (Fr.nil n0) N1q
  show own_Wp p e below _ T1 (mkF m 12 #[.val (.int (1 : Int32)), .val (.int (2 : Int32)), .unset, .unset] [(.int (1 : Int32))])
  refine own_step (fun _ k => XS.istoreN X1.here hx rfl (hb hby d3_12) rfl (l' := #[.val (.int (1 : Int32)), .val (.int (2 : Int32)), .val (.int (1 : Int32)), .unset]) rfl k) ?_
  show own_Wp p e below _ T1 (mkF m 13 #[.val (.int (1 : Int32)), .val (.int (2 : Int32)), .val (.int (1 : Int32)), .unset] [])
  refine own_step (fun _ k => XS.iloadN X1.here hx rfl (hb hby d3_13) rfl k) ?_
  show own_Wp p e below _ T1 (mkF m 14 #[.val (.int (1 : Int32)), .val (.int (2 : Int32)), .val (.int (1 : Int32)), .unset] [(.int (1 : Int32))])
  refine own_step (fun _ k => XS.iloadN X1.here hx rfl (hb hby d3_14) rfl k) ?_
  show own_Wp p e below _ T1 (mkF m 15 #[.val (.int (1 : Int32)), .val (.int (2 : Int32)), .val (.int (1 : Int32)), .unset] [(.int (2 : Int32)), (.int (1 : Int32))])
  obtain ⟨_, T2, L2, X2, hQ2, st2⟩ := own_callS X1 hx hZ hown (hw _ (List.mem_of_getElem? (i := 24) rfl)) (hw _ (List.mem_of_getElem? (i := 25) rfl)) (hw _ (List.mem_of_getElem? (i := 22) rfl)) (hw _ (List.mem_of_getElem? (i := 26) rfl)) (by decide) (rm5_32 l Z a0 hw hA [] h0 n0 O0) (W := 0) (by decide) (by decide) [(.int (1 : Int32)), (.int (2 : Int32))] rfl (lenOf pd5 rfl) (Ls := #[.val (.int (1 : Int32)), .val (.int (2 : Int32)), .val (.int (1 : Int32)), .unset]) (by rw [hml]; rfl) (rest := []) (Nat.le_of_eq rfl) (hb hby d3_15) e1 (by decide) (by decide)
  refine st2 _ ?_
  obtain ⟨rfl, N2q, e2⟩ := hQ2
  have N2 := Fr.app N1 N2q
  show own_Wp p e below _ T2 (mkF m 18 #[.val (.int (1 : Int32)), .val (.int (2 : Int32)), .val (.int (1 : Int32)), .unset] [(.int (2 : Int32))])
  refine own_step (fun _ k => XS.istoreN X2.here hx rfl (hb hby d3_18) rfl (l' := #[.val (.int (1 : Int32)), .val (.int (2 : Int32)), .val (.int (1 : Int32)), .val (.int (2 : Int32))]) rfl k) ?_
  show own_Wp p e below _ T2 (mkF m 19 #[.val (.int (1 : Int32)), .val (.int (2 : Int32)), .val (.int (1 : Int32)), .val (.int (2 : Int32))] [])
  refine own_step (fun _ k => XS.iloadN X2.here hx rfl (hb hby d3_19) rfl k) ?_
  show own_Wp p e below _ T2 (mkF m 20 #[.val (.int (1 : Int32)), .val (.int (2 : Int32)), .val (.int (1 : Int32)), .val (.int (2 : Int32))] [(.int (1 : Int32))])
  refine own_step (fun _ k => XS.ifYes X2.here hx rfl (pc0 := 20) (pc' := 39) rfl (hb hby d3_20) rfl (by decide) (by decide) (by decide) k) ?_
  show own_Wp p e below _ T2 (mkF m 39 #[.val (.int (1 : Int32)), .val (.int (2 : Int32)), .val (.int (1 : Int32)), .val (.int (2 : Int32))] [])
  refine own_step (fun _ k => XS.iloadN X2.here hx rfl (hb hby d3_39) rfl k) ?_
  show own_Wp p e below _ T2 (mkF m 40 #[.val (.int (1 : Int32)), .val (.int (2 : Int32)), .val (.int (1 : Int32)), .val (.int (2 : Int32))] [(.int (1 : Int32))])
  refine own_step (fun _ k => XS.iconst X2.here hx rfl (hb hby d3_40) k) ?_
  show own_Wp p e below _ T2 (mkF m 41 #[.val (.int (1 : Int32)), .val (.int (2 : Int32)), .val (.int (1 : Int32)), .val (.int (2 : Int32))] [(.int (1 : Int32)), (.int (1 : Int32))])
  refine own_step (fun _ k => XS.icmpNo X2.here hx rfl (hb hby d3_41) rfl (by decide) k) ?_
  show own_Wp p e below _ T2 (mkF m 44 #[.val (.int (1 : Int32)), .val (.int (2 : Int32)), .val (.int (1 : Int32)), .val (.int (2 : Int32))] [])
  refine own_step (fun _ k => XS.iloadN X2.here hx rfl (hb hby d3_44) rfl k) ?_
  show own_Wp p e below _ T2 (mkF m 45 #[.val (.int (1 : Int32)), .val (.int (2 : Int32)), .val (.int (1 : Int32)), .val (.int (2 : Int32))] [(.int (2 : Int32))])
  refine own_step (fun _ k => XS.iconst X2.here hx rfl (hb hby d3_45) k) ?_
  show own_Wp p e below _ T2 (mkF m 46 #[.val (.int (1 : Int32)), .val (.int (2 : Int32)), .val (.int (1 : Int32)), .val (.int (2 : Int32))] [(.int (3 : Int32)), (.int (2 : Int32))])
  refine own_step (fun _ k => XS.icmpNo X2.here hx rfl (hb hby d3_46) rfl (by decide) k) ?_
  show own_Wp p e below _ T2 (mkF m 49 #[.val (.int (1 : Int32)), .val (.int (2 : Int32)), .val (.int (1 : Int32)), .val (.int (2 : Int32))] [])
  refine own_step (fun _ k => XS.iloadN X2.here hx rfl (hb hby d3_49) rfl k) ?_
  show own_Wp p e below _ T2 (mkF m 50 #[.val (.int (1 : Int32)), .val (.int (2 : Int32)), .val (.int (1 : Int32)), .val (.int (2 : Int32))] [(.int (2 : Int32))])
  refine own_step (fun _ k => XS.iconst X2.here hx rfl (hb hby d3_50) k) ?_
  show own_Wp p e below _ T2 (mkF m 51 #[.val (.int (1 : Int32)), .val (.int (2 : Int32)), .val (.int (1 : Int32)), .val (.int (2 : Int32))] [(.int (5 : Int32)), (.int (2 : Int32))])
  refine own_step (fun _ k => XS.icmpYes X2.here hx rfl (pc0 := 51) (pc' := 58) rfl (hb hby d3_51) rfl (by decide) (by decide) (by decide) k) ?_
  show own_Wp p e below _ T2 (mkF m 58 #[.val (.int (1 : Int32)), .val (.int (2 : Int32)), .val (.int (1 : Int32)), .val (.int (2 : Int32))] [])
  refine own_step (fun _ k => XS.iconst X2.here hx rfl (hb hby d3_58) k) ?_
  show own_Wp p e below _ T2 (mkF m 59 #[.val (.int (1 : Int32)), .val (.int (2 : Int32)), .val (.int (1 : Int32)), .val (.int (2 : Int32))] [(.int (0 : Int32))])
  exact own_retN X2 hx (t := .boolean) hret (by simp) hlk (hb hby d3_59) (by decide) (by decide) (by rw [e2]; exact ⟨rfl, N2, rfl⟩)

set_option maxRecDepth 65536 in
set_option maxHeartbeats 40000000 in
theorem rm2_34 (l : Launch) (Z : State) (a0 : Array Value) (hw : ∀ d ∈ tables_1, d.before a0 Z = true) (hA : ∀ d ∈ own_flat narrow_1, d.value a0 Z none Z [] = some true) (ws : List Jvm.Cond) (x1 : Addr) (x2 : Addr) (h0 : Heap) (n0 : Nat) (O0 : Old Z n0 h0) (D0 : Fld Z Z.heap x1 "com/example/pathfare/pathfare/alto/EndpointAddress$Type" "ipv4" "Z" (.int (0 : Int32))) (D1 : Fld Z Z.heap x2 "com/example/pathfare/pathfare/alto/EndpointAddress$Type" "ipv4" "Z" (.int (0 : Int32))) (D2 : x1 ≠ x2) (D3 : Fld Z Z.heap x1 "com/example/pathfare/pathfare/alto/EndpointAddress$Type" "socket" "Z" (.int (0 : Int32))) :
    own_Met l Z (⟨"com/example/pathfare/pathfare/alto/EndpointAddress$Type", "isCompatibleWith", "(Lcom/example/pathfare/pathfare/alto/EndpointAddress$Type;)Z"⟩ : MethodName) (Jvm.Cond.code (⟨"com/example/pathfare/pathfare/alto/EndpointAddress$Type", "isCompatibleWith", "(Lcom/example/pathfare/pathfare/alto/EndpointAddress$Type;)Z"⟩ : MethodName) prog_3_method_6_code 2 (some .boolean)) ws ({ frames := 0, cells := 0, slots := 0, locals := 0 } : Room) #[(.ref x1), (.ref x2)] h0 (fun v h L => (v = some (.int (1 : Int32)) ∧ Fr n0 L ∧ h = h0)) := by
  refine own_met (own := "com/example/pathfare/pathfare/alto/EndpointAddress$Type") (plainFor_of_name pn2) rfl ?_
  intro p e s m below meth c s₁ hx hby hml hown hnm hret hlk hZ e0 X0
  refine own_cast (g' := (mkF m 0 #[.val (.ref x1), .val (.ref x2)] [])) (by first | (simp [entryFrame, mkF, argsToLocals, Value.category]; done) | rfl) ?_
  refine own_step (fun _ k => XS.aloadN X0.here hx rfl (hb hby d2_0) rfl rfl k) ?_
  show own_Wp p e below _ s₁ (mkF m 1 #[.val (.ref x1), .val (.ref x2)] [(.ref x1)])
  obtain ⟨T1, X1, e1, st1⟩ := getF X0 hx hZ hown (host := "") (Or.inl (hw _ (List.mem_of_getElem? (i := 15) rfl))) Via.refl e0 (D0.ext O0.2) (g := (mkF m 1 #[.val (.ref x1), .val (.ref x2)] [(.ref x1)])) rfl rfl (hb hby d2_1)
  refine own_step st1 ?_
  show own_Wp p e below _ T1 (mkF m 4 #[.val (.ref x1), .val (.ref x2)] [(.int (0 : Int32))])
  refine own_step (fun _ k => XS.aloadN X1.here hx rfl (hb hby d2_4) rfl rfl k) ?_
  show own_Wp p e below _ T1 (mkF m 5 #[.val (.ref x1), .val (.ref x2)] [(.ref x2), (.int (0 : Int32))])
  obtain ⟨T2, X2, e2, st2⟩ := getF X1 hx hZ hown (host := "") (Or.inl (hw _ (List.mem_of_getElem? (i := 15) rfl))) Via.refl e1 (D1.ext O0.2) (g := (mkF m 5 #[.val (.ref x1), .val (.ref x2)] [(.ref x2), (.int (0 : Int32))])) rfl rfl (hb hby d2_5)
  refine own_step st2 ?_
  show own_Wp p e below _ T2 (mkF m 8 #[.val (.ref x1), .val (.ref x2)] [(.int (0 : Int32)), (.int (0 : Int32))])
  refine own_step (fun _ k => XS.icmpNo X2.here hx rfl (hb hby d2_8) rfl (by decide) k) ?_
  show own_Wp p e below _ T2 (mkF m 11 #[.val (.ref x1), .val (.ref x2)] [])
  refine own_step (fun _ k => XS.aloadN X2.here hx rfl (hb hby d2_11) rfl rfl k) ?_
  show own_Wp p e below _ T2 (mkF m 12 #[.val (.ref x1), .val (.ref x2)] [(.ref x1)])
  refine own_step (fun _ k => XS.aloadN X2.here hx rfl (hb hby d2_12) rfl rfl k) ?_
  show own_Wp p e below _ T2 (mkF m 13 #[.val (.ref x1), .val (.ref x2)] [(.ref x2), (.ref x1)])
  refine own_step (fun _ k => Jvm.RoadKit.acmp (g := (mkF m 13 #[.val (.ref x1), .val (.ref x2)] [(.ref x2), (.ref x1)])) X2 hx rfl rfl rfl (pc0 := 13) (pc' := 16) (same := false) rfl (hb hby d2_13) rfl (decide_eq_false fun q => D2 (Value.ref.inj q)) (by decide) (by decide) k) ?_
  show own_Wp p e below _ T2 (mkF m 16 #[.val (.ref x1), .val (.ref x2)] [])
  refine own_step (fun _ k => XS.aloadN X2.here hx rfl (hb hby d2_16) rfl rfl k) ?_
  show own_Wp p e below _ T2 (mkF m 17 #[.val (.ref x1), .val (.ref x2)] [(.ref x1)])
  obtain ⟨T3, X3, e3, st3⟩ := getF X2 hx hZ hown (host := "") (Or.inl (hw _ (List.mem_of_getElem? (i := 35) rfl))) Via.refl e2 (D3.ext O0.2) (g := (mkF m 17 #[.val (.ref x1), .val (.ref x2)] [(.ref x1)])) rfl rfl (hb hby d2_17)
  refine own_step st3 ?_
  show own_Wp p e below _ T3 (mkF m 20 #[.val (.ref x1), .val (.ref x2)] [(.int (0 : Int32))])
  refine own_step (fun _ k => XS.ifYes X3.here hx rfl (pc0 := 20) (pc' := 30) rfl (hb hby d2_20) rfl (by decide) (by decide) (by decide) k) ?_
  show own_Wp p e below _ T3 (mkF m 30 #[.val (.ref x1), .val (.ref x2)] [])
  refine own_step (fun _ k => XS.iconst X3.here hx rfl (hb hby d2_30) k) ?_
  show own_Wp p e below _ T3 (mkF m 31 #[.val (.ref x1), .val (.ref x2)] [(.int (1 : Int32))])
  refine own_step (fun _ k => XS.goto X3.here hx rfl (pc0 := 31) (pc' := 35) rfl (hb hby d2_31) (by decide) (by decide) k) ?_
  show own_Wp p e below _ T3 (mkF m 35 #[.val (.ref x1), .val (.ref x2)] [(.int (1 : Int32))])
  exact own_retN X3 hx (t := .boolean) hret (by simp) hlk (hb hby d2_35) (by decide) (by decide) (by rw [e3]; exact ⟨rfl, (Fr.nil n0), rfl⟩)

set_option maxRecDepth 65536 in
set_option maxHeartbeats 40000000 in
theorem rm4_35 (l : Launch) (Z : State) (a0 : Array Value) (hw : ∀ d ∈ tables_1, d.before a0 Z = true) (hA : ∀ d ∈ own_flat narrow_1, d.value a0 Z none Z [] = some true) (ws : List Jvm.Cond) (h0 : Heap) (n0 : Nat) (O0 : Old Z n0 h0) :
    own_Met l Z (⟨"java/lang/Math", "min", "(II)I"⟩ : MethodName) (Jvm.Cond.code (⟨"java/lang/Math", "min", "(II)I"⟩ : MethodName) jdk_29_method_69_code 2 (some .int)) ws ({ frames := 0, cells := 0, slots := 0, locals := 0 } : Room) #[(.int (1 : Int32)), (.int (3 : Int32))] h0 (fun v h L => (v = some (.int (1 : Int32)) ∧ Fr n0 L ∧ h = h0)) := by
  refine own_met (own := "java/lang/Math") (Jvm.Free.JP.mathPlain rfl (by decide +kernel)) rfl ?_
  intro p e s m below meth c s₁ hx hby hml hown hnm hret hlk hZ e0 X0
  refine own_cast (g' := (mkF m 0 #[.val (.int (1 : Int32)), .val (.int (3 : Int32))] [])) (by first | (simp [entryFrame, mkF, argsToLocals, Value.category]; done) | rfl) ?_
  refine own_step (fun _ k => XS.iloadN X0.here hx rfl (hb hby d4_0) rfl k) ?_
  show own_Wp p e below _ s₁ (mkF m 1 #[.val (.int (1 : Int32)), .val (.int (3 : Int32))] [(.int (1 : Int32))])
  refine own_step (fun _ k => XS.iloadN X0.here hx rfl (hb hby d4_1) rfl k) ?_
  show own_Wp p e below _ s₁ (mkF m 2 #[.val (.int (1 : Int32)), .val (.int (3 : Int32))] [(.int (3 : Int32)), (.int (1 : Int32))])
  refine own_step (fun _ k => XS.icmpNo X0.here hx rfl (hb hby d4_2) rfl (by decide) k) ?_
  show own_Wp p e below _ s₁ (mkF m 5 #[.val (.int (1 : Int32)), .val (.int (3 : Int32))] [])
  refine own_step (fun _ k => XS.iloadN X0.here hx rfl (hb hby d4_5) rfl k) ?_
  show own_Wp p e below _ s₁ (mkF m 6 #[.val (.int (1 : Int32)), .val (.int (3 : Int32))] [(.int (1 : Int32))])
  refine own_step (fun _ k => XS.goto X0.here hx rfl (pc0 := 6) (pc' := 10) rfl (hb hby d4_6) (by decide) (by decide) k) ?_
  show own_Wp p e below _ s₁ (mkF m 10 #[.val (.int (1 : Int32)), .val (.int (3 : Int32))] [(.int (1 : Int32))])
  exact own_retI X0 hx hret hlk (hb hby d4_10) (by decide) (by decide) (by rw [e0]; exact ⟨rfl, (Fr.nil n0), rfl⟩)

set_option maxRecDepth 65536 in
set_option maxHeartbeats 40000000 in
theorem rm5_36 (l : Launch) (Z : State) (a0 : Array Value) (hw : ∀ d ∈ tables_1, d.before a0 Z = true) (hA : ∀ d ∈ own_flat narrow_1, d.value a0 Z none Z [] = some true) (ws : List Jvm.Cond) (h0 : Heap) (n0 : Nat) (O0 : Old Z n0 h0) :
    own_Met l Z (⟨"java/lang/Math", "max", "(II)I"⟩ : MethodName) (Jvm.Cond.code (⟨"java/lang/Math", "max", "(II)I"⟩ : MethodName) jdk_29_method_65_code 2 (some .int)) ws ({ frames := 0, cells := 0, slots := 0, locals := 0 } : Room) #[(.int (1 : Int32)), (.int (3 : Int32))] h0 (fun v h L => (v = some (.int (3 : Int32)) ∧ Fr n0 L ∧ h = h0)) := by
  refine own_met (own := "java/lang/Math") (Jvm.Free.JP.mathPlain rfl (by decide +kernel)) rfl ?_
  intro p e s m below meth c s₁ hx hby hml hown hnm hret hlk hZ e0 X0
  refine own_cast (g' := (mkF m 0 #[.val (.int (1 : Int32)), .val (.int (3 : Int32))] [])) (by first | (simp [entryFrame, mkF, argsToLocals, Value.category]; done) | rfl) ?_
  refine own_step (fun _ k => XS.iloadN X0.here hx rfl (hb hby d5_0) rfl k) ?_
  show own_Wp p e below _ s₁ (mkF m 1 #[.val (.int (1 : Int32)), .val (.int (3 : Int32))] [(.int (1 : Int32))])
  refine own_step (fun _ k => XS.iloadN X0.here hx rfl (hb hby d5_1) rfl k) ?_
  show own_Wp p e below _ s₁ (mkF m 2 #[.val (.int (1 : Int32)), .val (.int (3 : Int32))] [(.int (3 : Int32)), (.int (1 : Int32))])
  refine own_step (fun _ k => XS.icmpYes X0.here hx rfl (pc0 := 2) (pc' := 9) rfl (hb hby d5_2) rfl (by decide) (by decide) (by decide) k) ?_
  show own_Wp p e below _ s₁ (mkF m 9 #[.val (.int (1 : Int32)), .val (.int (3 : Int32))] [])
  refine own_step (fun _ k => XS.iloadN X0.here hx rfl (hb hby d5_9) rfl k) ?_
  show own_Wp p e below _ s₁ (mkF m 10 #[.val (.int (1 : Int32)), .val (.int (3 : Int32))] [(.int (3 : Int32))])
  exact own_retI X0 hx hret hlk (hb hby d5_10) (by decide) (by decide) (by rw [e0]; exact ⟨rfl, (Fr.nil n0), rfl⟩)

set_option maxRecDepth 65536 in
set_option maxHeartbeats 40000000 in
theorem rm3_37 (l : Launch) (Z : State) (a0 : Array Value) (hw : ∀ d ∈ tables_1, d.before a0 Z = true) (hA : ∀ d ∈ own_flat narrow_1, d.value a0 Z none Z [] = some true) (ws : List Jvm.Cond) (h0 : Heap) (n0 : Nat) (O0 : Old Z n0 h0) :
    own_Met l Z (⟨"com/example/pathfare/pathfare/alto/TypeIsCompatibleWithPinLaw", "expected", "(II)Z"⟩ : MethodName) (Jvm.Cond.code (⟨"com/example/pathfare/pathfare/alto/TypeIsCompatibleWithPinLaw", "expected", "(II)Z"⟩ : MethodName) method_3_code 4 (some .boolean)) ws ({ frames := 1, cells := 0, slots := 0, locals := 13 } : Room) #[(.int (1 : Int32)), (.int (3 : Int32))] h0 (fun v h L => (v = some (.int (1 : Int32)) ∧ Fr n0 L ∧ h = h0)) := by
  refine own_met (own := "com/example/pathfare/pathfare/alto/TypeIsCompatibleWithPinLaw") (plainFor_of_name pn0) rfl ?_
  intro p e s m below meth c s₁ hx hby hml hown hnm hret hlk hZ e0 X0
  refine own_cast (g' := (mkF m 0 #[.val (.int (1 : Int32)), .val (.int (3 : Int32)), .unset, .unset] [])) (by first | (simp [entryFrame, mkF, argsToLocals, Value.category]; done) | rfl) ?_
  refine own_step (fun _ k => XS.iloadN X0.here hx rfl (hb hby d3_0) rfl k) ?_
  show own_Wp p e below _ s₁ (mkF m 1 #[.val (.int (1 : Int32)), .val (.int (3 : Int32)), .unset, .unset] [(.int (1 : Int32))])
  refine own_step (fun _ k => XS.iloadN X0.here hx rfl (hb hby d3_1) rfl k) ?_
  show own_Wp p e below _ s₁ (mkF m 2 #[.val (.int (1 : Int32)), .val (.int (3 : Int32)), .unset, .unset] [(.int (3 : Int32)), (.int (1 : Int32))])
  refine own_step (fun _ k => XS.icmpYes X0.here hx rfl (pc0 := 2) (pc' := 7) rfl (hb hby d3_2) rfl (by decide) (by decide) (by decide) k) ?_
  show own_Wp p e below _ s₁ (mkF m 7 #[.val (.int (1 : Int32)), .val (.int (3 : Int32)), .unset, .unset] [])
  refine own_step (fun _ k => XS.iloadN X0.here hx rfl (hb hby d3_7) rfl k) ?_
  show own_Wp p e below _ s₁ (mkF m 8 #[.val (.int (1 : Int32)), .val (.int (3 : Int32)), .unset, .unset] [(.int (1 : Int32))])
  refine own_step (fun _ k => XS.iloadN X0.here hx rfl (hb hby d3_8) rfl k) ?_
  show own_Wp p e below _ s₁ (mkF m 9 #[.val (.int (1 : Int32)), .val (.int (3 : Int32)), .unset, .unset] [(.int (3 : Int32)), (.int (1 : Int32))])
  obtain ⟨_, T1, L1, X1, hQ1, st1⟩ := own_callS X0 hx hZ hown (hw _ (List.mem_of_getElem? (i := 20) rfl)) (hw _ (List.mem_of_getElem? (i := 21) rfl)) (hw _ (List.mem_of_getElem? (i := 22) rfl)) (hw _ (List.mem_of_getElem? (i := 23) rfl)) (by decide) (rm4_35 l Z a0 hw hA [] h0 n0 O0) (W := 0) (by decide) (by decide) [(.int (1 : Int32)), (.int (3 : Int32))] rfl (lenOf pd5 rfl) (Ls := #[.val (.int (1 : Int32)), .val (.int (3 : Int32)), .unset, .unset]) (by rw [hml]; rfl) (rest := []) (Nat.le_of_eq rfl) (hb hby d3_9) e0 (by decide) (by decide)
  refine st1 _ ?_
  obtain ⟨rfl, N1q, e1⟩ := hQ1
  have N1 := Fr.app (Fr.nil n0) N1q
  show own_Wp p e below _ T1 (mkF m 12 #[.val (.int (1 : Int32)), .val (.int (3 : Int32)), .unset, .unset] [(.int (1 : Int32))])
  refine own_step (fun _ k => XS.istoreN X1.here hx rfl (hb hby d3_12) rfl (l' := #[.val (.int (1 : Int32)), .val (.int (3 : Int32)), .val (.int (1 : Int32)), .unset]) rfl k) ?_
  show own_Wp p e below _ T1 (mkF m 13 #[.val (.int (1 : Int32)), .val (.int (3 : Int32)), .val (.int (1 : Int32)), .unset] [])
  refine own_step (fun _ k => XS.iloadN X1.here hx rfl (hb hby d3_13) rfl k) ?_
  show own_Wp p e below _ T1 (mkF m 14 #[.val (.int (1 : Int32)), .val (.int (3 : Int32)), .val (.int (1 : Int32)), .unset] [(.int (1 : Int32))])
  refine own_step (fun _ k => XS.iloadN X1.here hx rfl (hb hby d3_14) rfl k) ?_
  show own_Wp p e below _ T1 (mkF m 15 #[.val (.int (1 : Int32)), .val (.int (3 : Int32)), .val (.int (1 : Int32)), .unset] [(.int (3 : Int32)), (.int (1 : Int32))])
  obtain ⟨_, T2, L2, X2, hQ2, st2⟩ := own_callS X1 hx hZ hown (hw _ (List.mem_of_getElem? (i := 24) rfl)) (hw _ (List.mem_of_getElem? (i := 25) rfl)) (hw _ (List.mem_of_getElem? (i := 22) rfl)) (hw _ (List.mem_of_getElem? (i := 26) rfl)) (by decide) (rm5_36 l Z a0 hw hA [] h0 n0 O0) (W := 0) (by decide) (by decide) [(.int (1 : Int32)), (.int (3 : Int32))] rfl (lenOf pd5 rfl) (Ls := #[.val (.int (1 : Int32)), .val (.int (3 : Int32)), .val (.int (1 : Int32)), .unset]) (by rw [hml]; rfl) (rest := []) (Nat.le_of_eq rfl) (hb hby d3_15) e1 (by decide) (by decide)
  refine st2 _ ?_
  obtain ⟨rfl, N2q, e2⟩ := hQ2
  have N2 := Fr.app N1 N2q
  show own_Wp p e below _ T2 (mkF m 18 #[.val (.int (1 : Int32)), .val (.int (3 : Int32)), .val (.int (1 : Int32)), .unset] [(.int (3 : Int32))])
  refine own_step (fun _ k => XS.istoreN X2.here hx rfl (hb hby d3_18) rfl (l' := #[.val (.int (1 : Int32)), .val (.int (3 : Int32)), .val (.int (1 : Int32)), .val (.int (3 : Int32))]) rfl k) ?_
  show own_Wp p e below _ T2 (mkF m 19 #[.val (.int (1 : Int32)), .val (.int (3 : Int32)), .val (.int (1 : Int32)), .val (.int (3 : Int32))] [])
  refine own_step (fun _ k => XS.iloadN X2.here hx rfl (hb hby d3_19) rfl k) ?_
  show own_Wp p e below _ T2 (mkF m 20 #[.val (.int (1 : Int32)), .val (.int (3 : Int32)), .val (.int (1 : Int32)), .val (.int (3 : Int32))] [(.int (1 : Int32))])
  refine own_step (fun _ k => XS.ifYes X2.here hx rfl (pc0 := 20) (pc' := 39) rfl (hb hby d3_20) rfl (by decide) (by decide) (by decide) k) ?_
  show own_Wp p e below _ T2 (mkF m 39 #[.val (.int (1 : Int32)), .val (.int (3 : Int32)), .val (.int (1 : Int32)), .val (.int (3 : Int32))] [])
  refine own_step (fun _ k => XS.iloadN X2.here hx rfl (hb hby d3_39) rfl k) ?_
  show own_Wp p e below _ T2 (mkF m 40 #[.val (.int (1 : Int32)), .val (.int (3 : Int32)), .val (.int (1 : Int32)), .val (.int (3 : Int32))] [(.int (1 : Int32))])
  refine own_step (fun _ k => XS.iconst X2.here hx rfl (hb hby d3_40) k) ?_
  show own_Wp p e below _ T2 (mkF m 41 #[.val (.int (1 : Int32)), .val (.int (3 : Int32)), .val (.int (1 : Int32)), .val (.int (3 : Int32))] [(.int (1 : Int32)), (.int (1 : Int32))])
  refine own_step (fun _ k => XS.icmpNo X2.here hx rfl (hb hby d3_41) rfl (by decide) k) ?_
  show own_Wp p e below _ T2 (mkF m 44 #[.val (.int (1 : Int32)), .val (.int (3 : Int32)), .val (.int (1 : Int32)), .val (.int (3 : Int32))] [])
  refine own_step (fun _ k => XS.iloadN X2.here hx rfl (hb hby d3_44) rfl k) ?_
  show own_Wp p e below _ T2 (mkF m 45 #[.val (.int (1 : Int32)), .val (.int (3 : Int32)), .val (.int (1 : Int32)), .val (.int (3 : Int32))] [(.int (3 : Int32))])
  refine own_step (fun _ k => XS.iconst X2.here hx rfl (hb hby d3_45) k) ?_
  show own_Wp p e below _ T2 (mkF m 46 #[.val (.int (1 : Int32)), .val (.int (3 : Int32)), .val (.int (1 : Int32)), .val (.int (3 : Int32))] [(.int (3 : Int32)), (.int (3 : Int32))])
  refine own_step (fun _ k => XS.icmpYes X2.here hx rfl (pc0 := 46) (pc' := 54) rfl (hb hby d3_46) rfl (by decide) (by decide) (by decide) k) ?_
  show own_Wp p e below _ T2 (mkF m 54 #[.val (.int (1 : Int32)), .val (.int (3 : Int32)), .val (.int (1 : Int32)), .val (.int (3 : Int32))] [])
  refine own_step (fun _ k => XS.iconst X2.here hx rfl (hb hby d3_54) k) ?_
  show own_Wp p e below _ T2 (mkF m 55 #[.val (.int (1 : Int32)), .val (.int (3 : Int32)), .val (.int (1 : Int32)), .val (.int (3 : Int32))] [(.int (1 : Int32))])
  refine own_step (fun _ k => XS.goto X2.here hx rfl (pc0 := 55) (pc' := 59) rfl (hb hby d3_55) (by decide) (by decide) k) ?_
  show own_Wp p e below _ T2 (mkF m 59 #[.val (.int (1 : Int32)), .val (.int (3 : Int32)), .val (.int (1 : Int32)), .val (.int (3 : Int32))] [(.int (1 : Int32))])
  exact own_retN X2 hx (t := .boolean) hret (by simp) hlk (hb hby d3_59) (by decide) (by decide) (by rw [e2]; exact ⟨rfl, N2, rfl⟩)

set_option maxRecDepth 65536 in
set_option maxHeartbeats 40000000 in
theorem rm4_38 (l : Launch) (Z : State) (a0 : Array Value) (hw : ∀ d ∈ tables_1, d.before a0 Z = true) (hA : ∀ d ∈ own_flat narrow_1, d.value a0 Z none Z [] = some true) (ws : List Jvm.Cond) (h0 : Heap) (n0 : Nat) (O0 : Old Z n0 h0) :
    own_Met l Z (⟨"java/lang/Math", "min", "(II)I"⟩ : MethodName) (Jvm.Cond.code (⟨"java/lang/Math", "min", "(II)I"⟩ : MethodName) jdk_29_method_69_code 2 (some .int)) ws ({ frames := 0, cells := 0, slots := 0, locals := 0 } : Room) #[(.int (1 : Int32)), (.int (4 : Int32))] h0 (fun v h L => (v = some (.int (1 : Int32)) ∧ Fr n0 L ∧ h = h0)) := by
  refine own_met (own := "java/lang/Math") (Jvm.Free.JP.mathPlain rfl (by decide +kernel)) rfl ?_
  intro p e s m below meth c s₁ hx hby hml hown hnm hret hlk hZ e0 X0
  refine own_cast (g' := (mkF m 0 #[.val (.int (1 : Int32)), .val (.int (4 : Int32))] [])) (by first | (simp [entryFrame, mkF, argsToLocals, Value.category]; done) | rfl) ?_
  refine own_step (fun _ k => XS.iloadN X0.here hx rfl (hb hby d4_0) rfl k) ?_
  show own_Wp p e below _ s₁ (mkF m 1 #[.val (.int (1 : Int32)), .val (.int (4 : Int32))] [(.int (1 : Int32))])
  refine own_step (fun _ k => XS.iloadN X0.here hx rfl (hb hby d4_1) rfl k) ?_
  show own_Wp p e below _ s₁ (mkF m 2 #[.val (.int (1 : Int32)), .val (.int (4 : Int32))] [(.int (4 : Int32)), (.int (1 : Int32))])
  refine own_step (fun _ k => XS.icmpNo X0.here hx rfl (hb hby d4_2) rfl (by decide) k) ?_
  show own_Wp p e below _ s₁ (mkF m 5 #[.val (.int (1 : Int32)), .val (.int (4 : Int32))] [])
  refine own_step (fun _ k => XS.iloadN X0.here hx rfl (hb hby d4_5) rfl k) ?_
  show own_Wp p e below _ s₁ (mkF m 6 #[.val (.int (1 : Int32)), .val (.int (4 : Int32))] [(.int (1 : Int32))])
  refine own_step (fun _ k => XS.goto X0.here hx rfl (pc0 := 6) (pc' := 10) rfl (hb hby d4_6) (by decide) (by decide) k) ?_
  show own_Wp p e below _ s₁ (mkF m 10 #[.val (.int (1 : Int32)), .val (.int (4 : Int32))] [(.int (1 : Int32))])
  exact own_retI X0 hx hret hlk (hb hby d4_10) (by decide) (by decide) (by rw [e0]; exact ⟨rfl, (Fr.nil n0), rfl⟩)

set_option maxRecDepth 65536 in
set_option maxHeartbeats 40000000 in
theorem rm5_39 (l : Launch) (Z : State) (a0 : Array Value) (hw : ∀ d ∈ tables_1, d.before a0 Z = true) (hA : ∀ d ∈ own_flat narrow_1, d.value a0 Z none Z [] = some true) (ws : List Jvm.Cond) (h0 : Heap) (n0 : Nat) (O0 : Old Z n0 h0) :
    own_Met l Z (⟨"java/lang/Math", "max", "(II)I"⟩ : MethodName) (Jvm.Cond.code (⟨"java/lang/Math", "max", "(II)I"⟩ : MethodName) jdk_29_method_65_code 2 (some .int)) ws ({ frames := 0, cells := 0, slots := 0, locals := 0 } : Room) #[(.int (1 : Int32)), (.int (4 : Int32))] h0 (fun v h L => (v = some (.int (4 : Int32)) ∧ Fr n0 L ∧ h = h0)) := by
  refine own_met (own := "java/lang/Math") (Jvm.Free.JP.mathPlain rfl (by decide +kernel)) rfl ?_
  intro p e s m below meth c s₁ hx hby hml hown hnm hret hlk hZ e0 X0
  refine own_cast (g' := (mkF m 0 #[.val (.int (1 : Int32)), .val (.int (4 : Int32))] [])) (by first | (simp [entryFrame, mkF, argsToLocals, Value.category]; done) | rfl) ?_
  refine own_step (fun _ k => XS.iloadN X0.here hx rfl (hb hby d5_0) rfl k) ?_
  show own_Wp p e below _ s₁ (mkF m 1 #[.val (.int (1 : Int32)), .val (.int (4 : Int32))] [(.int (1 : Int32))])
  refine own_step (fun _ k => XS.iloadN X0.here hx rfl (hb hby d5_1) rfl k) ?_
  show own_Wp p e below _ s₁ (mkF m 2 #[.val (.int (1 : Int32)), .val (.int (4 : Int32))] [(.int (4 : Int32)), (.int (1 : Int32))])
  refine own_step (fun _ k => XS.icmpYes X0.here hx rfl (pc0 := 2) (pc' := 9) rfl (hb hby d5_2) rfl (by decide) (by decide) (by decide) k) ?_
  show own_Wp p e below _ s₁ (mkF m 9 #[.val (.int (1 : Int32)), .val (.int (4 : Int32))] [])
  refine own_step (fun _ k => XS.iloadN X0.here hx rfl (hb hby d5_9) rfl k) ?_
  show own_Wp p e below _ s₁ (mkF m 10 #[.val (.int (1 : Int32)), .val (.int (4 : Int32))] [(.int (4 : Int32))])
  exact own_retI X0 hx hret hlk (hb hby d5_10) (by decide) (by decide) (by rw [e0]; exact ⟨rfl, (Fr.nil n0), rfl⟩)

set_option maxRecDepth 65536 in
set_option maxHeartbeats 40000000 in
theorem rm3_40 (l : Launch) (Z : State) (a0 : Array Value) (hw : ∀ d ∈ tables_1, d.before a0 Z = true) (hA : ∀ d ∈ own_flat narrow_1, d.value a0 Z none Z [] = some true) (ws : List Jvm.Cond) (h0 : Heap) (n0 : Nat) (O0 : Old Z n0 h0) :
    own_Met l Z (⟨"com/example/pathfare/pathfare/alto/TypeIsCompatibleWithPinLaw", "expected", "(II)Z"⟩ : MethodName) (Jvm.Cond.code (⟨"com/example/pathfare/pathfare/alto/TypeIsCompatibleWithPinLaw", "expected", "(II)Z"⟩ : MethodName) method_3_code 4 (some .boolean)) ws ({ frames := 1, cells := 0, slots := 0, locals := 13 } : Room) #[(.int (1 : Int32)), (.int (4 : Int32))] h0 (fun v h L => (v = some (.int (0 : Int32)) ∧ Fr n0 L ∧ h = h0)) := by
  refine own_met (own := "com/example/pathfare/pathfare/alto/TypeIsCompatibleWithPinLaw") (plainFor_of_name pn0) rfl ?_
  intro p e s m below meth c s₁ hx hby hml hown hnm hret hlk hZ e0 X0
  refine own_cast (g' := (mkF m 0 #[.val (.int (1 : Int32)), .val (.int (4 : Int32)), .unset, .unset] [])) (by first | (simp [entryFrame, mkF, argsToLocals, Value.category]; done) | rfl) ?_
  refine own_step (fun _ k => XS.iloadN X0.here hx rfl (hb hby d3_0) rfl k) ?_
  show own_Wp p e below _ s₁ (mkF m 1 #[.val (.int (1 : Int32)), .val (.int (4 : Int32)), .unset, .unset] [(.int (1 : Int32))])
  refine own_step (fun _ k => XS.iloadN X0.here hx rfl (hb hby d3_1) rfl k) ?_
  show own_Wp p e below _ s₁ (mkF m 2 #[.val (.int (1 : Int32)), .val (.int (4 : Int32)), .unset, .unset] [(.int (4 : Int32)), (.int (1 : Int32))])
  refine own_step (fun _ k => XS.icmpYes X0.here hx rfl (pc0 := 2) (pc' := 7) rfl (hb hby d3_2) rfl (by decide) (by decide) (by decide) k) ?_
  show own_Wp p e below _ s₁ (mkF m 7 #[.val (.int (1 : Int32)), .val (.int (4 : Int32)), .unset, .unset] [])
  refine own_step (fun _ k => XS.iloadN X0.here hx rfl (hb hby d3_7) rfl k) ?_
  show own_Wp p e below _ s₁ (mkF m 8 #[.val (.int (1 : Int32)), .val (.int (4 : Int32)), .unset, .unset] [(.int (1 : Int32))])
  refine own_step (fun _ k => XS.iloadN X0.here hx rfl (hb hby d3_8) rfl k) ?_
  show own_Wp p e below _ s₁ (mkF m 9 #[.val (.int (1 : Int32)), .val (.int (4 : Int32)), .unset, .unset] [(.int (4 : Int32)), (.int (1 : Int32))])
  obtain ⟨_, T1, L1, X1, hQ1, st1⟩ := own_callS X0 hx hZ hown (hw _ (List.mem_of_getElem? (i := 20) rfl)) (hw _ (List.mem_of_getElem? (i := 21) rfl)) (hw _ (List.mem_of_getElem? (i := 22) rfl)) (hw _ (List.mem_of_getElem? (i := 23) rfl)) (by decide) (rm4_38 l Z a0 hw hA [] h0 n0 O0) (W := 0) (by decide) (by decide) [(.int (1 : Int32)), (.int (4 : Int32))] rfl (lenOf pd5 rfl) (Ls := #[.val (.int (1 : Int32)), .val (.int (4 : Int32)), .unset, .unset]) (by rw [hml]; rfl) (rest := []) (Nat.le_of_eq rfl) (hb hby d3_9) e0 (by decide) (by decide)
  refine st1 _ ?_
  obtain ⟨rfl, N1q, e1⟩ := hQ1
  have N1 := Fr.app (Fr.nil n0) N1q
  show own_Wp p e below _ T1 (mkF m 12 #[.val (.int (1 : Int32)), .val (.int (4 : Int32)), .unset, .unset] [(.int (1 : Int32))])
  refine own_step (fun _ k => XS.istoreN X1.here hx rfl (hb hby d3_12) rfl (l' := #[.val (.int (1 : Int32)), .val (.int (4 : Int32)), .val (.int (1 : Int32)), .unset]) rfl k) ?_
  show own_Wp p e below _ T1 (mkF m 13 #[.val (.int (1 : Int32)), .val (.int (4 : Int32)), .val (.int (1 : Int32)), .unset] [])
  refine own_step (fun _ k => XS.iloadN X1.here hx rfl (hb hby d3_13) rfl k) ?_
  show own_Wp p e below _ T1 (mkF m 14 #[.val (.int (1 : Int32)), .val (.int (4 : Int32)), .val (.int (1 : Int32)), .unset] [(.int (1 : Int32))])
  refine own_step (fun _ k => XS.iloadN X1.here hx rfl (hb hby d3_14) rfl k) ?_
  show own_Wp p e below _ T1 (mkF m 15 #[.val (.int (1 : Int32)), .val (.int (4 : Int32)), .val (.int (1 : Int32)), .unset] [(.int (4 : Int32)), (.int (1 : Int32))])
  obtain ⟨_, T2, L2, X2, hQ2, st2⟩ := own_callS X1 hx hZ hown (hw _ (List.mem_of_getElem? (i := 24) rfl)) (hw _ (List.mem_of_getElem? (i := 25) rfl)) (hw _ (List.mem_of_getElem? (i := 22) rfl)) (hw _ (List.mem_of_getElem? (i := 26) rfl)) (by decide) (rm5_39 l Z a0 hw hA [] h0 n0 O0) (W := 0) (by decide) (by decide) [(.int (1 : Int32)), (.int (4 : Int32))] rfl (lenOf pd5 rfl) (Ls := #[.val (.int (1 : Int32)), .val (.int (4 : Int32)), .val (.int (1 : Int32)), .unset]) (by rw [hml]; rfl) (rest := []) (Nat.le_of_eq rfl) (hb hby d3_15) e1 (by decide) (by decide)
  refine st2 _ ?_
  obtain ⟨rfl, N2q, e2⟩ := hQ2
  have N2 := Fr.app N1 N2q
  show own_Wp p e below _ T2 (mkF m 18 #[.val (.int (1 : Int32)), .val (.int (4 : Int32)), .val (.int (1 : Int32)), .unset] [(.int (4 : Int32))])
  refine own_step (fun _ k => XS.istoreN X2.here hx rfl (hb hby d3_18) rfl (l' := #[.val (.int (1 : Int32)), .val (.int (4 : Int32)), .val (.int (1 : Int32)), .val (.int (4 : Int32))]) rfl k) ?_
  show own_Wp p e below _ T2 (mkF m 19 #[.val (.int (1 : Int32)), .val (.int (4 : Int32)), .val (.int (1 : Int32)), .val (.int (4 : Int32))] [])
  refine own_step (fun _ k => XS.iloadN X2.here hx rfl (hb hby d3_19) rfl k) ?_
  show own_Wp p e below _ T2 (mkF m 20 #[.val (.int (1 : Int32)), .val (.int (4 : Int32)), .val (.int (1 : Int32)), .val (.int (4 : Int32))] [(.int (1 : Int32))])
  refine own_step (fun _ k => XS.ifYes X2.here hx rfl (pc0 := 20) (pc' := 39) rfl (hb hby d3_20) rfl (by decide) (by decide) (by decide) k) ?_
  show own_Wp p e below _ T2 (mkF m 39 #[.val (.int (1 : Int32)), .val (.int (4 : Int32)), .val (.int (1 : Int32)), .val (.int (4 : Int32))] [])
  refine own_step (fun _ k => XS.iloadN X2.here hx rfl (hb hby d3_39) rfl k) ?_
  show own_Wp p e below _ T2 (mkF m 40 #[.val (.int (1 : Int32)), .val (.int (4 : Int32)), .val (.int (1 : Int32)), .val (.int (4 : Int32))] [(.int (1 : Int32))])
  refine own_step (fun _ k => XS.iconst X2.here hx rfl (hb hby d3_40) k) ?_
  show own_Wp p e below _ T2 (mkF m 41 #[.val (.int (1 : Int32)), .val (.int (4 : Int32)), .val (.int (1 : Int32)), .val (.int (4 : Int32))] [(.int (1 : Int32)), (.int (1 : Int32))])
  refine own_step (fun _ k => XS.icmpNo X2.here hx rfl (hb hby d3_41) rfl (by decide) k) ?_
  show own_Wp p e below _ T2 (mkF m 44 #[.val (.int (1 : Int32)), .val (.int (4 : Int32)), .val (.int (1 : Int32)), .val (.int (4 : Int32))] [])
  refine own_step (fun _ k => XS.iloadN X2.here hx rfl (hb hby d3_44) rfl k) ?_
  show own_Wp p e below _ T2 (mkF m 45 #[.val (.int (1 : Int32)), .val (.int (4 : Int32)), .val (.int (1 : Int32)), .val (.int (4 : Int32))] [(.int (4 : Int32))])
  refine own_step (fun _ k => XS.iconst X2.here hx rfl (hb hby d3_45) k) ?_
  show own_Wp p e below _ T2 (mkF m 46 #[.val (.int (1 : Int32)), .val (.int (4 : Int32)), .val (.int (1 : Int32)), .val (.int (4 : Int32))] [(.int (3 : Int32)), (.int (4 : Int32))])
  refine own_step (fun _ k => XS.icmpNo X2.here hx rfl (hb hby d3_46) rfl (by decide) k) ?_
  show own_Wp p e below _ T2 (mkF m 49 #[.val (.int (1 : Int32)), .val (.int (4 : Int32)), .val (.int (1 : Int32)), .val (.int (4 : Int32))] [])
  refine own_step (fun _ k => XS.iloadN X2.here hx rfl (hb hby d3_49) rfl k) ?_
  show own_Wp p e below _ T2 (mkF m 50 #[.val (.int (1 : Int32)), .val (.int (4 : Int32)), .val (.int (1 : Int32)), .val (.int (4 : Int32))] [(.int (4 : Int32))])
  refine own_step (fun _ k => XS.iconst X2.here hx rfl (hb hby d3_50) k) ?_
  show own_Wp p e below _ T2 (mkF m 51 #[.val (.int (1 : Int32)), .val (.int (4 : Int32)), .val (.int (1 : Int32)), .val (.int (4 : Int32))] [(.int (5 : Int32)), (.int (4 : Int32))])
  refine own_step (fun _ k => XS.icmpYes X2.here hx rfl (pc0 := 51) (pc' := 58) rfl (hb hby d3_51) rfl (by decide) (by decide) (by decide) k) ?_
  show own_Wp p e below _ T2 (mkF m 58 #[.val (.int (1 : Int32)), .val (.int (4 : Int32)), .val (.int (1 : Int32)), .val (.int (4 : Int32))] [])
  refine own_step (fun _ k => XS.iconst X2.here hx rfl (hb hby d3_58) k) ?_
  show own_Wp p e below _ T2 (mkF m 59 #[.val (.int (1 : Int32)), .val (.int (4 : Int32)), .val (.int (1 : Int32)), .val (.int (4 : Int32))] [(.int (0 : Int32))])
  exact own_retN X2 hx (t := .boolean) hret (by simp) hlk (hb hby d3_59) (by decide) (by decide) (by rw [e2]; exact ⟨rfl, N2, rfl⟩)

set_option maxRecDepth 65536 in
set_option maxHeartbeats 40000000 in
theorem rm4_41 (l : Launch) (Z : State) (a0 : Array Value) (hw : ∀ d ∈ tables_1, d.before a0 Z = true) (hA : ∀ d ∈ own_flat narrow_1, d.value a0 Z none Z [] = some true) (ws : List Jvm.Cond) (h0 : Heap) (n0 : Nat) (O0 : Old Z n0 h0) :
    own_Met l Z (⟨"java/lang/Math", "min", "(II)I"⟩ : MethodName) (Jvm.Cond.code (⟨"java/lang/Math", "min", "(II)I"⟩ : MethodName) jdk_29_method_69_code 2 (some .int)) ws ({ frames := 0, cells := 0, slots := 0, locals := 0 } : Room) #[(.int (1 : Int32)), (.int (5 : Int32))] h0 (fun v h L => (v = some (.int (1 : Int32)) ∧ Fr n0 L ∧ h = h0)) := by
  refine own_met (own := "java/lang/Math") (Jvm.Free.JP.mathPlain rfl (by decide +kernel)) rfl ?_
  intro p e s m below meth c s₁ hx hby hml hown hnm hret hlk hZ e0 X0
  refine own_cast (g' := (mkF m 0 #[.val (.int (1 : Int32)), .val (.int (5 : Int32))] [])) (by first | (simp [entryFrame, mkF, argsToLocals, Value.category]; done) | rfl) ?_
  refine own_step (fun _ k => XS.iloadN X0.here hx rfl (hb hby d4_0) rfl k) ?_
  show own_Wp p e below _ s₁ (mkF m 1 #[.val (.int (1 : Int32)), .val (.int (5 : Int32))] [(.int (1 : Int32))])
  refine own_step (fun _ k => XS.iloadN X0.here hx rfl (hb hby d4_1) rfl k) ?_
  show own_Wp p e below _ s₁ (mkF m 2 #[.val (.int (1 : Int32)), .val (.int (5 : Int32))] [(.int (5 : Int32)), (.int (1 : Int32))])
  refine own_step (fun _ k => XS.icmpNo X0.here hx rfl (hb hby d4_2) rfl (by decide) k) ?_
  show own_Wp p e below _ s₁ (mkF m 5 #[.val (.int (1 : Int32)), .val (.int (5 : Int32))] [])
  refine own_step (fun _ k => XS.iloadN X0.here hx rfl (hb hby d4_5) rfl k) ?_
  show own_Wp p e below _ s₁ (mkF m 6 #[.val (.int (1 : Int32)), .val (.int (5 : Int32))] [(.int (1 : Int32))])
  refine own_step (fun _ k => XS.goto X0.here hx rfl (pc0 := 6) (pc' := 10) rfl (hb hby d4_6) (by decide) (by decide) k) ?_
  show own_Wp p e below _ s₁ (mkF m 10 #[.val (.int (1 : Int32)), .val (.int (5 : Int32))] [(.int (1 : Int32))])
  exact own_retI X0 hx hret hlk (hb hby d4_10) (by decide) (by decide) (by rw [e0]; exact ⟨rfl, (Fr.nil n0), rfl⟩)

set_option maxRecDepth 65536 in
set_option maxHeartbeats 40000000 in
theorem rm5_42 (l : Launch) (Z : State) (a0 : Array Value) (hw : ∀ d ∈ tables_1, d.before a0 Z = true) (hA : ∀ d ∈ own_flat narrow_1, d.value a0 Z none Z [] = some true) (ws : List Jvm.Cond) (h0 : Heap) (n0 : Nat) (O0 : Old Z n0 h0) :
    own_Met l Z (⟨"java/lang/Math", "max", "(II)I"⟩ : MethodName) (Jvm.Cond.code (⟨"java/lang/Math", "max", "(II)I"⟩ : MethodName) jdk_29_method_65_code 2 (some .int)) ws ({ frames := 0, cells := 0, slots := 0, locals := 0 } : Room) #[(.int (1 : Int32)), (.int (5 : Int32))] h0 (fun v h L => (v = some (.int (5 : Int32)) ∧ Fr n0 L ∧ h = h0)) := by
  refine own_met (own := "java/lang/Math") (Jvm.Free.JP.mathPlain rfl (by decide +kernel)) rfl ?_
  intro p e s m below meth c s₁ hx hby hml hown hnm hret hlk hZ e0 X0
  refine own_cast (g' := (mkF m 0 #[.val (.int (1 : Int32)), .val (.int (5 : Int32))] [])) (by first | (simp [entryFrame, mkF, argsToLocals, Value.category]; done) | rfl) ?_
  refine own_step (fun _ k => XS.iloadN X0.here hx rfl (hb hby d5_0) rfl k) ?_
  show own_Wp p e below _ s₁ (mkF m 1 #[.val (.int (1 : Int32)), .val (.int (5 : Int32))] [(.int (1 : Int32))])
  refine own_step (fun _ k => XS.iloadN X0.here hx rfl (hb hby d5_1) rfl k) ?_
  show own_Wp p e below _ s₁ (mkF m 2 #[.val (.int (1 : Int32)), .val (.int (5 : Int32))] [(.int (5 : Int32)), (.int (1 : Int32))])
  refine own_step (fun _ k => XS.icmpYes X0.here hx rfl (pc0 := 2) (pc' := 9) rfl (hb hby d5_2) rfl (by decide) (by decide) (by decide) k) ?_
  show own_Wp p e below _ s₁ (mkF m 9 #[.val (.int (1 : Int32)), .val (.int (5 : Int32))] [])
  refine own_step (fun _ k => XS.iloadN X0.here hx rfl (hb hby d5_9) rfl k) ?_
  show own_Wp p e below _ s₁ (mkF m 10 #[.val (.int (1 : Int32)), .val (.int (5 : Int32))] [(.int (5 : Int32))])
  exact own_retI X0 hx hret hlk (hb hby d5_10) (by decide) (by decide) (by rw [e0]; exact ⟨rfl, (Fr.nil n0), rfl⟩)

set_option maxRecDepth 65536 in
set_option maxHeartbeats 40000000 in
theorem rm3_43 (l : Launch) (Z : State) (a0 : Array Value) (hw : ∀ d ∈ tables_1, d.before a0 Z = true) (hA : ∀ d ∈ own_flat narrow_1, d.value a0 Z none Z [] = some true) (ws : List Jvm.Cond) (h0 : Heap) (n0 : Nat) (O0 : Old Z n0 h0) :
    own_Met l Z (⟨"com/example/pathfare/pathfare/alto/TypeIsCompatibleWithPinLaw", "expected", "(II)Z"⟩ : MethodName) (Jvm.Cond.code (⟨"com/example/pathfare/pathfare/alto/TypeIsCompatibleWithPinLaw", "expected", "(II)Z"⟩ : MethodName) method_3_code 4 (some .boolean)) ws ({ frames := 1, cells := 0, slots := 0, locals := 13 } : Room) #[(.int (1 : Int32)), (.int (5 : Int32))] h0 (fun v h L => (v = some (.int (1 : Int32)) ∧ Fr n0 L ∧ h = h0)) := by
  refine own_met (own := "com/example/pathfare/pathfare/alto/TypeIsCompatibleWithPinLaw") (plainFor_of_name pn0) rfl ?_
  intro p e s m below meth c s₁ hx hby hml hown hnm hret hlk hZ e0 X0
  refine own_cast (g' := (mkF m 0 #[.val (.int (1 : Int32)), .val (.int (5 : Int32)), .unset, .unset] [])) (by first | (simp [entryFrame, mkF, argsToLocals, Value.category]; done) | rfl) ?_
  refine own_step (fun _ k => XS.iloadN X0.here hx rfl (hb hby d3_0) rfl k) ?_
  show own_Wp p e below _ s₁ (mkF m 1 #[.val (.int (1 : Int32)), .val (.int (5 : Int32)), .unset, .unset] [(.int (1 : Int32))])
  refine own_step (fun _ k => XS.iloadN X0.here hx rfl (hb hby d3_1) rfl k) ?_
  show own_Wp p e below _ s₁ (mkF m 2 #[.val (.int (1 : Int32)), .val (.int (5 : Int32)), .unset, .unset] [(.int (5 : Int32)), (.int (1 : Int32))])
  refine own_step (fun _ k => XS.icmpYes X0.here hx rfl (pc0 := 2) (pc' := 7) rfl (hb hby d3_2) rfl (by decide) (by decide) (by decide) k) ?_
  show own_Wp p e below _ s₁ (mkF m 7 #[.val (.int (1 : Int32)), .val (.int (5 : Int32)), .unset, .unset] [])
  refine own_step (fun _ k => XS.iloadN X0.here hx rfl (hb hby d3_7) rfl k) ?_
  show own_Wp p e below _ s₁ (mkF m 8 #[.val (.int (1 : Int32)), .val (.int (5 : Int32)), .unset, .unset] [(.int (1 : Int32))])
  refine own_step (fun _ k => XS.iloadN X0.here hx rfl (hb hby d3_8) rfl k) ?_
  show own_Wp p e below _ s₁ (mkF m 9 #[.val (.int (1 : Int32)), .val (.int (5 : Int32)), .unset, .unset] [(.int (5 : Int32)), (.int (1 : Int32))])
  obtain ⟨_, T1, L1, X1, hQ1, st1⟩ := own_callS X0 hx hZ hown (hw _ (List.mem_of_getElem? (i := 20) rfl)) (hw _ (List.mem_of_getElem? (i := 21) rfl)) (hw _ (List.mem_of_getElem? (i := 22) rfl)) (hw _ (List.mem_of_getElem? (i := 23) rfl)) (by decide) (rm4_41 l Z a0 hw hA [] h0 n0 O0) (W := 0) (by decide) (by decide) [(.int (1 : Int32)), (.int (5 : Int32))] rfl (lenOf pd5 rfl) (Ls := #[.val (.int (1 : Int32)), .val (.int (5 : Int32)), .unset, .unset]) (by rw [hml]; rfl) (rest := []) (Nat.le_of_eq rfl) (hb hby d3_9) e0 (by decide) (by decide)
  refine st1 _ ?_
  obtain ⟨rfl, N1q, e1⟩ := hQ1
  have N1 := Fr.app (Fr.nil n0) N1q
  show own_Wp p e below _ T1 (mkF m 12 #[.val (.int (1 : Int32)), .val (.int (5 : Int32)), .unset, .unset] [(.int (1 : Int32))])
  refine own_step (fun _ k => XS.istoreN X1.here hx rfl (hb hby d3_12) rfl (l' := #[.val (.int (1 : Int32)), .val (.int (5 : Int32)), .val (.int (1 : Int32)), .unset]) rfl k) ?_
  show own_Wp p e below _ T1 (mkF m 13 #[.val (.int (1 : Int32)), .val (.int (5 : Int32)), .val (.int (1 : Int32)), .unset] [])
  refine own_step (fun _ k => XS.iloadN X1.here hx rfl (hb hby d3_13) rfl k) ?_
  show own_Wp p e below _ T1 (mkF m 14 #[.val (.int (1 : Int32)), .val (.int (5 : Int32)), .val (.int (1 : Int32)), .unset] [(.int (1 : Int32))])
  refine own_step (fun _ k => XS.iloadN X1.here hx rfl (hb hby d3_14) rfl k) ?_
  show own_Wp p e below _ T1 (mkF m 15 #[.val (.int (1 : Int32)), .val (.int (5 : Int32)), .val (.int (1 : Int32)), .unset] [(.int (5 : Int32)), (.int (1 : Int32))])
  obtain ⟨_, T2, L2, X2, hQ2, st2⟩ := own_callS X1 hx hZ hown (hw _ (List.mem_of_getElem? (i := 24) rfl)) (hw _ (List.mem_of_getElem? (i := 25) rfl)) (hw _ (List.mem_of_getElem? (i := 22) rfl)) (hw _ (List.mem_of_getElem? (i := 26) rfl)) (by decide) (rm5_42 l Z a0 hw hA [] h0 n0 O0) (W := 0) (by decide) (by decide) [(.int (1 : Int32)), (.int (5 : Int32))] rfl (lenOf pd5 rfl) (Ls := #[.val (.int (1 : Int32)), .val (.int (5 : Int32)), .val (.int (1 : Int32)), .unset]) (by rw [hml]; rfl) (rest := []) (Nat.le_of_eq rfl) (hb hby d3_15) e1 (by decide) (by decide)
  refine st2 _ ?_
  obtain ⟨rfl, N2q, e2⟩ := hQ2
  have N2 := Fr.app N1 N2q
  show own_Wp p e below _ T2 (mkF m 18 #[.val (.int (1 : Int32)), .val (.int (5 : Int32)), .val (.int (1 : Int32)), .unset] [(.int (5 : Int32))])
  refine own_step (fun _ k => XS.istoreN X2.here hx rfl (hb hby d3_18) rfl (l' := #[.val (.int (1 : Int32)), .val (.int (5 : Int32)), .val (.int (1 : Int32)), .val (.int (5 : Int32))]) rfl k) ?_
  show own_Wp p e below _ T2 (mkF m 19 #[.val (.int (1 : Int32)), .val (.int (5 : Int32)), .val (.int (1 : Int32)), .val (.int (5 : Int32))] [])
  refine own_step (fun _ k => XS.iloadN X2.here hx rfl (hb hby d3_19) rfl k) ?_
  show own_Wp p e below _ T2 (mkF m 20 #[.val (.int (1 : Int32)), .val (.int (5 : Int32)), .val (.int (1 : Int32)), .val (.int (5 : Int32))] [(.int (1 : Int32))])
  refine own_step (fun _ k => XS.ifYes X2.here hx rfl (pc0 := 20) (pc' := 39) rfl (hb hby d3_20) rfl (by decide) (by decide) (by decide) k) ?_
  show own_Wp p e below _ T2 (mkF m 39 #[.val (.int (1 : Int32)), .val (.int (5 : Int32)), .val (.int (1 : Int32)), .val (.int (5 : Int32))] [])
  refine own_step (fun _ k => XS.iloadN X2.here hx rfl (hb hby d3_39) rfl k) ?_
  show own_Wp p e below _ T2 (mkF m 40 #[.val (.int (1 : Int32)), .val (.int (5 : Int32)), .val (.int (1 : Int32)), .val (.int (5 : Int32))] [(.int (1 : Int32))])
  refine own_step (fun _ k => XS.iconst X2.here hx rfl (hb hby d3_40) k) ?_
  show own_Wp p e below _ T2 (mkF m 41 #[.val (.int (1 : Int32)), .val (.int (5 : Int32)), .val (.int (1 : Int32)), .val (.int (5 : Int32))] [(.int (1 : Int32)), (.int (1 : Int32))])
  refine own_step (fun _ k => XS.icmpNo X2.here hx rfl (hb hby d3_41) rfl (by decide) k) ?_
  show own_Wp p e below _ T2 (mkF m 44 #[.val (.int (1 : Int32)), .val (.int (5 : Int32)), .val (.int (1 : Int32)), .val (.int (5 : Int32))] [])
  refine own_step (fun _ k => XS.iloadN X2.here hx rfl (hb hby d3_44) rfl k) ?_
  show own_Wp p e below _ T2 (mkF m 45 #[.val (.int (1 : Int32)), .val (.int (5 : Int32)), .val (.int (1 : Int32)), .val (.int (5 : Int32))] [(.int (5 : Int32))])
  refine own_step (fun _ k => XS.iconst X2.here hx rfl (hb hby d3_45) k) ?_
  show own_Wp p e below _ T2 (mkF m 46 #[.val (.int (1 : Int32)), .val (.int (5 : Int32)), .val (.int (1 : Int32)), .val (.int (5 : Int32))] [(.int (3 : Int32)), (.int (5 : Int32))])
  refine own_step (fun _ k => XS.icmpNo X2.here hx rfl (hb hby d3_46) rfl (by decide) k) ?_
  show own_Wp p e below _ T2 (mkF m 49 #[.val (.int (1 : Int32)), .val (.int (5 : Int32)), .val (.int (1 : Int32)), .val (.int (5 : Int32))] [])
  refine own_step (fun _ k => XS.iloadN X2.here hx rfl (hb hby d3_49) rfl k) ?_
  show own_Wp p e below _ T2 (mkF m 50 #[.val (.int (1 : Int32)), .val (.int (5 : Int32)), .val (.int (1 : Int32)), .val (.int (5 : Int32))] [(.int (5 : Int32))])
  refine own_step (fun _ k => XS.iconst X2.here hx rfl (hb hby d3_50) k) ?_
  show own_Wp p e below _ T2 (mkF m 51 #[.val (.int (1 : Int32)), .val (.int (5 : Int32)), .val (.int (1 : Int32)), .val (.int (5 : Int32))] [(.int (5 : Int32)), (.int (5 : Int32))])
  refine own_step (fun _ k => XS.icmpNo X2.here hx rfl (hb hby d3_51) rfl (by decide) k) ?_
  show own_Wp p e below _ T2 (mkF m 54 #[.val (.int (1 : Int32)), .val (.int (5 : Int32)), .val (.int (1 : Int32)), .val (.int (5 : Int32))] [])
  refine own_step (fun _ k => XS.iconst X2.here hx rfl (hb hby d3_54) k) ?_
  show own_Wp p e below _ T2 (mkF m 55 #[.val (.int (1 : Int32)), .val (.int (5 : Int32)), .val (.int (1 : Int32)), .val (.int (5 : Int32))] [(.int (1 : Int32))])
  refine own_step (fun _ k => XS.goto X2.here hx rfl (pc0 := 55) (pc' := 59) rfl (hb hby d3_55) (by decide) (by decide) k) ?_
  show own_Wp p e below _ T2 (mkF m 59 #[.val (.int (1 : Int32)), .val (.int (5 : Int32)), .val (.int (1 : Int32)), .val (.int (5 : Int32))] [(.int (1 : Int32))])
  exact own_retN X2 hx (t := .boolean) hret (by simp) hlk (hb hby d3_59) (by decide) (by decide) (by rw [e2]; exact ⟨rfl, N2, rfl⟩)

set_option maxRecDepth 65536 in
set_option maxHeartbeats 40000000 in
theorem rm2_44 (l : Launch) (Z : State) (a0 : Array Value) (hw : ∀ d ∈ tables_1, d.before a0 Z = true) (hA : ∀ d ∈ own_flat narrow_1, d.value a0 Z none Z [] = some true) (ws : List Jvm.Cond) (x1 : Addr) (x2 : Addr) (h0 : Heap) (n0 : Nat) (O0 : Old Z n0 h0) (D0 : Fld Z Z.heap x1 "com/example/pathfare/pathfare/alto/EndpointAddress$Type" "ipv4" "Z" (.int (1 : Int32))) (D1 : Fld Z Z.heap x2 "com/example/pathfare/pathfare/alto/EndpointAddress$Type" "ipv4" "Z" (.int (1 : Int32))) (D2 : x1 ≠ x2) (D3 : Fld Z Z.heap x1 "com/example/pathfare/pathfare/alto/EndpointAddress$Type" "socket" "Z" (.int (1 : Int32))) (D4 : Fld Z Z.heap x2 "com/example/pathfare/pathfare/alto/EndpointAddress$Type" "socket" "Z" (.int (0 : Int32))) :
    own_Met l Z (⟨"com/example/pathfare/pathfare/alto/EndpointAddress$Type", "isCompatibleWith", "(Lcom/example/pathfare/pathfare/alto/EndpointAddress$Type;)Z"⟩ : MethodName) (Jvm.Cond.code (⟨"com/example/pathfare/pathfare/alto/EndpointAddress$Type", "isCompatibleWith", "(Lcom/example/pathfare/pathfare/alto/EndpointAddress$Type;)Z"⟩ : MethodName) prog_3_method_6_code 2 (some .boolean)) ws ({ frames := 0, cells := 0, slots := 0, locals := 0 } : Room) #[(.ref x1), (.ref x2)] h0 (fun v h L => (v = some (.int (1 : Int32)) ∧ Fr n0 L ∧ h = h0)) := by
  refine own_met (own := "com/example/pathfare/pathfare/alto/EndpointAddress$Type") (plainFor_of_name pn2) rfl ?_
  intro p e s m below meth c s₁ hx hby hml hown hnm hret hlk hZ e0 X0
  refine own_cast (g' := (mkF m 0 #[.val (.ref x1), .val (.ref x2)] [])) (by first | (simp [entryFrame, mkF, argsToLocals, Value.category]; done) | rfl) ?_
  refine own_step (fun _ k => XS.aloadN X0.here hx rfl (hb hby d2_0) rfl rfl k) ?_
  show own_Wp p e below _ s₁ (mkF m 1 #[.val (.ref x1), .val (.ref x2)] [(.ref x1)])
  obtain ⟨T1, X1, e1, st1⟩ := getF X0 hx hZ hown (host := "") (Or.inl (hw _ (List.mem_of_getElem? (i := 15) rfl))) Via.refl e0 (D0.ext O0.2) (g := (mkF m 1 #[.val (.ref x1), .val (.ref x2)] [(.ref x1)])) rfl rfl (hb hby d2_1)
  refine own_step st1 ?_
  show own_Wp p e below _ T1 (mkF m 4 #[.val (.ref x1), .val (.ref x2)] [(.int (1 : Int32))])
  refine own_step (fun _ k => XS.aloadN X1.here hx rfl (hb hby d2_4) rfl rfl k) ?_
  show own_Wp p e below _ T1 (mkF m 5 #[.val (.ref x1), .val (.ref x2)] [(.ref x2), (.int (1 : Int32))])
  obtain ⟨T2, X2, e2, st2⟩ := getF X1 hx hZ hown (host := "") (Or.inl (hw _ (List.mem_of_getElem? (i := 15) rfl))) Via.refl e1 (D1.ext O0.2) (g := (mkF m 5 #[.val (.ref x1), .val (.ref x2)] [(.ref x2), (.int (1 : Int32))])) rfl rfl (hb hby d2_5)
  refine own_step st2 ?_
  show own_Wp p e below _ T2 (mkF m 8 #[.val (.ref x1), .val (.ref x2)] [(.int (1 : Int32)), (.int (1 : Int32))])
  refine own_step (fun _ k => XS.icmpNo X2.here hx rfl (hb hby d2_8) rfl (by decide) k) ?_
  show own_Wp p e below _ T2 (mkF m 11 #[.val (.ref x1), .val (.ref x2)] [])
  refine own_step (fun _ k => XS.aloadN X2.here hx rfl (hb hby d2_11) rfl rfl k) ?_
  show own_Wp p e below _ T2 (mkF m 12 #[.val (.ref x1), .val (.ref x2)] [(.ref x1)])
  refine own_step (fun _ k => XS.aloadN X2.here hx rfl (hb hby d2_12) rfl rfl k) ?_
  show own_Wp p e below _ T2 (mkF m 13 #[.val (.ref x1), .val (.ref x2)] [(.ref x2), (.ref x1)])
  refine own_step (fun _ k => Jvm.RoadKit.acmp (g := (mkF m 13 #[.val (.ref x1), .val (.ref x2)] [(.ref x2), (.ref x1)])) X2 hx rfl rfl rfl (pc0 := 13) (pc' := 16) (same := false) rfl (hb hby d2_13) rfl (decide_eq_false fun q => D2 (Value.ref.inj q)) (by decide) (by decide) k) ?_
  show own_Wp p e below _ T2 (mkF m 16 #[.val (.ref x1), .val (.ref x2)] [])
  refine own_step (fun _ k => XS.aloadN X2.here hx rfl (hb hby d2_16) rfl rfl k) ?_
  show own_Wp p e below _ T2 (mkF m 17 #[.val (.ref x1), .val (.ref x2)] [(.ref x1)])
  obtain ⟨T3, X3, e3, st3⟩ := getF X2 hx hZ hown (host := "") (Or.inl (hw _ (List.mem_of_getElem? (i := 35) rfl))) Via.refl e2 (D3.ext O0.2) (g := (mkF m 17 #[.val (.ref x1), .val (.ref x2)] [(.ref x1)])) rfl rfl (hb hby d2_17)
  refine own_step st3 ?_
  show own_Wp p e below _ T3 (mkF m 20 #[.val (.ref x1), .val (.ref x2)] [(.int (1 : Int32))])
  refine own_step (fun _ k => XS.ifNo X3.here hx rfl (hb hby d2_20) rfl (by decide) k) ?_
  show own_Wp p e below _ T3 (mkF m 23 #[.val (.ref x1), .val (.ref x2)] [])
  refine own_step (fun _ k => XS.aloadN X3.here hx rfl (hb hby d2_23) rfl rfl k) ?_
  show own_Wp p e below _ T3 (mkF m 24 #[.val (.ref x1), .val (.ref x2)] [(.ref x2)])
  obtain ⟨T4, X4, e4, st4⟩ := getF X3 hx hZ hown (host := "") (Or.inl (hw _ (List.mem_of_getElem? (i := 35) rfl))) Via.refl e3 (D4.ext O0.2) (g := (mkF m 24 #[.val (.ref x1), .val (.ref x2)] [(.ref x2)])) rfl rfl (hb hby d2_24)
  refine own_step st4 ?_
  show own_Wp p e below _ T4 (mkF m 27 #[.val (.ref x1), .val (.ref x2)] [(.int (0 : Int32))])
  refine own_step (fun _ k => XS.ifNo X4.here hx rfl (hb hby d2_27) rfl (by decide) k) ?_
  show own_Wp p e below _ T4 (mkF m 30 #[.val (.ref x1), .val (.ref x2)] [])
  refine own_step (fun _ k => XS.iconst X4.here hx rfl (hb hby d2_30) k) ?_
  show own_Wp p e below _ T4 (mkF m 31 #[.val (.ref x1), .val (.ref x2)] [(.int (1 : Int32))])
  refine own_step (fun _ k => XS.goto X4.here hx rfl (pc0 := 31) (pc' := 35) rfl (hb hby d2_31) (by decide) (by decide) k) ?_
  show own_Wp p e below _ T4 (mkF m 35 #[.val (.ref x1), .val (.ref x2)] [(.int (1 : Int32))])
  exact own_retN X4 hx (t := .boolean) hret (by simp) hlk (hb hby d2_35) (by decide) (by decide) (by rw [e4]; exact ⟨rfl, (Fr.nil n0), rfl⟩)

set_option maxRecDepth 65536 in
set_option maxHeartbeats 40000000 in
theorem rm4_45 (l : Launch) (Z : State) (a0 : Array Value) (hw : ∀ d ∈ tables_1, d.before a0 Z = true) (hA : ∀ d ∈ own_flat narrow_1, d.value a0 Z none Z [] = some true) (ws : List Jvm.Cond) (h0 : Heap) (n0 : Nat) (O0 : Old Z n0 h0) :
    own_Met l Z (⟨"java/lang/Math", "min", "(II)I"⟩ : MethodName) (Jvm.Cond.code (⟨"java/lang/Math", "min", "(II)I"⟩ : MethodName) jdk_29_method_69_code 2 (some .int)) ws ({ frames := 0, cells := 0, slots := 0, locals := 0 } : Room) #[(.int (2 : Int32)), (.int (0 : Int32))] h0 (fun v h L => (v = some (.int (0 : Int32)) ∧ Fr n0 L ∧ h = h0)) := by
  refine own_met (own := "java/lang/Math") (Jvm.Free.JP.mathPlain rfl (by decide +kernel)) rfl ?_
  intro p e s m below meth c s₁ hx hby hml hown hnm hret hlk hZ e0 X0
  refine own_cast (g' := (mkF m 0 #[.val (.int (2 : Int32)), .val (.int (0 : Int32))] [])) (by first | (simp [entryFrame, mkF, argsToLocals, Value.category]; done) | rfl) ?_
  refine own_step (fun _ k => XS.iloadN X0.here hx rfl (hb hby d4_0) rfl k) ?_
  show own_Wp p e below _ s₁ (mkF m 1 #[.val (.int (2 : Int32)), .val (.int (0 : Int32))] [(.int (2 : Int32))])
  refine own_step (fun _ k => XS.iloadN X0.here hx rfl (hb hby d4_1) rfl k) ?_
  show own_Wp p e below _ s₁ (mkF m 2 #[.val (.int (2 : Int32)), .val (.int (0 : Int32))] [(.int (0 : Int32)), (.int (2 : Int32))])
  refine own_step (fun _ k => XS.icmpYes X0.here hx rfl (pc0 := 2) (pc' := 9) rfl (hb hby d4_2) rfl (by decide) (by decide) (by decide) k) ?_
  show own_Wp p e below _ s₁ (mkF m 9 #[.val (.int (2 : Int32)), .val (.int (0 : Int32))] [])
  refine own_step (fun _ k => XS.iloadN X0.here hx rfl (hb hby d4_9) rfl k) ?_
  show own_Wp p e below _ s₁ (mkF m 10 #[.val (.int (2 : Int32)), .val (.int (0 : Int32))] [(.int (0 : Int32))])
  exact own_retI X0 hx hret hlk (hb hby d4_10) (by decide) (by decide) (by rw [e0]; exact ⟨rfl, (Fr.nil n0), rfl⟩)

set_option maxRecDepth 65536 in
set_option maxHeartbeats 40000000 in
theorem rm5_46 (l : Launch) (Z : State) (a0 : Array Value) (hw : ∀ d ∈ tables_1, d.before a0 Z = true) (hA : ∀ d ∈ own_flat narrow_1, d.value a0 Z none Z [] = some true) (ws : List Jvm.Cond) (h0 : Heap) (n0 : Nat) (O0 : Old Z n0 h0) :
    own_Met l Z (⟨"java/lang/Math", "max", "(II)I"⟩ : MethodName) (Jvm.Cond.code (⟨"java/lang/Math", "max", "(II)I"⟩ : MethodName) jdk_29_method_65_code 2 (some .int)) ws ({ frames := 0, cells := 0, slots := 0, locals := 0 } : Room) #[(.int (2 : Int32)), (.int (0 : Int32))] h0 (fun v h L => (v = some (.int (2 : Int32)) ∧ Fr n0 L ∧ h = h0)) := by
  refine own_met (own := "java/lang/Math") (Jvm.Free.JP.mathPlain rfl (by decide +kernel)) rfl ?_
  intro p e s m below meth c s₁ hx hby hml hown hnm hret hlk hZ e0 X0
  refine own_cast (g' := (mkF m 0 #[.val (.int (2 : Int32)), .val (.int (0 : Int32))] [])) (by first | (simp [entryFrame, mkF, argsToLocals, Value.category]; done) | rfl) ?_
  refine own_step (fun _ k => XS.iloadN X0.here hx rfl (hb hby d5_0) rfl k) ?_
  show own_Wp p e below _ s₁ (mkF m 1 #[.val (.int (2 : Int32)), .val (.int (0 : Int32))] [(.int (2 : Int32))])
  refine own_step (fun _ k => XS.iloadN X0.here hx rfl (hb hby d5_1) rfl k) ?_
  show own_Wp p e below _ s₁ (mkF m 2 #[.val (.int (2 : Int32)), .val (.int (0 : Int32))] [(.int (0 : Int32)), (.int (2 : Int32))])
  refine own_step (fun _ k => XS.icmpNo X0.here hx rfl (hb hby d5_2) rfl (by decide) k) ?_
  show own_Wp p e below _ s₁ (mkF m 5 #[.val (.int (2 : Int32)), .val (.int (0 : Int32))] [])
  refine own_step (fun _ k => XS.iloadN X0.here hx rfl (hb hby d5_5) rfl k) ?_
  show own_Wp p e below _ s₁ (mkF m 6 #[.val (.int (2 : Int32)), .val (.int (0 : Int32))] [(.int (2 : Int32))])
  refine own_step (fun _ k => XS.goto X0.here hx rfl (pc0 := 6) (pc' := 10) rfl (hb hby d5_6) (by decide) (by decide) k) ?_
  show own_Wp p e below _ s₁ (mkF m 10 #[.val (.int (2 : Int32)), .val (.int (0 : Int32))] [(.int (2 : Int32))])
  exact own_retI X0 hx hret hlk (hb hby d5_10) (by decide) (by decide) (by rw [e0]; exact ⟨rfl, (Fr.nil n0), rfl⟩)

set_option maxRecDepth 65536 in
set_option maxHeartbeats 40000000 in
theorem rm3_47 (l : Launch) (Z : State) (a0 : Array Value) (hw : ∀ d ∈ tables_1, d.before a0 Z = true) (hA : ∀ d ∈ own_flat narrow_1, d.value a0 Z none Z [] = some true) (ws : List Jvm.Cond) (h0 : Heap) (n0 : Nat) (O0 : Old Z n0 h0) :
    own_Met l Z (⟨"com/example/pathfare/pathfare/alto/TypeIsCompatibleWithPinLaw", "expected", "(II)Z"⟩ : MethodName) (Jvm.Cond.code (⟨"com/example/pathfare/pathfare/alto/TypeIsCompatibleWithPinLaw", "expected", "(II)Z"⟩ : MethodName) method_3_code 4 (some .boolean)) ws ({ frames := 1, cells := 0, slots := 0, locals := 13 } : Room) #[(.int (2 : Int32)), (.int (0 : Int32))] h0 (fun v h L => (v = some (.int (1 : Int32)) ∧ Fr n0 L ∧ h = h0)) := by
  refine own_met (own := "com/example/pathfare/pathfare/alto/TypeIsCompatibleWithPinLaw") (plainFor_of_name pn0) rfl ?_
  intro p e s m below meth c s₁ hx hby hml hown hnm hret hlk hZ e0 X0
  refine own_cast (g' := (mkF m 0 #[.val (.int (2 : Int32)), .val (.int (0 : Int32)), .unset, .unset] [])) (by first | (simp [entryFrame, mkF, argsToLocals, Value.category]; done) | rfl) ?_
  refine own_step (fun _ k => XS.iloadN X0.here hx rfl (hb hby d3_0) rfl k) ?_
  show own_Wp p e below _ s₁ (mkF m 1 #[.val (.int (2 : Int32)), .val (.int (0 : Int32)), .unset, .unset] [(.int (2 : Int32))])
  refine own_step (fun _ k => XS.iloadN X0.here hx rfl (hb hby d3_1) rfl k) ?_
  show own_Wp p e below _ s₁ (mkF m 2 #[.val (.int (2 : Int32)), .val (.int (0 : Int32)), .unset, .unset] [(.int (0 : Int32)), (.int (2 : Int32))])
  refine own_step (fun _ k => XS.icmpYes X0.here hx rfl (pc0 := 2) (pc' := 7) rfl (hb hby d3_2) rfl (by decide) (by decide) (by decide) k) ?_
  show own_Wp p e below _ s₁ (mkF m 7 #[.val (.int (2 : Int32)), .val (.int (0 : Int32)), .unset, .unset] [])
  refine own_step (fun _ k => XS.iloadN X0.here hx rfl (hb hby d3_7) rfl k) ?_
  show own_Wp p e below _ s₁ (mkF m 8 #[.val (.int (2 : Int32)), .val (.int (0 : Int32)), .unset, .unset] [(.int (2 : Int32))])
  refine own_step (fun _ k => XS.iloadN X0.here hx rfl (hb hby d3_8) rfl k) ?_
  show own_Wp p e below _ s₁ (mkF m 9 #[.val (.int (2 : Int32)), .val (.int (0 : Int32)), .unset, .unset] [(.int (0 : Int32)), (.int (2 : Int32))])
  obtain ⟨_, T1, L1, X1, hQ1, st1⟩ := own_callS X0 hx hZ hown (hw _ (List.mem_of_getElem? (i := 20) rfl)) (hw _ (List.mem_of_getElem? (i := 21) rfl)) (hw _ (List.mem_of_getElem? (i := 22) rfl)) (hw _ (List.mem_of_getElem? (i := 23) rfl)) (by decide) (rm4_45 l Z a0 hw hA [] h0 n0 O0) (W := 0) (by decide) (by decide) [(.int (2 : Int32)), (.int (0 : Int32))] rfl (lenOf pd5 rfl) (Ls := #[.val (.int (2 : Int32)), .val (.int (0 : Int32)), .unset, .unset]) (by rw [hml]; rfl) (rest := []) (Nat.le_of_eq rfl) (hb hby d3_9) e0 (by decide) (by decide)
  refine st1 _ ?_
  obtain ⟨rfl, N1q, e1⟩ := hQ1
  have N1 := Fr.app (Fr.nil n0) N1q
  show own_Wp p e below _ T1 (mkF m 12 #[.val (.int (2 : Int32)), .val (.int (0 : Int32)), .unset, .unset] [(.int (0 : Int32))])
  refine own_step (fun _ k => XS.istoreN X1.here hx rfl (hb hby d3_12) rfl (l' := #[.val (.int (2 : Int32)), .val (.int (0 : Int32)), .val (.int (0 : Int32)), .unset]) rfl k) ?_
  show own_Wp p e below _ T1 (mkF m 13 #[.val (.int (2 : Int32)), .val (.int (0 : Int32)), .val (.int (0 : Int32)), .unset] [])
  refine own_step (fun _ k => XS.iloadN X1.here hx rfl (hb hby d3_13) rfl k) ?_
  show own_Wp p e below _ T1 (mkF m 14 #[.val (.int (2 : Int32)), .val (.int (0 : Int32)), .val (.int (0 : Int32)), .unset] [(.int (2 : Int32))])
  refine own_step (fun _ k => XS.iloadN X1.here hx rfl (hb hby d3_14) rfl k) ?_
  show own_Wp p e below _ T1 (mkF m 15 #[.val (.int (2 : Int32)), .val (.int (0 : Int32)), .val (.int (0 : Int32)), .unset] [(.int (0 : Int32)), (.int (2 : Int32))])
  obtain ⟨_, T2, L2, X2, hQ2, st2⟩ := own_callS X1 hx hZ hown (hw _ (List.mem_of_getElem? (i := 24) rfl)) (hw _ (List.mem_of_getElem? (i := 25) rfl)) (hw _ (List.mem_of_getElem? (i := 22) rfl)) (hw _ (List.mem_of_getElem? (i := 26) rfl)) (by decide) (rm5_46 l Z a0 hw hA [] h0 n0 O0) (W := 0) (by decide) (by decide) [(.int (2 : Int32)), (.int (0 : Int32))] rfl (lenOf pd5 rfl) (Ls := #[.val (.int (2 : Int32)), .val (.int (0 : Int32)), .val (.int (0 : Int32)), .unset]) (by rw [hml]; rfl) (rest := []) (Nat.le_of_eq rfl) (hb hby d3_15) e1 (by decide) (by decide)
  refine st2 _ ?_
  obtain ⟨rfl, N2q, e2⟩ := hQ2
  have N2 := Fr.app N1 N2q
  show own_Wp p e below _ T2 (mkF m 18 #[.val (.int (2 : Int32)), .val (.int (0 : Int32)), .val (.int (0 : Int32)), .unset] [(.int (2 : Int32))])
  refine own_step (fun _ k => XS.istoreN X2.here hx rfl (hb hby d3_18) rfl (l' := #[.val (.int (2 : Int32)), .val (.int (0 : Int32)), .val (.int (0 : Int32)), .val (.int (2 : Int32))]) rfl k) ?_
  show own_Wp p e below _ T2 (mkF m 19 #[.val (.int (2 : Int32)), .val (.int (0 : Int32)), .val (.int (0 : Int32)), .val (.int (2 : Int32))] [])
  refine own_step (fun _ k => XS.iloadN X2.here hx rfl (hb hby d3_19) rfl k) ?_
  show own_Wp p e below _ T2 (mkF m 20 #[.val (.int (2 : Int32)), .val (.int (0 : Int32)), .val (.int (0 : Int32)), .val (.int (2 : Int32))] [(.int (0 : Int32))])
  refine own_step (fun _ k => XS.ifNo X2.here hx rfl (hb hby d3_20) rfl (by decide) k) ?_
  show own_Wp p e below _ T2 (mkF m 23 #[.val (.int (2 : Int32)), .val (.int (0 : Int32)), .val (.int (0 : Int32)), .val (.int (2 : Int32))] [])
  refine own_step (fun _ k => XS.iloadN X2.here hx rfl (hb hby d3_23) rfl k) ?_
  show own_Wp p e below _ T2 (mkF m 24 #[.val (.int (2 : Int32)), .val (.int (0 : Int32)), .val (.int (0 : Int32)), .val (.int (2 : Int32))] [(.int (2 : Int32))])
  refine own_step (fun _ k => XS.iconst X2.here hx rfl (hb hby d3_24) k) ?_
  show own_Wp p e below _ T2 (mkF m 25 #[.val (.int (2 : Int32)), .val (.int (0 : Int32)), .val (.int (0 : Int32)), .val (.int (2 : Int32))] [(.int (2 : Int32)), (.int (2 : Int32))])
  refine own_step (fun _ k => XS.icmpYes X2.here hx rfl (pc0 := 25) (pc' := 33) rfl (hb hby d3_25) rfl (by decide) (by decide) (by decide) k) ?_
  show own_Wp p e below _ T2 (mkF m 33 #[.val (.int (2 : Int32)), .val (.int (0 : Int32)), .val (.int (0 : Int32)), .val (.int (2 : Int32))] [])
  refine own_step (fun _ k => XS.iconst X2.here hx rfl (hb hby d3_33) k) ?_
  show own_Wp p e below _ T2 (mkF m 34 #[.val (.int (2 : Int32)), .val (.int (0 : Int32)), .val (.int (0 : Int32)), .val (.int (2 : Int32))] [(.int (1 : Int32))])
  refine own_step (fun _ k => XS.goto X2.here hx rfl (pc0 := 34) (pc' := 38) rfl (hb hby d3_34) (by decide) (by decide) k) ?_
  show own_Wp p e below _ T2 (mkF m 38 #[.val (.int (2 : Int32)), .val (.int (0 : Int32)), .val (.int (0 : Int32)), .val (.int (2 : Int32))] [(.int (1 : Int32))])
  exact own_retN X2 hx (t := .boolean) hret (by simp) hlk (hb hby d3_38) (by decide) (by decide) (by rw [e2]; exact ⟨rfl, N2, rfl⟩)

set_option maxRecDepth 65536 in
set_option maxHeartbeats 40000000 in
theorem rm4_48 (l : Launch) (Z : State) (a0 : Array Value) (hw : ∀ d ∈ tables_1, d.before a0 Z = true) (hA : ∀ d ∈ own_flat narrow_1, d.value a0 Z none Z [] = some true) (ws : List Jvm.Cond) (h0 : Heap) (n0 : Nat) (O0 : Old Z n0 h0) :
    own_Met l Z (⟨"java/lang/Math", "min", "(II)I"⟩ : MethodName) (Jvm.Cond.code (⟨"java/lang/Math", "min", "(II)I"⟩ : MethodName) jdk_29_method_69_code 2 (some .int)) ws ({ frames := 0, cells := 0, slots := 0, locals := 0 } : Room) #[(.int (2 : Int32)), (.int (1 : Int32))] h0 (fun v h L => (v = some (.int (1 : Int32)) ∧ Fr n0 L ∧ h = h0)) := by
  refine own_met (own := "java/lang/Math") (Jvm.Free.JP.mathPlain rfl (by decide +kernel)) rfl ?_
  intro p e s m below meth c s₁ hx hby hml hown hnm hret hlk hZ e0 X0
  refine own_cast (g' := (mkF m 0 #[.val (.int (2 : Int32)), .val (.int (1 : Int32))] [])) (by first | (simp [entryFrame, mkF, argsToLocals, Value.category]; done) | rfl) ?_
  refine own_step (fun _ k => XS.iloadN X0.here hx rfl (hb hby d4_0) rfl k) ?_
  show own_Wp p e below _ s₁ (mkF m 1 #[.val (.int (2 : Int32)), .val (.int (1 : Int32))] [(.int (2 : Int32))])
  refine own_step (fun _ k => XS.iloadN X0.here hx rfl (hb hby d4_1) rfl k) ?_
  show own_Wp p e below _ s₁ (mkF m 2 #[.val (.int (2 : Int32)), .val (.int (1 : Int32))] [(.int (1 : Int32)), (.int (2 : Int32))])
  refine own_step (fun _ k => XS.icmpYes X0.here hx rfl (pc0 := 2) (pc' := 9) rfl (hb hby d4_2) rfl (by decide) (by decide) (by decide) k) ?_
  show own_Wp p e below _ s₁ (mkF m 9 #[.val (.int (2 : Int32)), .val (.int (1 : Int32))] [])
  refine own_step (fun _ k => XS.iloadN X0.here hx rfl (hb hby d4_9) rfl k) ?_
  show own_Wp p e below _ s₁ (mkF m 10 #[.val (.int (2 : Int32)), .val (.int (1 : Int32))] [(.int (1 : Int32))])
  exact own_retI X0 hx hret hlk (hb hby d4_10) (by decide) (by decide) (by rw [e0]; exact ⟨rfl, (Fr.nil n0), rfl⟩)

set_option maxRecDepth 65536 in
set_option maxHeartbeats 40000000 in
theorem rm5_49 (l : Launch) (Z : State) (a0 : Array Value) (hw : ∀ d ∈ tables_1, d.before a0 Z = true) (hA : ∀ d ∈ own_flat narrow_1, d.value a0 Z none Z [] = some true) (ws : List Jvm.Cond) (h0 : Heap) (n0 : Nat) (O0 : Old Z n0 h0) :
    own_Met l Z (⟨"java/lang/Math", "max", "(II)I"⟩ : MethodName) (Jvm.Cond.code (⟨"java/lang/Math", "max", "(II)I"⟩ : MethodName) jdk_29_method_65_code 2 (some .int)) ws ({ frames := 0, cells := 0, slots := 0, locals := 0 } : Room) #[(.int (2 : Int32)), (.int (1 : Int32))] h0 (fun v h L => (v = some (.int (2 : Int32)) ∧ Fr n0 L ∧ h = h0)) := by
  refine own_met (own := "java/lang/Math") (Jvm.Free.JP.mathPlain rfl (by decide +kernel)) rfl ?_
  intro p e s m below meth c s₁ hx hby hml hown hnm hret hlk hZ e0 X0
  refine own_cast (g' := (mkF m 0 #[.val (.int (2 : Int32)), .val (.int (1 : Int32))] [])) (by first | (simp [entryFrame, mkF, argsToLocals, Value.category]; done) | rfl) ?_
  refine own_step (fun _ k => XS.iloadN X0.here hx rfl (hb hby d5_0) rfl k) ?_
  show own_Wp p e below _ s₁ (mkF m 1 #[.val (.int (2 : Int32)), .val (.int (1 : Int32))] [(.int (2 : Int32))])
  refine own_step (fun _ k => XS.iloadN X0.here hx rfl (hb hby d5_1) rfl k) ?_
  show own_Wp p e below _ s₁ (mkF m 2 #[.val (.int (2 : Int32)), .val (.int (1 : Int32))] [(.int (1 : Int32)), (.int (2 : Int32))])
  refine own_step (fun _ k => XS.icmpNo X0.here hx rfl (hb hby d5_2) rfl (by decide) k) ?_
  show own_Wp p e below _ s₁ (mkF m 5 #[.val (.int (2 : Int32)), .val (.int (1 : Int32))] [])
  refine own_step (fun _ k => XS.iloadN X0.here hx rfl (hb hby d5_5) rfl k) ?_
  show own_Wp p e below _ s₁ (mkF m 6 #[.val (.int (2 : Int32)), .val (.int (1 : Int32))] [(.int (2 : Int32))])
  refine own_step (fun _ k => XS.goto X0.here hx rfl (pc0 := 6) (pc' := 10) rfl (hb hby d5_6) (by decide) (by decide) k) ?_
  show own_Wp p e below _ s₁ (mkF m 10 #[.val (.int (2 : Int32)), .val (.int (1 : Int32))] [(.int (2 : Int32))])
  exact own_retI X0 hx hret hlk (hb hby d5_10) (by decide) (by decide) (by rw [e0]; exact ⟨rfl, (Fr.nil n0), rfl⟩)

set_option maxRecDepth 65536 in
set_option maxHeartbeats 40000000 in
theorem rm3_50 (l : Launch) (Z : State) (a0 : Array Value) (hw : ∀ d ∈ tables_1, d.before a0 Z = true) (hA : ∀ d ∈ own_flat narrow_1, d.value a0 Z none Z [] = some true) (ws : List Jvm.Cond) (h0 : Heap) (n0 : Nat) (O0 : Old Z n0 h0) :
    own_Met l Z (⟨"com/example/pathfare/pathfare/alto/TypeIsCompatibleWithPinLaw", "expected", "(II)Z"⟩ : MethodName) (Jvm.Cond.code (⟨"com/example/pathfare/pathfare/alto/TypeIsCompatibleWithPinLaw", "expected", "(II)Z"⟩ : MethodName) method_3_code 4 (some .boolean)) ws ({ frames := 1, cells := 0, slots := 0, locals := 13 } : Room) #[(.int (2 : Int32)), (.int (1 : Int32))] h0 (fun v h L => (v = some (.int (0 : Int32)) ∧ Fr n0 L ∧ h = h0)) := by
  refine own_met (own := "com/example/pathfare/pathfare/alto/TypeIsCompatibleWithPinLaw") (plainFor_of_name pn0) rfl ?_
  intro p e s m below meth c s₁ hx hby hml hown hnm hret hlk hZ e0 X0
  refine own_cast (g' := (mkF m 0 #[.val (.int (2 : Int32)), .val (.int (1 : Int32)), .unset, .unset] [])) (by first | (simp [entryFrame, mkF, argsToLocals, Value.category]; done) | rfl) ?_
  refine own_step (fun _ k => XS.iloadN X0.here hx rfl (hb hby d3_0) rfl k) ?_
  show own_Wp p e below _ s₁ (mkF m 1 #[.val (.int (2 : Int32)), .val (.int (1 : Int32)), .unset, .unset] [(.int (2 : Int32))])
  refine own_step (fun _ k => XS.iloadN X0.here hx rfl (hb hby d3_1) rfl k) ?_
  show own_Wp p e below _ s₁ (mkF m 2 #[.val (.int (2 : Int32)), .val (.int (1 : Int32)), .unset, .unset] [(.int (1 : Int32)), (.int (2 : Int32))])
  refine own_step (fun _ k => XS.icmpYes X0.here hx rfl (pc0 := 2) (pc' := 7) rfl (hb hby d3_2) rfl (by decide) (by decide) (by decide) k) ?_
  show own_Wp p e below _ s₁ (mkF m 7 #[.val (.int (2 : Int32)), .val (.int (1 : Int32)), .unset, .unset] [])
  refine own_step (fun _ k => XS.iloadN X0.here hx rfl (hb hby d3_7) rfl k) ?_
  show own_Wp p e below _ s₁ (mkF m 8 #[.val (.int (2 : Int32)), .val (.int (1 : Int32)), .unset, .unset] [(.int (2 : Int32))])
  refine own_step (fun _ k => XS.iloadN X0.here hx rfl (hb hby d3_8) rfl k) ?_
  show own_Wp p e below _ s₁ (mkF m 9 #[.val (.int (2 : Int32)), .val (.int (1 : Int32)), .unset, .unset] [(.int (1 : Int32)), (.int (2 : Int32))])
  obtain ⟨_, T1, L1, X1, hQ1, st1⟩ := own_callS X0 hx hZ hown (hw _ (List.mem_of_getElem? (i := 20) rfl)) (hw _ (List.mem_of_getElem? (i := 21) rfl)) (hw _ (List.mem_of_getElem? (i := 22) rfl)) (hw _ (List.mem_of_getElem? (i := 23) rfl)) (by decide) (rm4_48 l Z a0 hw hA [] h0 n0 O0) (W := 0) (by decide) (by decide) [(.int (2 : Int32)), (.int (1 : Int32))] rfl (lenOf pd5 rfl) (Ls := #[.val (.int (2 : Int32)), .val (.int (1 : Int32)), .unset, .unset]) (by rw [hml]; rfl) (rest := []) (Nat.le_of_eq rfl) (hb hby d3_9) e0 (by decide) (by decide)
  refine st1 _ ?_
  obtain ⟨rfl, N1q, e1⟩ := hQ1
  have N1 := Fr.app (Fr.nil n0) N1q
  show own_Wp p e below _ T1 (mkF m 12 #[.val (.int (2 : Int32)), .val (.int (1 : Int32)), .unset, .unset] [(.int (1 : Int32))])
  refine own_step (fun _ k => XS.istoreN X1.here hx rfl (hb hby d3_12) rfl (l' := #[.val (.int (2 : Int32)), .val (.int (1 : Int32)), .val (.int (1 : Int32)), .unset]) rfl k) ?_
  show own_Wp p e below _ T1 (mkF m 13 #[.val (.int (2 : Int32)), .val (.int (1 : Int32)), .val (.int (1 : Int32)), .unset] [])
  refine own_step (fun _ k => XS.iloadN X1.here hx rfl (hb hby d3_13) rfl k) ?_
  show own_Wp p e below _ T1 (mkF m 14 #[.val (.int (2 : Int32)), .val (.int (1 : Int32)), .val (.int (1 : Int32)), .unset] [(.int (2 : Int32))])
  refine own_step (fun _ k => XS.iloadN X1.here hx rfl (hb hby d3_14) rfl k) ?_
  show own_Wp p e below _ T1 (mkF m 15 #[.val (.int (2 : Int32)), .val (.int (1 : Int32)), .val (.int (1 : Int32)), .unset] [(.int (1 : Int32)), (.int (2 : Int32))])
  obtain ⟨_, T2, L2, X2, hQ2, st2⟩ := own_callS X1 hx hZ hown (hw _ (List.mem_of_getElem? (i := 24) rfl)) (hw _ (List.mem_of_getElem? (i := 25) rfl)) (hw _ (List.mem_of_getElem? (i := 22) rfl)) (hw _ (List.mem_of_getElem? (i := 26) rfl)) (by decide) (rm5_49 l Z a0 hw hA [] h0 n0 O0) (W := 0) (by decide) (by decide) [(.int (2 : Int32)), (.int (1 : Int32))] rfl (lenOf pd5 rfl) (Ls := #[.val (.int (2 : Int32)), .val (.int (1 : Int32)), .val (.int (1 : Int32)), .unset]) (by rw [hml]; rfl) (rest := []) (Nat.le_of_eq rfl) (hb hby d3_15) e1 (by decide) (by decide)
  refine st2 _ ?_
  obtain ⟨rfl, N2q, e2⟩ := hQ2
  have N2 := Fr.app N1 N2q
  show own_Wp p e below _ T2 (mkF m 18 #[.val (.int (2 : Int32)), .val (.int (1 : Int32)), .val (.int (1 : Int32)), .unset] [(.int (2 : Int32))])
  refine own_step (fun _ k => XS.istoreN X2.here hx rfl (hb hby d3_18) rfl (l' := #[.val (.int (2 : Int32)), .val (.int (1 : Int32)), .val (.int (1 : Int32)), .val (.int (2 : Int32))]) rfl k) ?_
  show own_Wp p e below _ T2 (mkF m 19 #[.val (.int (2 : Int32)), .val (.int (1 : Int32)), .val (.int (1 : Int32)), .val (.int (2 : Int32))] [])
  refine own_step (fun _ k => XS.iloadN X2.here hx rfl (hb hby d3_19) rfl k) ?_
  show own_Wp p e below _ T2 (mkF m 20 #[.val (.int (2 : Int32)), .val (.int (1 : Int32)), .val (.int (1 : Int32)), .val (.int (2 : Int32))] [(.int (1 : Int32))])
  refine own_step (fun _ k => XS.ifYes X2.here hx rfl (pc0 := 20) (pc' := 39) rfl (hb hby d3_20) rfl (by decide) (by decide) (by decide) k) ?_
  show own_Wp p e below _ T2 (mkF m 39 #[.val (.int (2 : Int32)), .val (.int (1 : Int32)), .val (.int (1 : Int32)), .val (.int (2 : Int32))] [])
  refine own_step (fun _ k => XS.iloadN X2.here hx rfl (hb hby d3_39) rfl k) ?_
  show own_Wp p e below _ T2 (mkF m 40 #[.val (.int (2 : Int32)), .val (.int (1 : Int32)), .val (.int (1 : Int32)), .val (.int (2 : Int32))] [(.int (1 : Int32))])
  refine own_step (fun _ k => XS.iconst X2.here hx rfl (hb hby d3_40) k) ?_
  show own_Wp p e below _ T2 (mkF m 41 #[.val (.int (2 : Int32)), .val (.int (1 : Int32)), .val (.int (1 : Int32)), .val (.int (2 : Int32))] [(.int (1 : Int32)), (.int (1 : Int32))])
  refine own_step (fun _ k => XS.icmpNo X2.here hx rfl (hb hby d3_41) rfl (by decide) k) ?_
  show own_Wp p e below _ T2 (mkF m 44 #[.val (.int (2 : Int32)), .val (.int (1 : Int32)), .val (.int (1 : Int32)), .val (.int (2 : Int32))] [])
  refine own_step (fun _ k => XS.iloadN X2.here hx rfl (hb hby d3_44) rfl k) ?_
  show own_Wp p e below _ T2 (mkF m 45 #[.val (.int (2 : Int32)), .val (.int (1 : Int32)), .val (.int (1 : Int32)), .val (.int (2 : Int32))] [(.int (2 : Int32))])
  refine own_step (fun _ k => XS.iconst X2.here hx rfl (hb hby d3_45) k) ?_
  show own_Wp p e below _ T2 (mkF m 46 #[.val (.int (2 : Int32)), .val (.int (1 : Int32)), .val (.int (1 : Int32)), .val (.int (2 : Int32))] [(.int (3 : Int32)), (.int (2 : Int32))])
  refine own_step (fun _ k => XS.icmpNo X2.here hx rfl (hb hby d3_46) rfl (by decide) k) ?_
  show own_Wp p e below _ T2 (mkF m 49 #[.val (.int (2 : Int32)), .val (.int (1 : Int32)), .val (.int (1 : Int32)), .val (.int (2 : Int32))] [])
  refine own_step (fun _ k => XS.iloadN X2.here hx rfl (hb hby d3_49) rfl k) ?_
  show own_Wp p e below _ T2 (mkF m 50 #[.val (.int (2 : Int32)), .val (.int (1 : Int32)), .val (.int (1 : Int32)), .val (.int (2 : Int32))] [(.int (2 : Int32))])
  refine own_step (fun _ k => XS.iconst X2.here hx rfl (hb hby d3_50) k) ?_
  show own_Wp p e below _ T2 (mkF m 51 #[.val (.int (2 : Int32)), .val (.int (1 : Int32)), .val (.int (1 : Int32)), .val (.int (2 : Int32))] [(.int (5 : Int32)), (.int (2 : Int32))])
  refine own_step (fun _ k => XS.icmpYes X2.here hx rfl (pc0 := 51) (pc' := 58) rfl (hb hby d3_51) rfl (by decide) (by decide) (by decide) k) ?_
  show own_Wp p e below _ T2 (mkF m 58 #[.val (.int (2 : Int32)), .val (.int (1 : Int32)), .val (.int (1 : Int32)), .val (.int (2 : Int32))] [])
  refine own_step (fun _ k => XS.iconst X2.here hx rfl (hb hby d3_58) k) ?_
  show own_Wp p e below _ T2 (mkF m 59 #[.val (.int (2 : Int32)), .val (.int (1 : Int32)), .val (.int (1 : Int32)), .val (.int (2 : Int32))] [(.int (0 : Int32))])
  exact own_retN X2 hx (t := .boolean) hret (by simp) hlk (hb hby d3_59) (by decide) (by decide) (by rw [e2]; exact ⟨rfl, N2, rfl⟩)

set_option maxRecDepth 65536 in
set_option maxHeartbeats 40000000 in
theorem rm3_51 (l : Launch) (Z : State) (a0 : Array Value) (hw : ∀ d ∈ tables_1, d.before a0 Z = true) (hA : ∀ d ∈ own_flat narrow_1, d.value a0 Z none Z [] = some true) (ws : List Jvm.Cond) (h0 : Heap) (n0 : Nat) (O0 : Old Z n0 h0) :
    own_Met l Z (⟨"com/example/pathfare/pathfare/alto/TypeIsCompatibleWithPinLaw", "expected", "(II)Z"⟩ : MethodName) (Jvm.Cond.code (⟨"com/example/pathfare/pathfare/alto/TypeIsCompatibleWithPinLaw", "expected", "(II)Z"⟩ : MethodName) method_3_code 4 (some .boolean)) ws ({ frames := 0, cells := 0, slots := 0, locals := 0 } : Room) #[(.int (2 : Int32)), (.int (2 : Int32))] h0 (fun v h L => (v = some (.int (1 : Int32)) ∧ Fr n0 L ∧ h = h0)) := by
  refine own_met (own := "com/example/pathfare/pathfare/alto/TypeIsCompatibleWithPinLaw") (plainFor_of_name pn0) rfl ?_
  intro p e s m below meth c s₁ hx hby hml hown hnm hret hlk hZ e0 X0
  refine own_cast (g' := (mkF m 0 #[.val (.int (2 : Int32)), .val (.int (2 : Int32)), .unset, .unset] [])) (by first | (simp [entryFrame, mkF, argsToLocals, Value.category]; done) | rfl) ?_
  refine own_step (fun _ k => XS.iloadN X0.here hx rfl (hb hby d3_0) rfl k) ?_
  show own_Wp p e below _ s₁ (mkF m 1 #[.val (.int (2 : Int32)), .val (.int (2 : Int32)), .unset, .unset] [(.int (2 : Int32))])
  refine own_step (fun _ k => XS.iloadN X0.here hx rfl (hb hby d3_1) rfl k) ?_
  show own_Wp p e below _ s₁ (mkF m 2 #[.val (.int (2 : Int32)), .val (.int (2 : Int32)), .unset, .unset] [(.int (2 : Int32)), (.int (2 : Int32))])
  refine own_step (fun _ k => XS.icmpNo X0.here hx rfl (hb hby d3_2) rfl (by decide) k) ?_
  show own_Wp p e below _ s₁ (mkF m 5 #[.val (.int (2 : Int32)), .val (.int (2 : Int32)), .unset, .unset] [])
  refine own_step (fun _ k => XS.iconst X0.here hx rfl (hb hby d3_5) k) ?_
  show own_Wp p e below _ s₁ (mkF m 6 #[.val (.int (2 : Int32)), .val (.int (2 : Int32)), .unset, .unset] [(.int (1 : Int32))])
  exact own_retN X0 hx (t := .boolean) hret (by simp) hlk (hb hby d3_6) (by decide) (by decide) (by rw [e0]; exact ⟨rfl, (Fr.nil n0), rfl⟩)

set_option maxRecDepth 65536 in
set_option maxHeartbeats 40000000 in
theorem rm4_52 (l : Launch) (Z : State) (a0 : Array Value) (hw : ∀ d ∈ tables_1, d.before a0 Z = true) (hA : ∀ d ∈ own_flat narrow_1, d.value a0 Z none Z [] = some true) (ws : List Jvm.Cond) (h0 : Heap) (n0 : Nat) (O0 : Old Z n0 h0) :
    own_Met l Z (⟨"java/lang/Math", "min", "(II)I"⟩ : MethodName) (Jvm.Cond.code (⟨"java/lang/Math", "min", "(II)I"⟩ : MethodName) jdk_29_method_69_code 2 (some .int)) ws ({ frames := 0, cells := 0, slots := 0, locals := 0 } : Room) #[(.int (2 : Int32)), (.int (3 : Int32))] h0 (fun v h L => (v = some (.int (2 : Int32)) ∧ Fr n0 L ∧ h = h0)) := by
  refine own_met (own := "java/lang/Math") (Jvm.Free.JP.mathPlain rfl (by decide +kernel)) rfl ?_
  intro p e s m below meth c s₁ hx hby hml hown hnm hret hlk hZ e0 X0
  refine own_cast (g' := (mkF m 0 #[.val (.int (2 : Int32)), .val (.int (3 : Int32))] [])) (by first | (simp [entryFrame, mkF, argsToLocals, Value.category]; done) | rfl) ?_
  refine own_step (fun _ k => XS.iloadN X0.here hx rfl (hb hby d4_0) rfl k) ?_
  show own_Wp p e below _ s₁ (mkF m 1 #[.val (.int (2 : Int32)), .val (.int (3 : Int32))] [(.int (2 : Int32))])
  refine own_step (fun _ k => XS.iloadN X0.here hx rfl (hb hby d4_1) rfl k) ?_
  show own_Wp p e below _ s₁ (mkF m 2 #[.val (.int (2 : Int32)), .val (.int (3 : Int32))] [(.int (3 : Int32)), (.int (2 : Int32))])
  refine own_step (fun _ k => XS.icmpNo X0.here hx rfl (hb hby d4_2) rfl (by decide) k) ?_
  show own_Wp p e below _ s₁ (mkF m 5 #[.val (.int (2 : Int32)), .val (.int (3 : Int32))] [])
  refine own_step (fun _ k => XS.iloadN X0.here hx rfl (hb hby d4_5) rfl k) ?_
  show own_Wp p e below _ s₁ (mkF m 6 #[.val (.int (2 : Int32)), .val (.int (3 : Int32))] [(.int (2 : Int32))])
  refine own_step (fun _ k => XS.goto X0.here hx rfl (pc0 := 6) (pc' := 10) rfl (hb hby d4_6) (by decide) (by decide) k) ?_
  show own_Wp p e below _ s₁ (mkF m 10 #[.val (.int (2 : Int32)), .val (.int (3 : Int32))] [(.int (2 : Int32))])
  exact own_retI X0 hx hret hlk (hb hby d4_10) (by decide) (by decide) (by rw [e0]; exact ⟨rfl, (Fr.nil n0), rfl⟩)

set_option maxRecDepth 65536 in
set_option maxHeartbeats 40000000 in
theorem rm5_53 (l : Launch) (Z : State) (a0 : Array Value) (hw : ∀ d ∈ tables_1, d.before a0 Z = true) (hA : ∀ d ∈ own_flat narrow_1, d.value a0 Z none Z [] = some true) (ws : List Jvm.Cond) (h0 : Heap) (n0 : Nat) (O0 : Old Z n0 h0) :
    own_Met l Z (⟨"java/lang/Math", "max", "(II)I"⟩ : MethodName) (Jvm.Cond.code (⟨"java/lang/Math", "max", "(II)I"⟩ : MethodName) jdk_29_method_65_code 2 (some .int)) ws ({ frames := 0, cells := 0, slots := 0, locals := 0 } : Room) #[(.int (2 : Int32)), (.int (3 : Int32))] h0 (fun v h L => (v = some (.int (3 : Int32)) ∧ Fr n0 L ∧ h = h0)) := by
  refine own_met (own := "java/lang/Math") (Jvm.Free.JP.mathPlain rfl (by decide +kernel)) rfl ?_
  intro p e s m below meth c s₁ hx hby hml hown hnm hret hlk hZ e0 X0
  refine own_cast (g' := (mkF m 0 #[.val (.int (2 : Int32)), .val (.int (3 : Int32))] [])) (by first | (simp [entryFrame, mkF, argsToLocals, Value.category]; done) | rfl) ?_
  refine own_step (fun _ k => XS.iloadN X0.here hx rfl (hb hby d5_0) rfl k) ?_
  show own_Wp p e below _ s₁ (mkF m 1 #[.val (.int (2 : Int32)), .val (.int (3 : Int32))] [(.int (2 : Int32))])
  refine own_step (fun _ k => XS.iloadN X0.here hx rfl (hb hby d5_1) rfl k) ?_
  show own_Wp p e below _ s₁ (mkF m 2 #[.val (.int (2 : Int32)), .val (.int (3 : Int32))] [(.int (3 : Int32)), (.int (2 : Int32))])
  refine own_step (fun _ k => XS.icmpYes X0.here hx rfl (pc0 := 2) (pc' := 9) rfl (hb hby d5_2) rfl (by decide) (by decide) (by decide) k) ?_
  show own_Wp p e below _ s₁ (mkF m 9 #[.val (.int (2 : Int32)), .val (.int (3 : Int32))] [])
  refine own_step (fun _ k => XS.iloadN X0.here hx rfl (hb hby d5_9) rfl k) ?_
  show own_Wp p e below _ s₁ (mkF m 10 #[.val (.int (2 : Int32)), .val (.int (3 : Int32))] [(.int (3 : Int32))])
  exact own_retI X0 hx hret hlk (hb hby d5_10) (by decide) (by decide) (by rw [e0]; exact ⟨rfl, (Fr.nil n0), rfl⟩)

set_option maxRecDepth 65536 in
set_option maxHeartbeats 40000000 in
theorem rm3_54 (l : Launch) (Z : State) (a0 : Array Value) (hw : ∀ d ∈ tables_1, d.before a0 Z = true) (hA : ∀ d ∈ own_flat narrow_1, d.value a0 Z none Z [] = some true) (ws : List Jvm.Cond) (h0 : Heap) (n0 : Nat) (O0 : Old Z n0 h0) :
    own_Met l Z (⟨"com/example/pathfare/pathfare/alto/TypeIsCompatibleWithPinLaw", "expected", "(II)Z"⟩ : MethodName) (Jvm.Cond.code (⟨"com/example/pathfare/pathfare/alto/TypeIsCompatibleWithPinLaw", "expected", "(II)Z"⟩ : MethodName) method_3_code 4 (some .boolean)) ws ({ frames := 1, cells := 0, slots := 0, locals := 13 } : Room) #[(.int (2 : Int32)), (.int (3 : Int32))] h0 (fun v h L => (v = some (.int (0 : Int32)) ∧ Fr n0 L ∧ h = h0)) := by
  refine own_met (own := "com/example/pathfare/pathfare/alto/TypeIsCompatibleWithPinLaw") (plainFor_of_name pn0) rfl ?_
  intro p e s m below meth c s₁ hx hby hml hown hnm hret hlk hZ e0 X0
  refine own_cast (g' := (mkF m 0 #[.val (.int (2 : Int32)), .val (.int (3 : Int32)), .unset, .unset] [])) (by first | (simp [entryFrame, mkF, argsToLocals, Value.category]; done) | rfl) ?_
  refine own_step (fun _ k => XS.iloadN X0.here hx rfl (hb hby d3_0) rfl k) ?_
  show own_Wp p e below _ s₁ (mkF m 1 #[.val (.int (2 : Int32)), .val (.int (3 : Int32)), .unset, .unset] [(.int (2 : Int32))])
  refine own_step (fun _ k => XS.iloadN X0.here hx rfl (hb hby d3_1) rfl k) ?_
  show own_Wp p e below _ s₁ (mkF m 2 #[.val (.int (2 : Int32)), .val (.int (3 : Int32)), .unset, .unset] [(.int (3 : Int32)), (.int (2 : Int32))])
  refine own_step (fun _ k => XS.icmpYes X0.here hx rfl (pc0 := 2) (pc' := 7) rfl (hb hby d3_2) rfl (by decide) (by decide) (by decide) k) ?_
  show own_Wp p e below _ s₁ (mkF m 7 #[.val (.int (2 : Int32)), .val (.int (3 : Int32)), .unset, .unset] [])
  refine own_step (fun _ k => XS.iloadN X0.here hx rfl (hb hby d3_7) rfl k) ?_
  show own_Wp p e below _ s₁ (mkF m 8 #[.val (.int (2 : Int32)), .val (.int (3 : Int32)), .unset, .unset] [(.int (2 : Int32))])
  refine own_step (fun _ k => XS.iloadN X0.here hx rfl (hb hby d3_8) rfl k) ?_
  show own_Wp p e below _ s₁ (mkF m 9 #[.val (.int (2 : Int32)), .val (.int (3 : Int32)), .unset, .unset] [(.int (3 : Int32)), (.int (2 : Int32))])
  obtain ⟨_, T1, L1, X1, hQ1, st1⟩ := own_callS X0 hx hZ hown (hw _ (List.mem_of_getElem? (i := 20) rfl)) (hw _ (List.mem_of_getElem? (i := 21) rfl)) (hw _ (List.mem_of_getElem? (i := 22) rfl)) (hw _ (List.mem_of_getElem? (i := 23) rfl)) (by decide) (rm4_52 l Z a0 hw hA [] h0 n0 O0) (W := 0) (by decide) (by decide) [(.int (2 : Int32)), (.int (3 : Int32))] rfl (lenOf pd5 rfl) (Ls := #[.val (.int (2 : Int32)), .val (.int (3 : Int32)), .unset, .unset]) (by rw [hml]; rfl) (rest := []) (Nat.le_of_eq rfl) (hb hby d3_9) e0 (by decide) (by decide)
  refine st1 _ ?_
  obtain ⟨rfl, N1q, e1⟩ := hQ1
  have N1 := Fr.app (Fr.nil n0) N1q
  show own_Wp p e below _ T1 (mkF m 12 #[.val (.int (2 : Int32)), .val (.int (3 : Int32)), .unset, .unset] [(.int (2 : Int32))])
  refine own_step (fun _ k => XS.istoreN X1.here hx rfl (hb hby d3_12) rfl (l' := #[.val (.int (2 : Int32)), .val (.int (3 : Int32)), .val (.int (2 : Int32)), .unset]) rfl k) ?_
  show own_Wp p e below _ T1 (mkF m 13 #[.val (.int (2 : Int32)), .val (.int (3 : Int32)), .val (.int (2 : Int32)), .unset] [])
  refine own_step (fun _ k => XS.iloadN X1.here hx rfl (hb hby d3_13) rfl k) ?_
  show own_Wp p e below _ T1 (mkF m 14 #[.val (.int (2 : Int32)), .val (.int (3 : Int32)), .val (.int (2 : Int32)), .unset] [(.int (2 : Int32))])
  refine own_step (fun _ k => XS.iloadN X1.here hx rfl (hb hby d3_14) rfl k) ?_
  show own_Wp p e below _ T1 (mkF m 15 #[.val (.int (2 : Int32)), .val (.int (3 : Int32)), .val (.int (2 : Int32)), .unset] [(.int (3 : Int32)), (.int (2 : Int32))])
  obtain ⟨_, T2, L2, X2, hQ2, st2⟩ := own_callS X1 hx hZ hown (hw _ (List.mem_of_getElem? (i := 24) rfl)) (hw _ (List.mem_of_getElem? (i := 25) rfl)) (hw _ (List.mem_of_getElem? (i := 22) rfl)) (hw _ (List.mem_of_getElem? (i := 26) rfl)) (by decide) (rm5_53 l Z a0 hw hA [] h0 n0 O0) (W := 0) (by decide) (by decide) [(.int (2 : Int32)), (.int (3 : Int32))] rfl (lenOf pd5 rfl) (Ls := #[.val (.int (2 : Int32)), .val (.int (3 : Int32)), .val (.int (2 : Int32)), .unset]) (by rw [hml]; rfl) (rest := []) (Nat.le_of_eq rfl) (hb hby d3_15) e1 (by decide) (by decide)
  refine st2 _ ?_
  obtain ⟨rfl, N2q, e2⟩ := hQ2
  have N2 := Fr.app N1 N2q
  show own_Wp p e below _ T2 (mkF m 18 #[.val (.int (2 : Int32)), .val (.int (3 : Int32)), .val (.int (2 : Int32)), .unset] [(.int (3 : Int32))])
  refine own_step (fun _ k => XS.istoreN X2.here hx rfl (hb hby d3_18) rfl (l' := #[.val (.int (2 : Int32)), .val (.int (3 : Int32)), .val (.int (2 : Int32)), .val (.int (3 : Int32))]) rfl k) ?_
  show own_Wp p e below _ T2 (mkF m 19 #[.val (.int (2 : Int32)), .val (.int (3 : Int32)), .val (.int (2 : Int32)), .val (.int (3 : Int32))] [])
  refine own_step (fun _ k => XS.iloadN X2.here hx rfl (hb hby d3_19) rfl k) ?_
  show own_Wp p e below _ T2 (mkF m 20 #[.val (.int (2 : Int32)), .val (.int (3 : Int32)), .val (.int (2 : Int32)), .val (.int (3 : Int32))] [(.int (2 : Int32))])
  refine own_step (fun _ k => XS.ifYes X2.here hx rfl (pc0 := 20) (pc' := 39) rfl (hb hby d3_20) rfl (by decide) (by decide) (by decide) k) ?_
  show own_Wp p e below _ T2 (mkF m 39 #[.val (.int (2 : Int32)), .val (.int (3 : Int32)), .val (.int (2 : Int32)), .val (.int (3 : Int32))] [])
  refine own_step (fun _ k => XS.iloadN X2.here hx rfl (hb hby d3_39) rfl k) ?_
  show own_Wp p e below _ T2 (mkF m 40 #[.val (.int (2 : Int32)), .val (.int (3 : Int32)), .val (.int (2 : Int32)), .val (.int (3 : Int32))] [(.int (2 : Int32))])
  refine own_step (fun _ k => XS.iconst X2.here hx rfl (hb hby d3_40) k) ?_
  show own_Wp p e below _ T2 (mkF m 41 #[.val (.int (2 : Int32)), .val (.int (3 : Int32)), .val (.int (2 : Int32)), .val (.int (3 : Int32))] [(.int (1 : Int32)), (.int (2 : Int32))])
  refine own_step (fun _ k => XS.icmpYes X2.here hx rfl (pc0 := 41) (pc' := 60) rfl (hb hby d3_41) rfl (by decide) (by decide) (by decide) k) ?_
  show own_Wp p e below _ T2 (mkF m 60 #[.val (.int (2 : Int32)), .val (.int (3 : Int32)), .val (.int (2 : Int32)), .val (.int (3 : Int32))] [])
  refine own_step (fun _ k => XS.iconst X2.here hx rfl (hb hby d3_60) k) ?_
  show own_Wp p e below _ T2 (mkF m 61 #[.val (.int (2 : Int32)), .val (.int (3 : Int32)), .val (.int (2 : Int32)), .val (.int (3 : Int32))] [(.int (0 : Int32))])
  exact own_retN X2 hx (t := .boolean) hret (by simp) hlk (hb hby d3_61) (by decide) (by decide) (by rw [e2]; exact ⟨rfl, N2, rfl⟩)

set_option maxRecDepth 65536 in
set_option maxHeartbeats 40000000 in
theorem rm2_55 (l : Launch) (Z : State) (a0 : Array Value) (hw : ∀ d ∈ tables_1, d.before a0 Z = true) (hA : ∀ d ∈ own_flat narrow_1, d.value a0 Z none Z [] = some true) (ws : List Jvm.Cond) (x1 : Addr) (x2 : Addr) (h0 : Heap) (n0 : Nat) (O0 : Old Z n0 h0) (D0 : Fld Z Z.heap x1 "com/example/pathfare/pathfare/alto/EndpointAddress$Type" "ipv4" "Z" (.int (1 : Int32))) (D1 : Fld Z Z.heap x2 "com/example/pathfare/pathfare/alto/EndpointAddress$Type" "ipv4" "Z" (.int (1 : Int32))) (D2 : x1 ≠ x2) (D3 : Fld Z Z.heap x1 "com/example/pathfare/pathfare/alto/EndpointAddress$Type" "socket" "Z" (.int (1 : Int32))) (D4 : Fld Z Z.heap x2 "com/example/pathfare/pathfare/alto/EndpointAddress$Type" "socket" "Z" (.int (1 : Int32))) :
    own_Met l Z (⟨"com/example/pathfare/pathfare/alto/EndpointAddress$Type", "isCompatibleWith", "(Lcom/example/pathfare/pathfare/alto/EndpointAddress$Type;)Z"⟩ : MethodName) (Jvm.Cond.code (⟨"com/example/pathfare/pathfare/alto/EndpointAddress$Type", "isCompatibleWith", "(Lcom/example/pathfare/pathfare/alto/EndpointAddress$Type;)Z"⟩ : MethodName) prog_3_method_6_code 2 (some .boolean)) ws ({ frames := 0, cells := 0, slots := 0, locals := 0 } : Room) #[(.ref x1), (.ref x2)] h0 (fun v h L => (v = some (.int (0 : Int32)) ∧ Fr n0 L ∧ h = h0)) := by
  refine own_met (own := "com/example/pathfare/pathfare/alto/EndpointAddress$Type") (plainFor_of_name pn2) rfl ?_
  intro p e s m below meth c s₁ hx hby hml hown hnm hret hlk hZ e0 X0
  refine own_cast (g' := (mkF m 0 #[.val (.ref x1), .val (.ref x2)] [])) (by first | (simp [entryFrame, mkF, argsToLocals, Value.category]; done) | rfl) ?_
  refine own_step (fun _ k => XS.aloadN X0.here hx rfl (hb hby d2_0) rfl rfl k) ?_
  show own_Wp p e below _ s₁ (mkF m 1 #[.val (.ref x1), .val (.ref x2)] [(.ref x1)])
  obtain ⟨T1, X1, e1, st1⟩ := getF X0 hx hZ hown (host := "") (Or.inl (hw _ (List.mem_of_getElem? (i := 15) rfl))) Via.refl e0 (D0.ext O0.2) (g := (mkF m 1 #[.val (.ref x1), .val (.ref x2)] [(.ref x1)])) rfl rfl (hb hby d2_1)
  refine own_step st1 ?_
  show own_Wp p e below _ T1 (mkF m 4 #[.val (.ref x1), .val (.ref x2)] [(.int (1 : Int32))])
  refine own_step (fun _ k => XS.aloadN X1.here hx rfl (hb hby d2_4) rfl rfl k) ?_
  show own_Wp p e below _ T1 (mkF m 5 #[.val (.ref x1), .val (.ref x2)] [(.ref x2), (.int (1 : Int32))])
  obtain ⟨T2, X2, e2, st2⟩ := getF X1 hx hZ hown (host := "") (Or.inl (hw _ (List.mem_of_getElem? (i := 15) rfl))) Via.refl e1 (D1.ext O0.2) (g := (mkF m 5 #[.val (.ref x1), .val (.ref x2)] [(.ref x2), (.int (1 : Int32))])) rfl rfl (hb hby d2_5)
  refine own_step st2 ?_
  show own_Wp p e below _ T2 (mkF m 8 #[.val (.ref x1), .val (.ref x2)] [(.int (1 : Int32)), (.int (1 : Int32))])
  refine own_step (fun _ k => XS.icmpNo X2.here hx rfl (hb hby d2_8) rfl (by decide) k) ?_
  show own_Wp p e below _ T2 (mkF m 11 #[.val (.ref x1), .val (.ref x2)] [])
  refine own_step (fun _ k => XS.aloadN X2.here hx rfl (hb hby d2_11) rfl rfl k) ?_
  show own_Wp p e below _ T2 (mkF m 12 #[.val (.ref x1), .val (.ref x2)] [(.ref x1)])
  refine own_step (fun _ k => XS.aloadN X2.here hx rfl (hb hby d2_12) rfl rfl k) ?_
  show own_Wp p e below _ T2 (mkF m 13 #[.val (.ref x1), .val (.ref x2)] [(.ref x2), (.ref x1)])
  refine own_step (fun _ k => Jvm.RoadKit.acmp (g := (mkF m 13 #[.val (.ref x1), .val (.ref x2)] [(.ref x2), (.ref x1)])) X2 hx rfl rfl rfl (pc0 := 13) (pc' := 16) (same := false) rfl (hb hby d2_13) rfl (decide_eq_false fun q => D2 (Value.ref.inj q)) (by decide) (by decide) k) ?_
  show own_Wp p e below _ T2 (mkF m 16 #[.val (.ref x1), .val (.ref x2)] [])
  refine own_step (fun _ k => XS.aloadN X2.here hx rfl (hb hby d2_16) rfl rfl k) ?_
  show own_Wp p e below _ T2 (mkF m 17 #[.val (.ref x1), .val (.ref x2)] [(.ref x1)])
  obtain ⟨T3, X3, e3, st3⟩ := getF X2 hx hZ hown (host := "") (Or.inl (hw _ (List.mem_of_getElem? (i := 35) rfl))) Via.refl e2 (D3.ext O0.2) (g := (mkF m 17 #[.val (.ref x1), .val (.ref x2)] [(.ref x1)])) rfl rfl (hb hby d2_17)
  refine own_step st3 ?_
  show own_Wp p e below _ T3 (mkF m 20 #[.val (.ref x1), .val (.ref x2)] [(.int (1 : Int32))])
  refine own_step (fun _ k => XS.ifNo X3.here hx rfl (hb hby d2_20) rfl (by decide) k) ?_
  show own_Wp p e below _ T3 (mkF m 23 #[.val (.ref x1), .val (.ref x2)] [])
  refine own_step (fun _ k => XS.aloadN X3.here hx rfl (hb hby d2_23) rfl rfl k) ?_
  show own_Wp p e below _ T3 (mkF m 24 #[.val (.ref x1), .val (.ref x2)] [(.ref x2)])
  obtain ⟨T4, X4, e4, st4⟩ := getF X3 hx hZ hown (host := "") (Or.inl (hw _ (List.mem_of_getElem? (i := 35) rfl))) Via.refl e3 (D4.ext O0.2) (g := (mkF m 24 #[.val (.ref x1), .val (.ref x2)] [(.ref x2)])) rfl rfl (hb hby d2_24)
  refine own_step st4 ?_
  show own_Wp p e below _ T4 (mkF m 27 #[.val (.ref x1), .val (.ref x2)] [(.int (1 : Int32))])
  refine own_step (fun _ k => XS.ifYes X4.here hx rfl (pc0 := 27) (pc' := 34) rfl (hb hby d2_27) rfl (by decide) (by decide) (by decide) k) ?_
  show own_Wp p e below _ T4 (mkF m 34 #[.val (.ref x1), .val (.ref x2)] [])
  refine own_step (fun _ k => XS.iconst X4.here hx rfl (hb hby d2_34) k) ?_
  show own_Wp p e below _ T4 (mkF m 35 #[.val (.ref x1), .val (.ref x2)] [(.int (0 : Int32))])
  exact own_retN X4 hx (t := .boolean) hret (by simp) hlk (hb hby d2_35) (by decide) (by decide) (by rw [e4]; exact ⟨rfl, (Fr.nil n0), rfl⟩)

set_option maxRecDepth 65536 in
set_option maxHeartbeats 40000000 in
theorem rm4_56 (l : Launch) (Z : State) (a0 : Array Value) (hw : ∀ d ∈ tables_1, d.before a0 Z = true) (hA : ∀ d ∈ own_flat narrow_1, d.value a0 Z none Z [] = some true) (ws : List Jvm.Cond) (h0 : Heap) (n0 : Nat) (O0 : Old Z n0 h0) :
    own_Met l Z (⟨"java/lang/Math", "min", "(II)I"⟩ : MethodName) (Jvm.Cond.code (⟨"java/lang/Math", "min", "(II)I"⟩ : MethodName) jdk_29_method_69_code 2 (some .int)) ws ({ frames := 0, cells := 0, slots := 0, locals := 0 } : Room) #[(.int (2 : Int32)), (.int (4 : Int32))] h0 (fun v h L => (v = some (.int (2 : Int32)) ∧ Fr n0 L ∧ h = h0)) := by
  refine own_met (own := "java/lang/Math") (Jvm.Free.JP.mathPlain rfl (by decide +kernel)) rfl ?_
  intro p e s m below meth c s₁ hx hby hml hown hnm hret hlk hZ e0 X0
  refine own_cast (g' := (mkF m 0 #[.val (.int (2 : Int32)), .val (.int (4 : Int32))] [])) (by first | (simp [entryFrame, mkF, argsToLocals, Value.category]; done) | rfl) ?_
  refine own_step (fun _ k => XS.iloadN X0.here hx rfl (hb hby d4_0) rfl k) ?_
  show own_Wp p e below _ s₁ (mkF m 1 #[.val (.int (2 : Int32)), .val (.int (4 : Int32))] [(.int (2 : Int32))])
  refine own_step (fun _ k => XS.iloadN X0.here hx rfl (hb hby d4_1) rfl k) ?_
  show own_Wp p e below _ s₁ (mkF m 2 #[.val (.int (2 : Int32)), .val (.int (4 : Int32))] [(.int (4 : Int32)), (.int (2 : Int32))])
  refine own_step (fun _ k => XS.icmpNo X0.here hx rfl (hb hby d4_2) rfl (by decide) k) ?_
  show own_Wp p e below _ s₁ (mkF m 5 #[.val (.int (2 : Int32)), .val (.int (4 : Int32))] [])
  refine own_step (fun _ k => XS.iloadN X0.here hx rfl (hb hby d4_5) rfl k) ?_
  show own_Wp p e below _ s₁ (mkF m 6 #[.val (.int (2 : Int32)), .val (.int (4 : Int32))] [(.int (2 : Int32))])
  refine own_step (fun _ k => XS.goto X0.here hx rfl (pc0 := 6) (pc' := 10) rfl (hb hby d4_6) (by decide) (by decide) k) ?_
  show own_Wp p e below _ s₁ (mkF m 10 #[.val (.int (2 : Int32)), .val (.int (4 : Int32))] [(.int (2 : Int32))])
  exact own_retI X0 hx hret hlk (hb hby d4_10) (by decide) (by decide) (by rw [e0]; exact ⟨rfl, (Fr.nil n0), rfl⟩)

set_option maxRecDepth 65536 in
set_option maxHeartbeats 40000000 in
theorem rm5_57 (l : Launch) (Z : State) (a0 : Array Value) (hw : ∀ d ∈ tables_1, d.before a0 Z = true) (hA : ∀ d ∈ own_flat narrow_1, d.value a0 Z none Z [] = some true) (ws : List Jvm.Cond) (h0 : Heap) (n0 : Nat) (O0 : Old Z n0 h0) :
    own_Met l Z (⟨"java/lang/Math", "max", "(II)I"⟩ : MethodName) (Jvm.Cond.code (⟨"java/lang/Math", "max", "(II)I"⟩ : MethodName) jdk_29_method_65_code 2 (some .int)) ws ({ frames := 0, cells := 0, slots := 0, locals := 0 } : Room) #[(.int (2 : Int32)), (.int (4 : Int32))] h0 (fun v h L => (v = some (.int (4 : Int32)) ∧ Fr n0 L ∧ h = h0)) := by
  refine own_met (own := "java/lang/Math") (Jvm.Free.JP.mathPlain rfl (by decide +kernel)) rfl ?_
  intro p e s m below meth c s₁ hx hby hml hown hnm hret hlk hZ e0 X0
  refine own_cast (g' := (mkF m 0 #[.val (.int (2 : Int32)), .val (.int (4 : Int32))] [])) (by first | (simp [entryFrame, mkF, argsToLocals, Value.category]; done) | rfl) ?_
  refine own_step (fun _ k => XS.iloadN X0.here hx rfl (hb hby d5_0) rfl k) ?_
  show own_Wp p e below _ s₁ (mkF m 1 #[.val (.int (2 : Int32)), .val (.int (4 : Int32))] [(.int (2 : Int32))])
  refine own_step (fun _ k => XS.iloadN X0.here hx rfl (hb hby d5_1) rfl k) ?_
  show own_Wp p e below _ s₁ (mkF m 2 #[.val (.int (2 : Int32)), .val (.int (4 : Int32))] [(.int (4 : Int32)), (.int (2 : Int32))])
  refine own_step (fun _ k => XS.icmpYes X0.here hx rfl (pc0 := 2) (pc' := 9) rfl (hb hby d5_2) rfl (by decide) (by decide) (by decide) k) ?_
  show own_Wp p e below _ s₁ (mkF m 9 #[.val (.int (2 : Int32)), .val (.int (4 : Int32))] [])
  refine own_step (fun _ k => XS.iloadN X0.here hx rfl (hb hby d5_9) rfl k) ?_
  show own_Wp p e below _ s₁ (mkF m 10 #[.val (.int (2 : Int32)), .val (.int (4 : Int32))] [(.int (4 : Int32))])
  exact own_retI X0 hx hret hlk (hb hby d5_10) (by decide) (by decide) (by rw [e0]; exact ⟨rfl, (Fr.nil n0), rfl⟩)

set_option maxRecDepth 65536 in
set_option maxHeartbeats 40000000 in
theorem rm3_58 (l : Launch) (Z : State) (a0 : Array Value) (hw : ∀ d ∈ tables_1, d.before a0 Z = true) (hA : ∀ d ∈ own_flat narrow_1, d.value a0 Z none Z [] = some true) (ws : List Jvm.Cond) (h0 : Heap) (n0 : Nat) (O0 : Old Z n0 h0) :
    own_Met l Z (⟨"com/example/pathfare/pathfare/alto/TypeIsCompatibleWithPinLaw", "expected", "(II)Z"⟩ : MethodName) (Jvm.Cond.code (⟨"com/example/pathfare/pathfare/alto/TypeIsCompatibleWithPinLaw", "expected", "(II)Z"⟩ : MethodName) method_3_code 4 (some .boolean)) ws ({ frames := 1, cells := 0, slots := 0, locals := 13 } : Room) #[(.int (2 : Int32)), (.int (4 : Int32))] h0 (fun v h L => (v = some (.int (0 : Int32)) ∧ Fr n0 L ∧ h = h0)) := by
  refine own_met (own := "com/example/pathfare/pathfare/alto/TypeIsCompatibleWithPinLaw") (plainFor_of_name pn0) rfl ?_
  intro p e s m below meth c s₁ hx hby hml hown hnm hret hlk hZ e0 X0
  refine own_cast (g' := (mkF m 0 #[.val (.int (2 : Int32)), .val (.int (4 : Int32)), .unset, .unset] [])) (by first | (simp [entryFrame, mkF, argsToLocals, Value.category]; done) | rfl) ?_
  refine own_step (fun _ k => XS.iloadN X0.here hx rfl (hb hby d3_0) rfl k) ?_
  show own_Wp p e below _ s₁ (mkF m 1 #[.val (.int (2 : Int32)), .val (.int (4 : Int32)), .unset, .unset] [(.int (2 : Int32))])
  refine own_step (fun _ k => XS.iloadN X0.here hx rfl (hb hby d3_1) rfl k) ?_
  show own_Wp p e below _ s₁ (mkF m 2 #[.val (.int (2 : Int32)), .val (.int (4 : Int32)), .unset, .unset] [(.int (4 : Int32)), (.int (2 : Int32))])
  refine own_step (fun _ k => XS.icmpYes X0.here hx rfl (pc0 := 2) (pc' := 7) rfl (hb hby d3_2) rfl (by decide) (by decide) (by decide) k) ?_
  show own_Wp p e below _ s₁ (mkF m 7 #[.val (.int (2 : Int32)), .val (.int (4 : Int32)), .unset, .unset] [])
  refine own_step (fun _ k => XS.iloadN X0.here hx rfl (hb hby d3_7) rfl k) ?_
  show own_Wp p e below _ s₁ (mkF m 8 #[.val (.int (2 : Int32)), .val (.int (4 : Int32)), .unset, .unset] [(.int (2 : Int32))])
  refine own_step (fun _ k => XS.iloadN X0.here hx rfl (hb hby d3_8) rfl k) ?_
  show own_Wp p e below _ s₁ (mkF m 9 #[.val (.int (2 : Int32)), .val (.int (4 : Int32)), .unset, .unset] [(.int (4 : Int32)), (.int (2 : Int32))])
  obtain ⟨_, T1, L1, X1, hQ1, st1⟩ := own_callS X0 hx hZ hown (hw _ (List.mem_of_getElem? (i := 20) rfl)) (hw _ (List.mem_of_getElem? (i := 21) rfl)) (hw _ (List.mem_of_getElem? (i := 22) rfl)) (hw _ (List.mem_of_getElem? (i := 23) rfl)) (by decide) (rm4_56 l Z a0 hw hA [] h0 n0 O0) (W := 0) (by decide) (by decide) [(.int (2 : Int32)), (.int (4 : Int32))] rfl (lenOf pd5 rfl) (Ls := #[.val (.int (2 : Int32)), .val (.int (4 : Int32)), .unset, .unset]) (by rw [hml]; rfl) (rest := []) (Nat.le_of_eq rfl) (hb hby d3_9) e0 (by decide) (by decide)
  refine st1 _ ?_
  obtain ⟨rfl, N1q, e1⟩ := hQ1
  have N1 := Fr.app (Fr.nil n0) N1q
  show own_Wp p e below _ T1 (mkF m 12 #[.val (.int (2 : Int32)), .val (.int (4 : Int32)), .unset, .unset] [(.int (2 : Int32))])
  refine own_step (fun _ k => XS.istoreN X1.here hx rfl (hb hby d3_12) rfl (l' := #[.val (.int (2 : Int32)), .val (.int (4 : Int32)), .val (.int (2 : Int32)), .unset]) rfl k) ?_
  show own_Wp p e below _ T1 (mkF m 13 #[.val (.int (2 : Int32)), .val (.int (4 : Int32)), .val (.int (2 : Int32)), .unset] [])
  refine own_step (fun _ k => XS.iloadN X1.here hx rfl (hb hby d3_13) rfl k) ?_
  show own_Wp p e below _ T1 (mkF m 14 #[.val (.int (2 : Int32)), .val (.int (4 : Int32)), .val (.int (2 : Int32)), .unset] [(.int (2 : Int32))])
  refine own_step (fun _ k => XS.iloadN X1.here hx rfl (hb hby d3_14) rfl k) ?_
  show own_Wp p e below _ T1 (mkF m 15 #[.val (.int (2 : Int32)), .val (.int (4 : Int32)), .val (.int (2 : Int32)), .unset] [(.int (4 : Int32)), (.int (2 : Int32))])
  obtain ⟨_, T2, L2, X2, hQ2, st2⟩ := own_callS X1 hx hZ hown (hw _ (List.mem_of_getElem? (i := 24) rfl)) (hw _ (List.mem_of_getElem? (i := 25) rfl)) (hw _ (List.mem_of_getElem? (i := 22) rfl)) (hw _ (List.mem_of_getElem? (i := 26) rfl)) (by decide) (rm5_57 l Z a0 hw hA [] h0 n0 O0) (W := 0) (by decide) (by decide) [(.int (2 : Int32)), (.int (4 : Int32))] rfl (lenOf pd5 rfl) (Ls := #[.val (.int (2 : Int32)), .val (.int (4 : Int32)), .val (.int (2 : Int32)), .unset]) (by rw [hml]; rfl) (rest := []) (Nat.le_of_eq rfl) (hb hby d3_15) e1 (by decide) (by decide)
  refine st2 _ ?_
  obtain ⟨rfl, N2q, e2⟩ := hQ2
  have N2 := Fr.app N1 N2q
  show own_Wp p e below _ T2 (mkF m 18 #[.val (.int (2 : Int32)), .val (.int (4 : Int32)), .val (.int (2 : Int32)), .unset] [(.int (4 : Int32))])
  refine own_step (fun _ k => XS.istoreN X2.here hx rfl (hb hby d3_18) rfl (l' := #[.val (.int (2 : Int32)), .val (.int (4 : Int32)), .val (.int (2 : Int32)), .val (.int (4 : Int32))]) rfl k) ?_
  show own_Wp p e below _ T2 (mkF m 19 #[.val (.int (2 : Int32)), .val (.int (4 : Int32)), .val (.int (2 : Int32)), .val (.int (4 : Int32))] [])
  refine own_step (fun _ k => XS.iloadN X2.here hx rfl (hb hby d3_19) rfl k) ?_
  show own_Wp p e below _ T2 (mkF m 20 #[.val (.int (2 : Int32)), .val (.int (4 : Int32)), .val (.int (2 : Int32)), .val (.int (4 : Int32))] [(.int (2 : Int32))])
  refine own_step (fun _ k => XS.ifYes X2.here hx rfl (pc0 := 20) (pc' := 39) rfl (hb hby d3_20) rfl (by decide) (by decide) (by decide) k) ?_
  show own_Wp p e below _ T2 (mkF m 39 #[.val (.int (2 : Int32)), .val (.int (4 : Int32)), .val (.int (2 : Int32)), .val (.int (4 : Int32))] [])
  refine own_step (fun _ k => XS.iloadN X2.here hx rfl (hb hby d3_39) rfl k) ?_
  show own_Wp p e below _ T2 (mkF m 40 #[.val (.int (2 : Int32)), .val (.int (4 : Int32)), .val (.int (2 : Int32)), .val (.int (4 : Int32))] [(.int (2 : Int32))])
  refine own_step (fun _ k => XS.iconst X2.here hx rfl (hb hby d3_40) k) ?_
  show own_Wp p e below _ T2 (mkF m 41 #[.val (.int (2 : Int32)), .val (.int (4 : Int32)), .val (.int (2 : Int32)), .val (.int (4 : Int32))] [(.int (1 : Int32)), (.int (2 : Int32))])
  refine own_step (fun _ k => XS.icmpYes X2.here hx rfl (pc0 := 41) (pc' := 60) rfl (hb hby d3_41) rfl (by decide) (by decide) (by decide) k) ?_
  show own_Wp p e below _ T2 (mkF m 60 #[.val (.int (2 : Int32)), .val (.int (4 : Int32)), .val (.int (2 : Int32)), .val (.int (4 : Int32))] [])
  refine own_step (fun _ k => XS.iconst X2.here hx rfl (hb hby d3_60) k) ?_
  show own_Wp p e below _ T2 (mkF m 61 #[.val (.int (2 : Int32)), .val (.int (4 : Int32)), .val (.int (2 : Int32)), .val (.int (4 : Int32))] [(.int (0 : Int32))])
  exact own_retN X2 hx (t := .boolean) hret (by simp) hlk (hb hby d3_61) (by decide) (by decide) (by rw [e2]; exact ⟨rfl, N2, rfl⟩)

set_option maxRecDepth 65536 in
set_option maxHeartbeats 40000000 in
theorem rm4_59 (l : Launch) (Z : State) (a0 : Array Value) (hw : ∀ d ∈ tables_1, d.before a0 Z = true) (hA : ∀ d ∈ own_flat narrow_1, d.value a0 Z none Z [] = some true) (ws : List Jvm.Cond) (h0 : Heap) (n0 : Nat) (O0 : Old Z n0 h0) :
    own_Met l Z (⟨"java/lang/Math", "min", "(II)I"⟩ : MethodName) (Jvm.Cond.code (⟨"java/lang/Math", "min", "(II)I"⟩ : MethodName) jdk_29_method_69_code 2 (some .int)) ws ({ frames := 0, cells := 0, slots := 0, locals := 0 } : Room) #[(.int (2 : Int32)), (.int (5 : Int32))] h0 (fun v h L => (v = some (.int (2 : Int32)) ∧ Fr n0 L ∧ h = h0)) := by
  refine own_met (own := "java/lang/Math") (Jvm.Free.JP.mathPlain rfl (by decide +kernel)) rfl ?_
  intro p e s m below meth c s₁ hx hby hml hown hnm hret hlk hZ e0 X0
  refine own_cast (g' := (mkF m 0 #[.val (.int (2 : Int32)), .val (.int (5 : Int32))] [])) (by first | (simp [entryFrame, mkF, argsToLocals, Value.category]; done) | rfl) ?_
  refine own_step (fun _ k => XS.iloadN X0.here hx rfl (hb hby d4_0) rfl k) ?_
  show own_Wp p e below _ s₁ (mkF m 1 #[.val (.int (2 : Int32)), .val (.int (5 : Int32))] [(.int (2 : Int32))])
  refine own_step (fun _ k => XS.iloadN X0.here hx rfl (hb hby d4_1) rfl k) ?_
  show own_Wp p e below _ s₁ (mkF m 2 #[.val (.int (2 : Int32)), .val (.int (5 : Int32))] [(.int (5 : Int32)), (.int (2 : Int32))])
  refine own_step (fun _ k => XS.icmpNo X0.here hx rfl (hb hby d4_2) rfl (by decide) k) ?_
  show own_Wp p e below _ s₁ (mkF m 5 #[.val (.int (2 : Int32)), .val (.int (5 : Int32))] [])
  refine own_step (fun _ k => XS.iloadN X0.here hx rfl (hb hby d4_5) rfl k) ?_
  show own_Wp p e below _ s₁ (mkF m 6 #[.val (.int (2 : Int32)), .val (.int (5 : Int32))] [(.int (2 : Int32))])
  refine own_step (fun _ k => XS.goto X0.here hx rfl (pc0 := 6) (pc' := 10) rfl (hb hby d4_6) (by decide) (by decide) k) ?_
  show own_Wp p e below _ s₁ (mkF m 10 #[.val (.int (2 : Int32)), .val (.int (5 : Int32))] [(.int (2 : Int32))])
  exact own_retI X0 hx hret hlk (hb hby d4_10) (by decide) (by decide) (by rw [e0]; exact ⟨rfl, (Fr.nil n0), rfl⟩)

set_option maxRecDepth 65536 in
set_option maxHeartbeats 40000000 in
theorem rm5_60 (l : Launch) (Z : State) (a0 : Array Value) (hw : ∀ d ∈ tables_1, d.before a0 Z = true) (hA : ∀ d ∈ own_flat narrow_1, d.value a0 Z none Z [] = some true) (ws : List Jvm.Cond) (h0 : Heap) (n0 : Nat) (O0 : Old Z n0 h0) :
    own_Met l Z (⟨"java/lang/Math", "max", "(II)I"⟩ : MethodName) (Jvm.Cond.code (⟨"java/lang/Math", "max", "(II)I"⟩ : MethodName) jdk_29_method_65_code 2 (some .int)) ws ({ frames := 0, cells := 0, slots := 0, locals := 0 } : Room) #[(.int (2 : Int32)), (.int (5 : Int32))] h0 (fun v h L => (v = some (.int (5 : Int32)) ∧ Fr n0 L ∧ h = h0)) := by
  refine own_met (own := "java/lang/Math") (Jvm.Free.JP.mathPlain rfl (by decide +kernel)) rfl ?_
  intro p e s m below meth c s₁ hx hby hml hown hnm hret hlk hZ e0 X0
  refine own_cast (g' := (mkF m 0 #[.val (.int (2 : Int32)), .val (.int (5 : Int32))] [])) (by first | (simp [entryFrame, mkF, argsToLocals, Value.category]; done) | rfl) ?_
  refine own_step (fun _ k => XS.iloadN X0.here hx rfl (hb hby d5_0) rfl k) ?_
  show own_Wp p e below _ s₁ (mkF m 1 #[.val (.int (2 : Int32)), .val (.int (5 : Int32))] [(.int (2 : Int32))])
  refine own_step (fun _ k => XS.iloadN X0.here hx rfl (hb hby d5_1) rfl k) ?_
  show own_Wp p e below _ s₁ (mkF m 2 #[.val (.int (2 : Int32)), .val (.int (5 : Int32))] [(.int (5 : Int32)), (.int (2 : Int32))])
  refine own_step (fun _ k => XS.icmpYes X0.here hx rfl (pc0 := 2) (pc' := 9) rfl (hb hby d5_2) rfl (by decide) (by decide) (by decide) k) ?_
  show own_Wp p e below _ s₁ (mkF m 9 #[.val (.int (2 : Int32)), .val (.int (5 : Int32))] [])
  refine own_step (fun _ k => XS.iloadN X0.here hx rfl (hb hby d5_9) rfl k) ?_
  show own_Wp p e below _ s₁ (mkF m 10 #[.val (.int (2 : Int32)), .val (.int (5 : Int32))] [(.int (5 : Int32))])
  exact own_retI X0 hx hret hlk (hb hby d5_10) (by decide) (by decide) (by rw [e0]; exact ⟨rfl, (Fr.nil n0), rfl⟩)

set_option maxRecDepth 65536 in
set_option maxHeartbeats 40000000 in
theorem rm3_61 (l : Launch) (Z : State) (a0 : Array Value) (hw : ∀ d ∈ tables_1, d.before a0 Z = true) (hA : ∀ d ∈ own_flat narrow_1, d.value a0 Z none Z [] = some true) (ws : List Jvm.Cond) (h0 : Heap) (n0 : Nat) (O0 : Old Z n0 h0) :
    own_Met l Z (⟨"com/example/pathfare/pathfare/alto/TypeIsCompatibleWithPinLaw", "expected", "(II)Z"⟩ : MethodName) (Jvm.Cond.code (⟨"com/example/pathfare/pathfare/alto/TypeIsCompatibleWithPinLaw", "expected", "(II)Z"⟩ : MethodName) method_3_code 4 (some .boolean)) ws ({ frames := 1, cells := 0, slots := 0, locals := 13 } : Room) #[(.int (2 : Int32)), (.int (5 : Int32))] h0 (fun v h L => (v = some (.int (0 : Int32)) ∧ Fr n0 L ∧ h = h0)) := by
  refine own_met (own := "com/example/pathfare/pathfare/alto/TypeIsCompatibleWithPinLaw") (plainFor_of_name pn0) rfl ?_
  intro p e s m below meth c s₁ hx hby hml hown hnm hret hlk hZ e0 X0
  refine own_cast (g' := (mkF m 0 #[.val (.int (2 : Int32)), .val (.int (5 : Int32)), .unset, .unset] [])) (by first | (simp [entryFrame, mkF, argsToLocals, Value.category]; done) | rfl) ?_
  refine own_step (fun _ k => XS.iloadN X0.here hx rfl (hb hby d3_0) rfl k) ?_
  show own_Wp p e below _ s₁ (mkF m 1 #[.val (.int (2 : Int32)), .val (.int (5 : Int32)), .unset, .unset] [(.int (2 : Int32))])
  refine own_step (fun _ k => XS.iloadN X0.here hx rfl (hb hby d3_1) rfl k) ?_
  show own_Wp p e below _ s₁ (mkF m 2 #[.val (.int (2 : Int32)), .val (.int (5 : Int32)), .unset, .unset] [(.int (5 : Int32)), (.int (2 : Int32))])
  refine own_step (fun _ k => XS.icmpYes X0.here hx rfl (pc0 := 2) (pc' := 7) rfl (hb hby d3_2) rfl (by decide) (by decide) (by decide) k) ?_
  show own_Wp p e below _ s₁ (mkF m 7 #[.val (.int (2 : Int32)), .val (.int (5 : Int32)), .unset, .unset] [])
  refine own_step (fun _ k => XS.iloadN X0.here hx rfl (hb hby d3_7) rfl k) ?_
  show own_Wp p e below _ s₁ (mkF m 8 #[.val (.int (2 : Int32)), .val (.int (5 : Int32)), .unset, .unset] [(.int (2 : Int32))])
  refine own_step (fun _ k => XS.iloadN X0.here hx rfl (hb hby d3_8) rfl k) ?_
  show own_Wp p e below _ s₁ (mkF m 9 #[.val (.int (2 : Int32)), .val (.int (5 : Int32)), .unset, .unset] [(.int (5 : Int32)), (.int (2 : Int32))])
  obtain ⟨_, T1, L1, X1, hQ1, st1⟩ := own_callS X0 hx hZ hown (hw _ (List.mem_of_getElem? (i := 20) rfl)) (hw _ (List.mem_of_getElem? (i := 21) rfl)) (hw _ (List.mem_of_getElem? (i := 22) rfl)) (hw _ (List.mem_of_getElem? (i := 23) rfl)) (by decide) (rm4_59 l Z a0 hw hA [] h0 n0 O0) (W := 0) (by decide) (by decide) [(.int (2 : Int32)), (.int (5 : Int32))] rfl (lenOf pd5 rfl) (Ls := #[.val (.int (2 : Int32)), .val (.int (5 : Int32)), .unset, .unset]) (by rw [hml]; rfl) (rest := []) (Nat.le_of_eq rfl) (hb hby d3_9) e0 (by decide) (by decide)
  refine st1 _ ?_
  obtain ⟨rfl, N1q, e1⟩ := hQ1
  have N1 := Fr.app (Fr.nil n0) N1q
  show own_Wp p e below _ T1 (mkF m 12 #[.val (.int (2 : Int32)), .val (.int (5 : Int32)), .unset, .unset] [(.int (2 : Int32))])
  refine own_step (fun _ k => XS.istoreN X1.here hx rfl (hb hby d3_12) rfl (l' := #[.val (.int (2 : Int32)), .val (.int (5 : Int32)), .val (.int (2 : Int32)), .unset]) rfl k) ?_
  show own_Wp p e below _ T1 (mkF m 13 #[.val (.int (2 : Int32)), .val (.int (5 : Int32)), .val (.int (2 : Int32)), .unset] [])
  refine own_step (fun _ k => XS.iloadN X1.here hx rfl (hb hby d3_13) rfl k) ?_
  show own_Wp p e below _ T1 (mkF m 14 #[.val (.int (2 : Int32)), .val (.int (5 : Int32)), .val (.int (2 : Int32)), .unset] [(.int (2 : Int32))])
  refine own_step (fun _ k => XS.iloadN X1.here hx rfl (hb hby d3_14) rfl k) ?_
  show own_Wp p e below _ T1 (mkF m 15 #[.val (.int (2 : Int32)), .val (.int (5 : Int32)), .val (.int (2 : Int32)), .unset] [(.int (5 : Int32)), (.int (2 : Int32))])
  obtain ⟨_, T2, L2, X2, hQ2, st2⟩ := own_callS X1 hx hZ hown (hw _ (List.mem_of_getElem? (i := 24) rfl)) (hw _ (List.mem_of_getElem? (i := 25) rfl)) (hw _ (List.mem_of_getElem? (i := 22) rfl)) (hw _ (List.mem_of_getElem? (i := 26) rfl)) (by decide) (rm5_60 l Z a0 hw hA [] h0 n0 O0) (W := 0) (by decide) (by decide) [(.int (2 : Int32)), (.int (5 : Int32))] rfl (lenOf pd5 rfl) (Ls := #[.val (.int (2 : Int32)), .val (.int (5 : Int32)), .val (.int (2 : Int32)), .unset]) (by rw [hml]; rfl) (rest := []) (Nat.le_of_eq rfl) (hb hby d3_15) e1 (by decide) (by decide)
  refine st2 _ ?_
  obtain ⟨rfl, N2q, e2⟩ := hQ2
  have N2 := Fr.app N1 N2q
  show own_Wp p e below _ T2 (mkF m 18 #[.val (.int (2 : Int32)), .val (.int (5 : Int32)), .val (.int (2 : Int32)), .unset] [(.int (5 : Int32))])
  refine own_step (fun _ k => XS.istoreN X2.here hx rfl (hb hby d3_18) rfl (l' := #[.val (.int (2 : Int32)), .val (.int (5 : Int32)), .val (.int (2 : Int32)), .val (.int (5 : Int32))]) rfl k) ?_
  show own_Wp p e below _ T2 (mkF m 19 #[.val (.int (2 : Int32)), .val (.int (5 : Int32)), .val (.int (2 : Int32)), .val (.int (5 : Int32))] [])
  refine own_step (fun _ k => XS.iloadN X2.here hx rfl (hb hby d3_19) rfl k) ?_
  show own_Wp p e below _ T2 (mkF m 20 #[.val (.int (2 : Int32)), .val (.int (5 : Int32)), .val (.int (2 : Int32)), .val (.int (5 : Int32))] [(.int (2 : Int32))])
  refine own_step (fun _ k => XS.ifYes X2.here hx rfl (pc0 := 20) (pc' := 39) rfl (hb hby d3_20) rfl (by decide) (by decide) (by decide) k) ?_
  show own_Wp p e below _ T2 (mkF m 39 #[.val (.int (2 : Int32)), .val (.int (5 : Int32)), .val (.int (2 : Int32)), .val (.int (5 : Int32))] [])
  refine own_step (fun _ k => XS.iloadN X2.here hx rfl (hb hby d3_39) rfl k) ?_
  show own_Wp p e below _ T2 (mkF m 40 #[.val (.int (2 : Int32)), .val (.int (5 : Int32)), .val (.int (2 : Int32)), .val (.int (5 : Int32))] [(.int (2 : Int32))])
  refine own_step (fun _ k => XS.iconst X2.here hx rfl (hb hby d3_40) k) ?_
  show own_Wp p e below _ T2 (mkF m 41 #[.val (.int (2 : Int32)), .val (.int (5 : Int32)), .val (.int (2 : Int32)), .val (.int (5 : Int32))] [(.int (1 : Int32)), (.int (2 : Int32))])
  refine own_step (fun _ k => XS.icmpYes X2.here hx rfl (pc0 := 41) (pc' := 60) rfl (hb hby d3_41) rfl (by decide) (by decide) (by decide) k) ?_
  show own_Wp p e below _ T2 (mkF m 60 #[.val (.int (2 : Int32)), .val (.int (5 : Int32)), .val (.int (2 : Int32)), .val (.int (5 : Int32))] [])
  refine own_step (fun _ k => XS.iconst X2.here hx rfl (hb hby d3_60) k) ?_
  show own_Wp p e below _ T2 (mkF m 61 #[.val (.int (2 : Int32)), .val (.int (5 : Int32)), .val (.int (2 : Int32)), .val (.int (5 : Int32))] [(.int (0 : Int32))])
  exact own_retN X2 hx (t := .boolean) hret (by simp) hlk (hb hby d3_61) (by decide) (by decide) (by rw [e2]; exact ⟨rfl, N2, rfl⟩)

set_option maxRecDepth 65536 in
set_option maxHeartbeats 40000000 in
theorem rm4_62 (l : Launch) (Z : State) (a0 : Array Value) (hw : ∀ d ∈ tables_1, d.before a0 Z = true) (hA : ∀ d ∈ own_flat narrow_1, d.value a0 Z none Z [] = some true) (ws : List Jvm.Cond) (h0 : Heap) (n0 : Nat) (O0 : Old Z n0 h0) :
    own_Met l Z (⟨"java/lang/Math", "min", "(II)I"⟩ : MethodName) (Jvm.Cond.code (⟨"java/lang/Math", "min", "(II)I"⟩ : MethodName) jdk_29_method_69_code 2 (some .int)) ws ({ frames := 0, cells := 0, slots := 0, locals := 0 } : Room) #[(.int (3 : Int32)), (.int (0 : Int32))] h0 (fun v h L => (v = some (.int (0 : Int32)) ∧ Fr n0 L ∧ h = h0)) := by
  refine own_met (own := "java/lang/Math") (Jvm.Free.JP.mathPlain rfl (by decide +kernel)) rfl ?_
  intro p e s m below meth c s₁ hx hby hml hown hnm hret hlk hZ e0 X0
  refine own_cast (g' := (mkF m 0 #[.val (.int (3 : Int32)), .val (.int (0 : Int32))] [])) (by first | (simp [entryFrame, mkF, argsToLocals, Value.category]; done) | rfl) ?_
  refine own_step (fun _ k => XS.iloadN X0.here hx rfl (hb hby d4_0) rfl k) ?_
  show own_Wp p e below _ s₁ (mkF m 1 #[.val (.int (3 : Int32)), .val (.int (0 : Int32))] [(.int (3 : Int32))])
  refine own_step (fun _ k => XS.iloadN X0.here hx rfl (hb hby d4_1) rfl k) ?_
  show own_Wp p e below _ s₁ (mkF m 2 #[.val (.int (3 : Int32)), .val (.int (0 : Int32))] [(.int (0 : Int32)), (.int (3 : Int32))])
  refine own_step (fun _ k => XS.icmpYes X0.here hx rfl (pc0 := 2) (pc' := 9) rfl (hb hby d4_2) rfl (by decide) (by decide) (by decide) k) ?_
  show own_Wp p e below _ s₁ (mkF m 9 #[.val (.int (3 : Int32)), .val (.int (0 : Int32))] [])
  refine own_step (fun _ k => XS.iloadN X0.here hx rfl (hb hby d4_9) rfl k) ?_
  show own_Wp p e below _ s₁ (mkF m 10 #[.val (.int (3 : Int32)), .val (.int (0 : Int32))] [(.int (0 : Int32))])
  exact own_retI X0 hx hret hlk (hb hby d4_10) (by decide) (by decide) (by rw [e0]; exact ⟨rfl, (Fr.nil n0), rfl⟩)

set_option maxRecDepth 65536 in
set_option maxHeartbeats 40000000 in
theorem rm5_63 (l : Launch) (Z : State) (a0 : Array Value) (hw : ∀ d ∈ tables_1, d.before a0 Z = true) (hA : ∀ d ∈ own_flat narrow_1, d.value a0 Z none Z [] = some true) (ws : List Jvm.Cond) (h0 : Heap) (n0 : Nat) (O0 : Old Z n0 h0) :
    own_Met l Z (⟨"java/lang/Math", "max", "(II)I"⟩ : MethodName) (Jvm.Cond.code (⟨"java/lang/Math", "max", "(II)I"⟩ : MethodName) jdk_29_method_65_code 2 (some .int)) ws ({ frames := 0, cells := 0, slots := 0, locals := 0 } : Room) #[(.int (3 : Int32)), (.int (0 : Int32))] h0 (fun v h L => (v = some (.int (3 : Int32)) ∧ Fr n0 L ∧ h = h0)) := by
  refine own_met (own := "java/lang/Math") (Jvm.Free.JP.mathPlain rfl (by decide +kernel)) rfl ?_
  intro p e s m below meth c s₁ hx hby hml hown hnm hret hlk hZ e0 X0
  refine own_cast (g' := (mkF m 0 #[.val (.int (3 : Int32)), .val (.int (0 : Int32))] [])) (by first | (simp [entryFrame, mkF, argsToLocals, Value.category]; done) | rfl) ?_
  refine own_step (fun _ k => XS.iloadN X0.here hx rfl (hb hby d5_0) rfl k) ?_
  show own_Wp p e below _ s₁ (mkF m 1 #[.val (.int (3 : Int32)), .val (.int (0 : Int32))] [(.int (3 : Int32))])
  refine own_step (fun _ k => XS.iloadN X0.here hx rfl (hb hby d5_1) rfl k) ?_
  show own_Wp p e below _ s₁ (mkF m 2 #[.val (.int (3 : Int32)), .val (.int (0 : Int32))] [(.int (0 : Int32)), (.int (3 : Int32))])
  refine own_step (fun _ k => XS.icmpNo X0.here hx rfl (hb hby d5_2) rfl (by decide) k) ?_
  show own_Wp p e below _ s₁ (mkF m 5 #[.val (.int (3 : Int32)), .val (.int (0 : Int32))] [])
  refine own_step (fun _ k => XS.iloadN X0.here hx rfl (hb hby d5_5) rfl k) ?_
  show own_Wp p e below _ s₁ (mkF m 6 #[.val (.int (3 : Int32)), .val (.int (0 : Int32))] [(.int (3 : Int32))])
  refine own_step (fun _ k => XS.goto X0.here hx rfl (pc0 := 6) (pc' := 10) rfl (hb hby d5_6) (by decide) (by decide) k) ?_
  show own_Wp p e below _ s₁ (mkF m 10 #[.val (.int (3 : Int32)), .val (.int (0 : Int32))] [(.int (3 : Int32))])
  exact own_retI X0 hx hret hlk (hb hby d5_10) (by decide) (by decide) (by rw [e0]; exact ⟨rfl, (Fr.nil n0), rfl⟩)

set_option maxRecDepth 65536 in
set_option maxHeartbeats 40000000 in
theorem rm3_64 (l : Launch) (Z : State) (a0 : Array Value) (hw : ∀ d ∈ tables_1, d.before a0 Z = true) (hA : ∀ d ∈ own_flat narrow_1, d.value a0 Z none Z [] = some true) (ws : List Jvm.Cond) (h0 : Heap) (n0 : Nat) (O0 : Old Z n0 h0) :
    own_Met l Z (⟨"com/example/pathfare/pathfare/alto/TypeIsCompatibleWithPinLaw", "expected", "(II)Z"⟩ : MethodName) (Jvm.Cond.code (⟨"com/example/pathfare/pathfare/alto/TypeIsCompatibleWithPinLaw", "expected", "(II)Z"⟩ : MethodName) method_3_code 4 (some .boolean)) ws ({ frames := 1, cells := 0, slots := 0, locals := 13 } : Room) #[(.int (3 : Int32)), (.int (0 : Int32))] h0 (fun v h L => (v = some (.int (0 : Int32)) ∧ Fr n0 L ∧ h = h0)) := by
  refine own_met (own := "com/example/pathfare/pathfare/alto/TypeIsCompatibleWithPinLaw") (plainFor_of_name pn0) rfl ?_
  intro p e s m below meth c s₁ hx hby hml hown hnm hret hlk hZ e0 X0
  refine own_cast (g' := (mkF m 0 #[.val (.int (3 : Int32)), .val (.int (0 : Int32)), .unset, .unset] [])) (by first | (simp [entryFrame, mkF, argsToLocals, Value.category]; done) | rfl) ?_
  refine own_step (fun _ k => XS.iloadN X0.here hx rfl (hb hby d3_0) rfl k) ?_
  show own_Wp p e below _ s₁ (mkF m 1 #[.val (.int (3 : Int32)), .val (.int (0 : Int32)), .unset, .unset] [(.int (3 : Int32))])
  refine own_step (fun _ k => XS.iloadN X0.here hx rfl (hb hby d3_1) rfl k) ?_
  show own_Wp p e below _ s₁ (mkF m 2 #[.val (.int (3 : Int32)), .val (.int (0 : Int32)), .unset, .unset] [(.int (0 : Int32)), (.int (3 : Int32))])
  refine own_step (fun _ k => XS.icmpYes X0.here hx rfl (pc0 := 2) (pc' := 7) rfl (hb hby d3_2) rfl (by decide) (by decide) (by decide) k) ?_
  show own_Wp p e below _ s₁ (mkF m 7 #[.val (.int (3 : Int32)), .val (.int (0 : Int32)), .unset, .unset] [])
  refine own_step (fun _ k => XS.iloadN X0.here hx rfl (hb hby d3_7) rfl k) ?_
  show own_Wp p e below _ s₁ (mkF m 8 #[.val (.int (3 : Int32)), .val (.int (0 : Int32)), .unset, .unset] [(.int (3 : Int32))])
  refine own_step (fun _ k => XS.iloadN X0.here hx rfl (hb hby d3_8) rfl k) ?_
  show own_Wp p e below _ s₁ (mkF m 9 #[.val (.int (3 : Int32)), .val (.int (0 : Int32)), .unset, .unset] [(.int (0 : Int32)), (.int (3 : Int32))])
  obtain ⟨_, T1, L1, X1, hQ1, st1⟩ := own_callS X0 hx hZ hown (hw _ (List.mem_of_getElem? (i := 20) rfl)) (hw _ (List.mem_of_getElem? (i := 21) rfl)) (hw _ (List.mem_of_getElem? (i := 22) rfl)) (hw _ (List.mem_of_getElem? (i := 23) rfl)) (by decide) (rm4_62 l Z a0 hw hA [] h0 n0 O0) (W := 0) (by decide) (by decide) [(.int (3 : Int32)), (.int (0 : Int32))] rfl (lenOf pd5 rfl) (Ls := #[.val (.int (3 : Int32)), .val (.int (0 : Int32)), .unset, .unset]) (by rw [hml]; rfl) (rest := []) (Nat.le_of_eq rfl) (hb hby d3_9) e0 (by decide) (by decide)
  refine st1 _ ?_
  obtain ⟨rfl, N1q, e1⟩ := hQ1
  have N1 := Fr.app (Fr.nil n0) N1q
  show own_Wp p e below _ T1 (mkF m 12 #[.val (.int (3 : Int32)), .val (.int (0 : Int32)), .unset, .unset] [(.int (0 : Int32))])
  refine own_step (fun _ k => XS.istoreN X1.here hx rfl (hb hby d3_12) rfl (l' := #[.val (.int (3 : Int32)), .val (.int (0 : Int32)), .val (.int (0 : Int32)), .unset]) rfl k) ?_
  show own_Wp p e below _ T1 (mkF m 13 #[.val (.int (3 : Int32)), .val (.int (0 : Int32)), .val (.int (0 : Int32)), .unset] [])
  refine own_step (fun _ k => XS.iloadN X1.here hx rfl (hb hby d3_13) rfl k) ?_
  show own_Wp p e below _ T1 (mkF m 14 #[.val (.int (3 : Int32)), .val (.int (0 : Int32)), .val (.int (0 : Int32)), .unset] [(.int (3 : Int32))])
  refine own_step (fun _ k => XS.iloadN X1.here hx rfl (hb hby d3_14) rfl k) ?_
  show own_Wp p e below _ T1 (mkF m 15 #[.val (.int (3 : Int32)), .val (.int (0 : Int32)), .val (.int (0 : Int32)), .unset] [(.int (0 : Int32)), (.int (3 : Int32))])
  obtain ⟨_, T2, L2, X2, hQ2, st2⟩ := own_callS X1 hx hZ hown (hw _ (List.mem_of_getElem? (i := 24) rfl)) (hw _ (List.mem_of_getElem? (i := 25) rfl)) (hw _ (List.mem_of_getElem? (i := 22) rfl)) (hw _ (List.mem_of_getElem? (i := 26) rfl)) (by decide) (rm5_63 l Z a0 hw hA [] h0 n0 O0) (W := 0) (by decide) (by decide) [(.int (3 : Int32)), (.int (0 : Int32))] rfl (lenOf pd5 rfl) (Ls := #[.val (.int (3 : Int32)), .val (.int (0 : Int32)), .val (.int (0 : Int32)), .unset]) (by rw [hml]; rfl) (rest := []) (Nat.le_of_eq rfl) (hb hby d3_15) e1 (by decide) (by decide)
  refine st2 _ ?_
  obtain ⟨rfl, N2q, e2⟩ := hQ2
  have N2 := Fr.app N1 N2q
  show own_Wp p e below _ T2 (mkF m 18 #[.val (.int (3 : Int32)), .val (.int (0 : Int32)), .val (.int (0 : Int32)), .unset] [(.int (3 : Int32))])
  refine own_step (fun _ k => XS.istoreN X2.here hx rfl (hb hby d3_18) rfl (l' := #[.val (.int (3 : Int32)), .val (.int (0 : Int32)), .val (.int (0 : Int32)), .val (.int (3 : Int32))]) rfl k) ?_
  show own_Wp p e below _ T2 (mkF m 19 #[.val (.int (3 : Int32)), .val (.int (0 : Int32)), .val (.int (0 : Int32)), .val (.int (3 : Int32))] [])
  refine own_step (fun _ k => XS.iloadN X2.here hx rfl (hb hby d3_19) rfl k) ?_
  show own_Wp p e below _ T2 (mkF m 20 #[.val (.int (3 : Int32)), .val (.int (0 : Int32)), .val (.int (0 : Int32)), .val (.int (3 : Int32))] [(.int (0 : Int32))])
  refine own_step (fun _ k => XS.ifNo X2.here hx rfl (hb hby d3_20) rfl (by decide) k) ?_
  show own_Wp p e below _ T2 (mkF m 23 #[.val (.int (3 : Int32)), .val (.int (0 : Int32)), .val (.int (0 : Int32)), .val (.int (3 : Int32))] [])
  refine own_step (fun _ k => XS.iloadN X2.here hx rfl (hb hby d3_23) rfl k) ?_
  show own_Wp p e below _ T2 (mkF m 24 #[.val (.int (3 : Int32)), .val (.int (0 : Int32)), .val (.int (0 : Int32)), .val (.int (3 : Int32))] [(.int (3 : Int32))])
  refine own_step (fun _ k => XS.iconst X2.here hx rfl (hb hby d3_24) k) ?_
  show own_Wp p e below _ T2 (mkF m 25 #[.val (.int (3 : Int32)), .val (.int (0 : Int32)), .val (.int (0 : Int32)), .val (.int (3 : Int32))] [(.int (2 : Int32)), (.int (3 : Int32))])
  refine own_step (fun _ k => XS.icmpNo X2.here hx rfl (hb hby d3_25) rfl (by decide) k) ?_
  show own_Wp p e below _ T2 (mkF m 28 #[.val (.int (3 : Int32)), .val (.int (0 : Int32)), .val (.int (0 : Int32)), .val (.int (3 : Int32))] [])
  refine own_step (fun _ k => XS.iloadN X2.here hx rfl (hb hby d3_28) rfl k) ?_
  show own_Wp p e below _ T2 (mkF m 29 #[.val (.int (3 : Int32)), .val (.int (0 : Int32)), .val (.int (0 : Int32)), .val (.int (3 : Int32))] [(.int (3 : Int32))])
  refine own_step (fun _ k => XS.iconst X2.here hx rfl (hb hby d3_29) k) ?_
  show own_Wp p e below _ T2 (mkF m 30 #[.val (.int (3 : Int32)), .val (.int (0 : Int32)), .val (.int (0 : Int32)), .val (.int (3 : Int32))] [(.int (4 : Int32)), (.int (3 : Int32))])
  refine own_step (fun _ k => XS.icmpYes X2.here hx rfl (pc0 := 30) (pc' := 37) rfl (hb hby d3_30) rfl (by decide) (by decide) (by decide) k) ?_
  show own_Wp p e below _ T2 (mkF m 37 #[.val (.int (3 : Int32)), .val (.int (0 : Int32)), .val (.int (0 : Int32)), .val (.int (3 : Int32))] [])
  refine own_step (fun _ k => XS.iconst X2.here hx rfl (hb hby d3_37) k) ?_
  show own_Wp p e below _ T2 (mkF m 38 #[.val (.int (3 : Int32)), .val (.int (0 : Int32)), .val (.int (0 : Int32)), .val (.int (3 : Int32))] [(.int (0 : Int32))])
  exact own_retN X2 hx (t := .boolean) hret (by simp) hlk (hb hby d3_38) (by decide) (by decide) (by rw [e2]; exact ⟨rfl, N2, rfl⟩)

set_option maxRecDepth 65536 in
set_option maxHeartbeats 40000000 in
theorem rm2_65 (l : Launch) (Z : State) (a0 : Array Value) (hw : ∀ d ∈ tables_1, d.before a0 Z = true) (hA : ∀ d ∈ own_flat narrow_1, d.value a0 Z none Z [] = some true) (ws : List Jvm.Cond) (x1 : Addr) (x2 : Addr) (h0 : Heap) (n0 : Nat) (O0 : Old Z n0 h0) (D0 : Fld Z Z.heap x1 "com/example/pathfare/pathfare/alto/EndpointAddress$Type" "ipv4" "Z" (.int (0 : Int32))) (D1 : Fld Z Z.heap x2 "com/example/pathfare/pathfare/alto/EndpointAddress$Type" "ipv4" "Z" (.int (0 : Int32))) (D2 : x1 ≠ x2) (D3 : Fld Z Z.heap x1 "com/example/pathfare/pathfare/alto/EndpointAddress$Type" "socket" "Z" (.int (1 : Int32))) (D4 : Fld Z Z.heap x2 "com/example/pathfare/pathfare/alto/EndpointAddress$Type" "socket" "Z" (.int (0 : Int32))) :
    own_Met l Z (⟨"com/example/pathfare/pathfare/alto/EndpointAddress$Type", "isCompatibleWith", "(Lcom/example/pathfare/pathfare/alto/EndpointAddress$Type;)Z"⟩ : MethodName) (Jvm.Cond.code (⟨"com/example/pathfare/pathfare/alto/EndpointAddress$Type", "isCompatibleWith", "(Lcom/example/pathfare/pathfare/alto/EndpointAddress$Type;)Z"⟩ : MethodName) prog_3_method_6_code 2 (some .boolean)) ws ({ frames := 0, cells := 0, slots := 0, locals := 0 } : Room) #[(.ref x1), (.ref x2)] h0 (fun v h L => (v = some (.int (1 : Int32)) ∧ Fr n0 L ∧ h = h0)) := by
  refine own_met (own := "com/example/pathfare/pathfare/alto/EndpointAddress$Type") (plainFor_of_name pn2) rfl ?_
  intro p e s m below meth c s₁ hx hby hml hown hnm hret hlk hZ e0 X0
  refine own_cast (g' := (mkF m 0 #[.val (.ref x1), .val (.ref x2)] [])) (by first | (simp [entryFrame, mkF, argsToLocals, Value.category]; done) | rfl) ?_
  refine own_step (fun _ k => XS.aloadN X0.here hx rfl (hb hby d2_0) rfl rfl k) ?_
  show own_Wp p e below _ s₁ (mkF m 1 #[.val (.ref x1), .val (.ref x2)] [(.ref x1)])
  obtain ⟨T1, X1, e1, st1⟩ := getF X0 hx hZ hown (host := "") (Or.inl (hw _ (List.mem_of_getElem? (i := 15) rfl))) Via.refl e0 (D0.ext O0.2) (g := (mkF m 1 #[.val (.ref x1), .val (.ref x2)] [(.ref x1)])) rfl rfl (hb hby d2_1)
  refine own_step st1 ?_
  show own_Wp p e below _ T1 (mkF m 4 #[.val (.ref x1), .val (.ref x2)] [(.int (0 : Int32))])
  refine own_step (fun _ k => XS.aloadN X1.here hx rfl (hb hby d2_4) rfl rfl k) ?_
  show own_Wp p e below _ T1 (mkF m 5 #[.val (.ref x1), .val (.ref x2)] [(.ref x2), (.int (0 : Int32))])
  obtain ⟨T2, X2, e2, st2⟩ := getF X1 hx hZ hown (host := "") (Or.inl (hw _ (List.mem_of_getElem? (i := 15) rfl))) Via.refl e1 (D1.ext O0.2) (g := (mkF m 5 #[.val (.ref x1), .val (.ref x2)] [(.ref x2), (.int (0 : Int32))])) rfl rfl (hb hby d2_5)
  refine own_step st2 ?_
  show own_Wp p e below _ T2 (mkF m 8 #[.val (.ref x1), .val (.ref x2)] [(.int (0 : Int32)), (.int (0 : Int32))])
  refine own_step (fun _ k => XS.icmpNo X2.here hx rfl (hb hby d2_8) rfl (by decide) k) ?_
  show own_Wp p e below _ T2 (mkF m 11 #[.val (.ref x1), .val (.ref x2)] [])
  refine own_step (fun _ k => XS.aloadN X2.here hx rfl (hb hby d2_11) rfl rfl k) ?_
  show own_Wp p e below _ T2 (mkF m 12 #[.val (.ref x1), .val (.ref x2)] [(.ref x1)])
  refine own_step (fun _ k => XS.aloadN X2.here hx rfl (hb hby d2_12) rfl rfl k) ?_
  show own_Wp p e below _ T2 (mkF m 13 #[.val (.ref x1), .val (.ref x2)] [(.ref x2), (.ref x1)])
  refine own_step (fun _ k => Jvm.RoadKit.acmp (g := (mkF m 13 #[.val (.ref x1), .val (.ref x2)] [(.ref x2), (.ref x1)])) X2 hx rfl rfl rfl (pc0 := 13) (pc' := 16) (same := false) rfl (hb hby d2_13) rfl (decide_eq_false fun q => D2 (Value.ref.inj q)) (by decide) (by decide) k) ?_
  show own_Wp p e below _ T2 (mkF m 16 #[.val (.ref x1), .val (.ref x2)] [])
  refine own_step (fun _ k => XS.aloadN X2.here hx rfl (hb hby d2_16) rfl rfl k) ?_
  show own_Wp p e below _ T2 (mkF m 17 #[.val (.ref x1), .val (.ref x2)] [(.ref x1)])
  obtain ⟨T3, X3, e3, st3⟩ := getF X2 hx hZ hown (host := "") (Or.inl (hw _ (List.mem_of_getElem? (i := 35) rfl))) Via.refl e2 (D3.ext O0.2) (g := (mkF m 17 #[.val (.ref x1), .val (.ref x2)] [(.ref x1)])) rfl rfl (hb hby d2_17)
  refine own_step st3 ?_
  show own_Wp p e below _ T3 (mkF m 20 #[.val (.ref x1), .val (.ref x2)] [(.int (1 : Int32))])
  refine own_step (fun _ k => XS.ifNo X3.here hx rfl (hb hby d2_20) rfl (by decide) k) ?_
  show own_Wp p e below _ T3 (mkF m 23 #[.val (.ref x1), .val (.ref x2)] [])
  refine own_step (fun _ k => XS.aloadN X3.here hx rfl (hb hby d2_23) rfl rfl k) ?_
  show own_Wp p e below _ T3 (mkF m 24 #[.val (.ref x1), .val (.ref x2)] [(.ref x2)])
  obtain ⟨T4, X4, e4, st4⟩ := getF X3 hx hZ hown (host := "") (Or.inl (hw _ (List.mem_of_getElem? (i := 35) rfl))) Via.refl e3 (D4.ext O0.2) (g := (mkF m 24 #[.val (.ref x1), .val (.ref x2)] [(.ref x2)])) rfl rfl (hb hby d2_24)
  refine own_step st4 ?_
  show own_Wp p e below _ T4 (mkF m 27 #[.val (.ref x1), .val (.ref x2)] [(.int (0 : Int32))])
  refine own_step (fun _ k => XS.ifNo X4.here hx rfl (hb hby d2_27) rfl (by decide) k) ?_
  show own_Wp p e below _ T4 (mkF m 30 #[.val (.ref x1), .val (.ref x2)] [])
  refine own_step (fun _ k => XS.iconst X4.here hx rfl (hb hby d2_30) k) ?_
  show own_Wp p e below _ T4 (mkF m 31 #[.val (.ref x1), .val (.ref x2)] [(.int (1 : Int32))])
  refine own_step (fun _ k => XS.goto X4.here hx rfl (pc0 := 31) (pc' := 35) rfl (hb hby d2_31) (by decide) (by decide) k) ?_
  show own_Wp p e below _ T4 (mkF m 35 #[.val (.ref x1), .val (.ref x2)] [(.int (1 : Int32))])
  exact own_retN X4 hx (t := .boolean) hret (by simp) hlk (hb hby d2_35) (by decide) (by decide) (by rw [e4]; exact ⟨rfl, (Fr.nil n0), rfl⟩)

set_option maxRecDepth 65536 in
set_option maxHeartbeats 40000000 in
theorem rm4_66 (l : Launch) (Z : State) (a0 : Array Value) (hw : ∀ d ∈ tables_1, d.before a0 Z = true) (hA : ∀ d ∈ own_flat narrow_1, d.value a0 Z none Z [] = some true) (ws : List Jvm.Cond) (h0 : Heap) (n0 : Nat) (O0 : Old Z n0 h0) :
    own_Met l Z (⟨"java/lang/Math", "min", "(II)I"⟩ : MethodName) (Jvm.Cond.code (⟨"java/lang/Math", "min", "(II)I"⟩ : MethodName) jdk_29_method_69_code 2 (some .int)) ws ({ frames := 0, cells := 0, slots := 0, locals := 0 } : Room) #[(.int (3 : Int32)), (.int (1 : Int32))] h0 (fun v h L => (v = some (.int (1 : Int32)) ∧ Fr n0 L ∧ h = h0)) := by
  refine own_met (own := "java/lang/Math") (Jvm.Free.JP.mathPlain rfl (by decide +kernel)) rfl ?_
  intro p e s m below meth c s₁ hx hby hml hown hnm hret hlk hZ e0 X0
  refine own_cast (g' := (mkF m 0 #[.val (.int (3 : Int32)), .val (.int (1 : Int32))] [])) (by first | (simp [entryFrame, mkF, argsToLocals, Value.category]; done) | rfl) ?_
  refine own_step (fun _ k => XS.iloadN X0.here hx rfl (hb hby d4_0) rfl k) ?_
  show own_Wp p e below _ s₁ (mkF m 1 #[.val (.int (3 : Int32)), .val (.int (1 : Int32))] [(.int (3 : Int32))])
  refine own_step (fun _ k => XS.iloadN X0.here hx rfl (hb hby d4_1) rfl k) ?_
  show own_Wp p e below _ s₁ (mkF m 2 #[.val (.int (3 : Int32)), .val (.int (1 : Int32))] [(.int (1 : Int32)), (.int (3 : Int32))])
  refine own_step (fun _ k => XS.icmpYes X0.here hx rfl (pc0 := 2) (pc' := 9) rfl (hb hby d4_2) rfl (by decide) (by decide) (by decide) k) ?_
  show own_Wp p e below _ s₁ (mkF m 9 #[.val (.int (3 : Int32)), .val (.int (1 : Int32))] [])
  refine own_step (fun _ k => XS.iloadN X0.here hx rfl (hb hby d4_9) rfl k) ?_
  show own_Wp p e below _ s₁ (mkF m 10 #[.val (.int (3 : Int32)), .val (.int (1 : Int32))] [(.int (1 : Int32))])
  exact own_retI X0 hx hret hlk (hb hby d4_10) (by decide) (by decide) (by rw [e0]; exact ⟨rfl, (Fr.nil n0), rfl⟩)

set_option maxRecDepth 65536 in
set_option maxHeartbeats 40000000 in
theorem rm5_67 (l : Launch) (Z : State) (a0 : Array Value) (hw : ∀ d ∈ tables_1, d.before a0 Z = true) (hA : ∀ d ∈ own_flat narrow_1, d.value a0 Z none Z [] = some true) (ws : List Jvm.Cond) (h0 : Heap) (n0 : Nat) (O0 : Old Z n0 h0) :
    own_Met l Z (⟨"java/lang/Math", "max", "(II)I"⟩ : MethodName) (Jvm.Cond.code (⟨"java/lang/Math", "max", "(II)I"⟩ : MethodName) jdk_29_method_65_code 2 (some .int)) ws ({ frames := 0, cells := 0, slots := 0, locals := 0 } : Room) #[(.int (3 : Int32)), (.int (1 : Int32))] h0 (fun v h L => (v = some (.int (3 : Int32)) ∧ Fr n0 L ∧ h = h0)) := by
  refine own_met (own := "java/lang/Math") (Jvm.Free.JP.mathPlain rfl (by decide +kernel)) rfl ?_
  intro p e s m below meth c s₁ hx hby hml hown hnm hret hlk hZ e0 X0
  refine own_cast (g' := (mkF m 0 #[.val (.int (3 : Int32)), .val (.int (1 : Int32))] [])) (by first | (simp [entryFrame, mkF, argsToLocals, Value.category]; done) | rfl) ?_
  refine own_step (fun _ k => XS.iloadN X0.here hx rfl (hb hby d5_0) rfl k) ?_
  show own_Wp p e below _ s₁ (mkF m 1 #[.val (.int (3 : Int32)), .val (.int (1 : Int32))] [(.int (3 : Int32))])
  refine own_step (fun _ k => XS.iloadN X0.here hx rfl (hb hby d5_1) rfl k) ?_
  show own_Wp p e below _ s₁ (mkF m 2 #[.val (.int (3 : Int32)), .val (.int (1 : Int32))] [(.int (1 : Int32)), (.int (3 : Int32))])
  refine own_step (fun _ k => XS.icmpNo X0.here hx rfl (hb hby d5_2) rfl (by decide) k) ?_
  show own_Wp p e below _ s₁ (mkF m 5 #[.val (.int (3 : Int32)), .val (.int (1 : Int32))] [])
  refine own_step (fun _ k => XS.iloadN X0.here hx rfl (hb hby d5_5) rfl k) ?_
  show own_Wp p e below _ s₁ (mkF m 6 #[.val (.int (3 : Int32)), .val (.int (1 : Int32))] [(.int (3 : Int32))])
  refine own_step (fun _ k => XS.goto X0.here hx rfl (pc0 := 6) (pc' := 10) rfl (hb hby d5_6) (by decide) (by decide) k) ?_
  show own_Wp p e below _ s₁ (mkF m 10 #[.val (.int (3 : Int32)), .val (.int (1 : Int32))] [(.int (3 : Int32))])
  exact own_retI X0 hx hret hlk (hb hby d5_10) (by decide) (by decide) (by rw [e0]; exact ⟨rfl, (Fr.nil n0), rfl⟩)

set_option maxRecDepth 65536 in
set_option maxHeartbeats 40000000 in
theorem rm3_68 (l : Launch) (Z : State) (a0 : Array Value) (hw : ∀ d ∈ tables_1, d.before a0 Z = true) (hA : ∀ d ∈ own_flat narrow_1, d.value a0 Z none Z [] = some true) (ws : List Jvm.Cond) (h0 : Heap) (n0 : Nat) (O0 : Old Z n0 h0) :
    own_Met l Z (⟨"com/example/pathfare/pathfare/alto/TypeIsCompatibleWithPinLaw", "expected", "(II)Z"⟩ : MethodName) (Jvm.Cond.code (⟨"com/example/pathfare/pathfare/alto/TypeIsCompatibleWithPinLaw", "expected", "(II)Z"⟩ : MethodName) method_3_code 4 (some .boolean)) ws ({ frames := 1, cells := 0, slots := 0, locals := 13 } : Room) #[(.int (3 : Int32)), (.int (1 : Int32))] h0 (fun v h L => (v = some (.int (1 : Int32)) ∧ Fr n0 L ∧ h = h0)) := by
  refine own_met (own := "com/example/pathfare/pathfare/alto/TypeIsCompatibleWithPinLaw") (plainFor_of_name pn0) rfl ?_
  intro p e s m below meth c s₁ hx hby hml hown hnm hret hlk hZ e0 X0
  refine own_cast (g' := (mkF m 0 #[.val (.int (3 : Int32)), .val (.int (1 : Int32)), .unset, .unset] [])) (by first | (simp [entryFrame, mkF, argsToLocals, Value.category]; done) | rfl) ?_
  refine own_step (fun _ k => XS.iloadN X0.here hx rfl (hb hby d3_0) rfl k) ?_
  show own_Wp p e below _ s₁ (mkF m 1 #[.val (.int (3 : Int32)), .val (.int (1 : Int32)), .unset, .unset] [(.int (3 : Int32))])
  refine own_step (fun _ k => XS.iloadN X0.here hx rfl (hb hby d3_1) rfl k) ?_
  show own_Wp p e below _ s₁ (mkF m 2 #[.val (.int (3 : Int32)), .val (.int (1 : Int32)), .unset, .unset] [(.int (1 : Int32)), (.int (3 : Int32))])
  refine own_step (fun _ k => XS.icmpYes X0.here hx rfl (pc0 := 2) (pc' := 7) rfl (hb hby d3_2) rfl (by decide) (by decide) (by decide) k) ?_
  show own_Wp p e below _ s₁ (mkF m 7 #[.val (.int (3 : Int32)), .val (.int (1 : Int32)), .unset, .unset] [])
  refine own_step (fun _ k => XS.iloadN X0.here hx rfl (hb hby d3_7) rfl k) ?_
  show own_Wp p e below _ s₁ (mkF m 8 #[.val (.int (3 : Int32)), .val (.int (1 : Int32)), .unset, .unset] [(.int (3 : Int32))])
  refine own_step (fun _ k => XS.iloadN X0.here hx rfl (hb hby d3_8) rfl k) ?_
  show own_Wp p e below _ s₁ (mkF m 9 #[.val (.int (3 : Int32)), .val (.int (1 : Int32)), .unset, .unset] [(.int (1 : Int32)), (.int (3 : Int32))])
  obtain ⟨_, T1, L1, X1, hQ1, st1⟩ := own_callS X0 hx hZ hown (hw _ (List.mem_of_getElem? (i := 20) rfl)) (hw _ (List.mem_of_getElem? (i := 21) rfl)) (hw _ (List.mem_of_getElem? (i := 22) rfl)) (hw _ (List.mem_of_getElem? (i := 23) rfl)) (by decide) (rm4_66 l Z a0 hw hA [] h0 n0 O0) (W := 0) (by decide) (by decide) [(.int (3 : Int32)), (.int (1 : Int32))] rfl (lenOf pd5 rfl) (Ls := #[.val (.int (3 : Int32)), .val (.int (1 : Int32)), .unset, .unset]) (by rw [hml]; rfl) (rest := []) (Nat.le_of_eq rfl) (hb hby d3_9) e0 (by decide) (by decide)
  refine st1 _ ?_
  obtain ⟨rfl, N1q, e1⟩ := hQ1
  have N1 := Fr.app (Fr.nil n0) N1q
  show own_Wp p e below _ T1 (mkF m 12 #[.val (.int (3 : Int32)), .val (.int (1 : Int32)), .unset, .unset] [(.int (1 : Int32))])
  refine own_step (fun _ k => XS.istoreN X1.here hx rfl (hb hby d3_12) rfl (l' := #[.val (.int (3 : Int32)), .val (.int (1 : Int32)), .val (.int (1 : Int32)), .unset]) rfl k) ?_
  show own_Wp p e below _ T1 (mkF m 13 #[.val (.int (3 : Int32)), .val (.int (1 : Int32)), .val (.int (1 : Int32)), .unset] [])
  refine own_step (fun _ k => XS.iloadN X1.here hx rfl (hb hby d3_13) rfl k) ?_
  show own_Wp p e below _ T1 (mkF m 14 #[.val (.int (3 : Int32)), .val (.int (1 : Int32)), .val (.int (1 : Int32)), .unset] [(.int (3 : Int32))])
  refine own_step (fun _ k => XS.iloadN X1.here hx rfl (hb hby d3_14) rfl k) ?_
  show own_Wp p e below _ T1 (mkF m 15 #[.val (.int (3 : Int32)), .val (.int (1 : Int32)), .val (.int (1 : Int32)), .unset] [(.int (1 : Int32)), (.int (3 : Int32))])
  obtain ⟨_, T2, L2, X2, hQ2, st2⟩ := own_callS X1 hx hZ hown (hw _ (List.mem_of_getElem? (i := 24) rfl)) (hw _ (List.mem_of_getElem? (i := 25) rfl)) (hw _ (List.mem_of_getElem? (i := 22) rfl)) (hw _ (List.mem_of_getElem? (i := 26) rfl)) (by decide) (rm5_67 l Z a0 hw hA [] h0 n0 O0) (W := 0) (by decide) (by decide) [(.int (3 : Int32)), (.int (1 : Int32))] rfl (lenOf pd5 rfl) (Ls := #[.val (.int (3 : Int32)), .val (.int (1 : Int32)), .val (.int (1 : Int32)), .unset]) (by rw [hml]; rfl) (rest := []) (Nat.le_of_eq rfl) (hb hby d3_15) e1 (by decide) (by decide)
  refine st2 _ ?_
  obtain ⟨rfl, N2q, e2⟩ := hQ2
  have N2 := Fr.app N1 N2q
  show own_Wp p e below _ T2 (mkF m 18 #[.val (.int (3 : Int32)), .val (.int (1 : Int32)), .val (.int (1 : Int32)), .unset] [(.int (3 : Int32))])
  refine own_step (fun _ k => XS.istoreN X2.here hx rfl (hb hby d3_18) rfl (l' := #[.val (.int (3 : Int32)), .val (.int (1 : Int32)), .val (.int (1 : Int32)), .val (.int (3 : Int32))]) rfl k) ?_
  show own_Wp p e below _ T2 (mkF m 19 #[.val (.int (3 : Int32)), .val (.int (1 : Int32)), .val (.int (1 : Int32)), .val (.int (3 : Int32))] [])
  refine own_step (fun _ k => XS.iloadN X2.here hx rfl (hb hby d3_19) rfl k) ?_
  show own_Wp p e below _ T2 (mkF m 20 #[.val (.int (3 : Int32)), .val (.int (1 : Int32)), .val (.int (1 : Int32)), .val (.int (3 : Int32))] [(.int (1 : Int32))])
  refine own_step (fun _ k => XS.ifYes X2.here hx rfl (pc0 := 20) (pc' := 39) rfl (hb hby d3_20) rfl (by decide) (by decide) (by decide) k) ?_
  show own_Wp p e below _ T2 (mkF m 39 #[.val (.int (3 : Int32)), .val (.int (1 : Int32)), .val (.int (1 : Int32)), .val (.int (3 : Int32))] [])
  refine own_step (fun _ k => XS.iloadN X2.here hx rfl (hb hby d3_39) rfl k) ?_
  show own_Wp p e below _ T2 (mkF m 40 #[.val (.int (3 : Int32)), .val (.int (1 : Int32)), .val (.int (1 : Int32)), .val (.int (3 : Int32))] [(.int (1 : Int32))])
  refine own_step (fun _ k => XS.iconst X2.here hx rfl (hb hby d3_40) k) ?_
  show own_Wp p e below _ T2 (mkF m 41 #[.val (.int (3 : Int32)), .val (.int (1 : Int32)), .val (.int (1 : Int32)), .val (.int (3 : Int32))] [(.int (1 : Int32)), (.int (1 : Int32))])
  refine own_step (fun _ k => XS.icmpNo X2.here hx rfl (hb hby d3_41) rfl (by decide) k) ?_
  show own_Wp p e below _ T2 (mkF m 44 #[.val (.int (3 : Int32)), .val (.int (1 : Int32)), .val (.int (1 : Int32)), .val (.int (3 : Int32))] [])
  refine own_step (fun _ k => XS.iloadN X2.here hx rfl (hb hby d3_44) rfl k) ?_
  show own_Wp p e below _ T2 (mkF m 45 #[.val (.int (3 : Int32)), .val (.int (1 : Int32)), .val (.int (1 : Int32)), .val (.int (3 : Int32))] [(.int (3 : Int32))])
  refine own_step (fun _ k => XS.iconst X2.here hx rfl (hb hby d3_45) k) ?_
  show own_Wp p e below _ T2 (mkF m 46 #[.val (.int (3 : Int32)), .val (.int (1 : Int32)), .val (.int (1 : Int32)), .val (.int (3 : Int32))] [(.int (3 : Int32)), (.int (3 : Int32))])
  refine own_step (fun _ k => XS.icmpYes X2.here hx rfl (pc0 := 46) (pc' := 54) rfl (hb hby d3_46) rfl (by decide) (by decide) (by decide) k) ?_
  show own_Wp p e below _ T2 (mkF m 54 #[.val (.int (3 : Int32)), .val (.int (1 : Int32)), .val (.int (1 : Int32)), .val (.int (3 : Int32))] [])
  refine own_step (fun _ k => XS.iconst X2.here hx rfl (hb hby d3_54) k) ?_
  show own_Wp p e below _ T2 (mkF m 55 #[.val (.int (3 : Int32)), .val (.int (1 : Int32)), .val (.int (1 : Int32)), .val (.int (3 : Int32))] [(.int (1 : Int32))])
  refine own_step (fun _ k => XS.goto X2.here hx rfl (pc0 := 55) (pc' := 59) rfl (hb hby d3_55) (by decide) (by decide) k) ?_
  show own_Wp p e below _ T2 (mkF m 59 #[.val (.int (3 : Int32)), .val (.int (1 : Int32)), .val (.int (1 : Int32)), .val (.int (3 : Int32))] [(.int (1 : Int32))])
  exact own_retN X2 hx (t := .boolean) hret (by simp) hlk (hb hby d3_59) (by decide) (by decide) (by rw [e2]; exact ⟨rfl, N2, rfl⟩)

set_option maxRecDepth 65536 in
set_option maxHeartbeats 40000000 in
theorem rm4_69 (l : Launch) (Z : State) (a0 : Array Value) (hw : ∀ d ∈ tables_1, d.before a0 Z = true) (hA : ∀ d ∈ own_flat narrow_1, d.value a0 Z none Z [] = some true) (ws : List Jvm.Cond) (h0 : Heap) (n0 : Nat) (O0 : Old Z n0 h0) :
    own_Met l Z (⟨"java/lang/Math", "min", "(II)I"⟩ : MethodName) (Jvm.Cond.code (⟨"java/lang/Math", "min", "(II)I"⟩ : MethodName) jdk_29_method_69_code 2 (some .int)) ws ({ frames := 0, cells := 0, slots := 0, locals := 0 } : Room) #[(.int (3 : Int32)), (.int (2 : Int32))] h0 (fun v h L => (v = some (.int (2 : Int32)) ∧ Fr n0 L ∧ h = h0)) := by
  refine own_met (own := "java/lang/Math") (Jvm.Free.JP.mathPlain rfl (by decide +kernel)) rfl ?_
  intro p e s m below meth c s₁ hx hby hml hown hnm hret hlk hZ e0 X0
  refine own_cast (g' := (mkF m 0 #[.val (.int (3 : Int32)), .val (.int (2 : Int32))] [])) (by first | (simp [entryFrame, mkF, argsToLocals, Value.category]; done) | rfl) ?_
  refine own_step (fun _ k => XS.iloadN X0.here hx rfl (hb hby d4_0) rfl k) ?_
  show own_Wp p e below _ s₁ (mkF m 1 #[.val (.int (3 : Int32)), .val (.int (2 : Int32))] [(.int (3 : Int32))])
  refine own_step (fun _ k => XS.iloadN X0.here hx rfl (hb hby d4_1) rfl k) ?_
  show own_Wp p e below _ s₁ (mkF m 2 #[.val (.int (3 : Int32)), .val (.int (2 : Int32))] [(.int (2 : Int32)), (.int (3 : Int32))])
  refine own_step (fun _ k => XS.icmpYes X0.here hx rfl (pc0 := 2) (pc' := 9) rfl (hb hby d4_2) rfl (by decide) (by decide) (by decide) k) ?_
  show own_Wp p e below _ s₁ (mkF m 9 #[.val (.int (3 : Int32)), .val (.int (2 : Int32))] [])
  refine own_step (fun _ k => XS.iloadN X0.here hx rfl (hb hby d4_9) rfl k) ?_
  show own_Wp p e below _ s₁ (mkF m 10 #[.val (.int (3 : Int32)), .val (.int (2 : Int32))] [(.int (2 : Int32))])
  exact own_retI X0 hx hret hlk (hb hby d4_10) (by decide) (by decide) (by rw [e0]; exact ⟨rfl, (Fr.nil n0), rfl⟩)

set_option maxRecDepth 65536 in
set_option maxHeartbeats 40000000 in
theorem rm5_70 (l : Launch) (Z : State) (a0 : Array Value) (hw : ∀ d ∈ tables_1, d.before a0 Z = true) (hA : ∀ d ∈ own_flat narrow_1, d.value a0 Z none Z [] = some true) (ws : List Jvm.Cond) (h0 : Heap) (n0 : Nat) (O0 : Old Z n0 h0) :
    own_Met l Z (⟨"java/lang/Math", "max", "(II)I"⟩ : MethodName) (Jvm.Cond.code (⟨"java/lang/Math", "max", "(II)I"⟩ : MethodName) jdk_29_method_65_code 2 (some .int)) ws ({ frames := 0, cells := 0, slots := 0, locals := 0 } : Room) #[(.int (3 : Int32)), (.int (2 : Int32))] h0 (fun v h L => (v = some (.int (3 : Int32)) ∧ Fr n0 L ∧ h = h0)) := by
  refine own_met (own := "java/lang/Math") (Jvm.Free.JP.mathPlain rfl (by decide +kernel)) rfl ?_
  intro p e s m below meth c s₁ hx hby hml hown hnm hret hlk hZ e0 X0
  refine own_cast (g' := (mkF m 0 #[.val (.int (3 : Int32)), .val (.int (2 : Int32))] [])) (by first | (simp [entryFrame, mkF, argsToLocals, Value.category]; done) | rfl) ?_
  refine own_step (fun _ k => XS.iloadN X0.here hx rfl (hb hby d5_0) rfl k) ?_
  show own_Wp p e below _ s₁ (mkF m 1 #[.val (.int (3 : Int32)), .val (.int (2 : Int32))] [(.int (3 : Int32))])
  refine own_step (fun _ k => XS.iloadN X0.here hx rfl (hb hby d5_1) rfl k) ?_
  show own_Wp p e below _ s₁ (mkF m 2 #[.val (.int (3 : Int32)), .val (.int (2 : Int32))] [(.int (2 : Int32)), (.int (3 : Int32))])
  refine own_step (fun _ k => XS.icmpNo X0.here hx rfl (hb hby d5_2) rfl (by decide) k) ?_
  show own_Wp p e below _ s₁ (mkF m 5 #[.val (.int (3 : Int32)), .val (.int (2 : Int32))] [])
  refine own_step (fun _ k => XS.iloadN X0.here hx rfl (hb hby d5_5) rfl k) ?_
  show own_Wp p e below _ s₁ (mkF m 6 #[.val (.int (3 : Int32)), .val (.int (2 : Int32))] [(.int (3 : Int32))])
  refine own_step (fun _ k => XS.goto X0.here hx rfl (pc0 := 6) (pc' := 10) rfl (hb hby d5_6) (by decide) (by decide) k) ?_
  show own_Wp p e below _ s₁ (mkF m 10 #[.val (.int (3 : Int32)), .val (.int (2 : Int32))] [(.int (3 : Int32))])
  exact own_retI X0 hx hret hlk (hb hby d5_10) (by decide) (by decide) (by rw [e0]; exact ⟨rfl, (Fr.nil n0), rfl⟩)

set_option maxRecDepth 65536 in
set_option maxHeartbeats 40000000 in
theorem rm3_71 (l : Launch) (Z : State) (a0 : Array Value) (hw : ∀ d ∈ tables_1, d.before a0 Z = true) (hA : ∀ d ∈ own_flat narrow_1, d.value a0 Z none Z [] = some true) (ws : List Jvm.Cond) (h0 : Heap) (n0 : Nat) (O0 : Old Z n0 h0) :
    own_Met l Z (⟨"com/example/pathfare/pathfare/alto/TypeIsCompatibleWithPinLaw", "expected", "(II)Z"⟩ : MethodName) (Jvm.Cond.code (⟨"com/example/pathfare/pathfare/alto/TypeIsCompatibleWithPinLaw", "expected", "(II)Z"⟩ : MethodName) method_3_code 4 (some .boolean)) ws ({ frames := 1, cells := 0, slots := 0, locals := 13 } : Room) #[(.int (3 : Int32)), (.int (2 : Int32))] h0 (fun v h L => (v = some (.int (0 : Int32)) ∧ Fr n0 L ∧ h = h0)) := by
  refine own_met (own := "com/example/pathfare/pathfare/alto/TypeIsCompatibleWithPinLaw") (plainFor_of_name pn0) rfl ?_
  intro p e s m below meth c s₁ hx hby hml hown hnm hret hlk hZ e0 X0
  refine own_cast (g' := (mkF m 0 #[.val (.int (3 : Int32)), .val (.int (2 : Int32)), .unset, .unset] [])) (by first | (simp [entryFrame, mkF, argsToLocals, Value.category]; done) | rfl) ?_
  refine own_step (fun _ k => XS.iloadN X0.here hx rfl (hb hby d3_0) rfl k) ?_
  show own_Wp p e below _ s₁ (mkF m 1 #[.val (.int (3 : Int32)), .val (.int (2 : Int32)), .unset, .unset] [(.int (3 : Int32))])
  refine own_step (fun _ k => XS.iloadN X0.here hx rfl (hb hby d3_1) rfl k) ?_
  show own_Wp p e below _ s₁ (mkF m 2 #[.val (.int (3 : Int32)), .val (.int (2 : Int32)), .unset, .unset] [(.int (2 : Int32)), (.int (3 : Int32))])
  refine own_step (fun _ k => XS.icmpYes X0.here hx rfl (pc0 := 2) (pc' := 7) rfl (hb hby d3_2) rfl (by decide) (by decide) (by decide) k) ?_
  show own_Wp p e below _ s₁ (mkF m 7 #[.val (.int (3 : Int32)), .val (.int (2 : Int32)), .unset, .unset] [])
  refine own_step (fun _ k => XS.iloadN X0.here hx rfl (hb hby d3_7) rfl k) ?_
  show own_Wp p e below _ s₁ (mkF m 8 #[.val (.int (3 : Int32)), .val (.int (2 : Int32)), .unset, .unset] [(.int (3 : Int32))])
  refine own_step (fun _ k => XS.iloadN X0.here hx rfl (hb hby d3_8) rfl k) ?_
  show own_Wp p e below _ s₁ (mkF m 9 #[.val (.int (3 : Int32)), .val (.int (2 : Int32)), .unset, .unset] [(.int (2 : Int32)), (.int (3 : Int32))])
  obtain ⟨_, T1, L1, X1, hQ1, st1⟩ := own_callS X0 hx hZ hown (hw _ (List.mem_of_getElem? (i := 20) rfl)) (hw _ (List.mem_of_getElem? (i := 21) rfl)) (hw _ (List.mem_of_getElem? (i := 22) rfl)) (hw _ (List.mem_of_getElem? (i := 23) rfl)) (by decide) (rm4_69 l Z a0 hw hA [] h0 n0 O0) (W := 0) (by decide) (by decide) [(.int (3 : Int32)), (.int (2 : Int32))] rfl (lenOf pd5 rfl) (Ls := #[.val (.int (3 : Int32)), .val (.int (2 : Int32)), .unset, .unset]) (by rw [hml]; rfl) (rest := []) (Nat.le_of_eq rfl) (hb hby d3_9) e0 (by decide) (by decide)
  refine st1 _ ?_
  obtain ⟨rfl, N1q, e1⟩ := hQ1
  have N1 := Fr.app (Fr.nil n0) N1q
  show own_Wp p e below _ T1 (mkF m 12 #[.val (.int (3 : Int32)), .val (.int (2 : Int32)), .unset, .unset] [(.int (2 : Int32))])
  refine own_step (fun _ k => XS.istoreN X1.here hx rfl (hb hby d3_12) rfl (l' := #[.val (.int (3 : Int32)), .val (.int (2 : Int32)), .val (.int (2 : Int32)), .unset]) rfl k) ?_
  show own_Wp p e below _ T1 (mkF m 13 #[.val (.int (3 : Int32)), .val (.int (2 : Int32)), .val (.int (2 : Int32)), .unset] [])
  refine own_step (fun _ k => XS.iloadN X1.here hx rfl (hb hby d3_13) rfl k) ?_
  show own_Wp p e below _ T1 (mkF m 14 #[.val (.int (3 : Int32)), .val (.int (2 : Int32)), .val (.int (2 : Int32)), .unset] [(.int (3 : Int32))])
  refine own_step (fun _ k => XS.iloadN X1.here hx rfl (hb hby d3_14) rfl k) ?_
  show own_Wp p e below _ T1 (mkF m 15 #[.val (.int (3 : Int32)), .val (.int (2 : Int32)), .val (.int (2 : Int32)), .unset] [(.int (2 : Int32)), (.int (3 : Int32))])
  obtain ⟨_, T2, L2, X2, hQ2, st2⟩ := own_callS X1 hx hZ hown (hw _ (List.mem_of_getElem? (i := 24) rfl)) (hw _ (List.mem_of_getElem? (i := 25) rfl)) (hw _ (List.mem_of_getElem? (i := 22) rfl)) (hw _ (List.mem_of_getElem? (i := 26) rfl)) (by decide) (rm5_70 l Z a0 hw hA [] h0 n0 O0) (W := 0) (by decide) (by decide) [(.int (3 : Int32)), (.int (2 : Int32))] rfl (lenOf pd5 rfl) (Ls := #[.val (.int (3 : Int32)), .val (.int (2 : Int32)), .val (.int (2 : Int32)), .unset]) (by rw [hml]; rfl) (rest := []) (Nat.le_of_eq rfl) (hb hby d3_15) e1 (by decide) (by decide)
  refine st2 _ ?_
  obtain ⟨rfl, N2q, e2⟩ := hQ2
  have N2 := Fr.app N1 N2q
  show own_Wp p e below _ T2 (mkF m 18 #[.val (.int (3 : Int32)), .val (.int (2 : Int32)), .val (.int (2 : Int32)), .unset] [(.int (3 : Int32))])
  refine own_step (fun _ k => XS.istoreN X2.here hx rfl (hb hby d3_18) rfl (l' := #[.val (.int (3 : Int32)), .val (.int (2 : Int32)), .val (.int (2 : Int32)), .val (.int (3 : Int32))]) rfl k) ?_
  show own_Wp p e below _ T2 (mkF m 19 #[.val (.int (3 : Int32)), .val (.int (2 : Int32)), .val (.int (2 : Int32)), .val (.int (3 : Int32))] [])
  refine own_step (fun _ k => XS.iloadN X2.here hx rfl (hb hby d3_19) rfl k) ?_
  show own_Wp p e below _ T2 (mkF m 20 #[.val (.int (3 : Int32)), .val (.int (2 : Int32)), .val (.int (2 : Int32)), .val (.int (3 : Int32))] [(.int (2 : Int32))])
  refine own_step (fun _ k => XS.ifYes X2.here hx rfl (pc0 := 20) (pc' := 39) rfl (hb hby d3_20) rfl (by decide) (by decide) (by decide) k) ?_
  show own_Wp p e below _ T2 (mkF m 39 #[.val (.int (3 : Int32)), .val (.int (2 : Int32)), .val (.int (2 : Int32)), .val (.int (3 : Int32))] [])
  refine own_step (fun _ k => XS.iloadN X2.here hx rfl (hb hby d3_39) rfl k) ?_
  show own_Wp p e below _ T2 (mkF m 40 #[.val (.int (3 : Int32)), .val (.int (2 : Int32)), .val (.int (2 : Int32)), .val (.int (3 : Int32))] [(.int (2 : Int32))])
  refine own_step (fun _ k => XS.iconst X2.here hx rfl (hb hby d3_40) k) ?_
  show own_Wp p e below _ T2 (mkF m 41 #[.val (.int (3 : Int32)), .val (.int (2 : Int32)), .val (.int (2 : Int32)), .val (.int (3 : Int32))] [(.int (1 : Int32)), (.int (2 : Int32))])
  refine own_step (fun _ k => XS.icmpYes X2.here hx rfl (pc0 := 41) (pc' := 60) rfl (hb hby d3_41) rfl (by decide) (by decide) (by decide) k) ?_
  show own_Wp p e below _ T2 (mkF m 60 #[.val (.int (3 : Int32)), .val (.int (2 : Int32)), .val (.int (2 : Int32)), .val (.int (3 : Int32))] [])
  refine own_step (fun _ k => XS.iconst X2.here hx rfl (hb hby d3_60) k) ?_
  show own_Wp p e below _ T2 (mkF m 61 #[.val (.int (3 : Int32)), .val (.int (2 : Int32)), .val (.int (2 : Int32)), .val (.int (3 : Int32))] [(.int (0 : Int32))])
  exact own_retN X2 hx (t := .boolean) hret (by simp) hlk (hb hby d3_61) (by decide) (by decide) (by rw [e2]; exact ⟨rfl, N2, rfl⟩)

set_option maxRecDepth 65536 in
set_option maxHeartbeats 40000000 in
theorem rm3_72 (l : Launch) (Z : State) (a0 : Array Value) (hw : ∀ d ∈ tables_1, d.before a0 Z = true) (hA : ∀ d ∈ own_flat narrow_1, d.value a0 Z none Z [] = some true) (ws : List Jvm.Cond) (h0 : Heap) (n0 : Nat) (O0 : Old Z n0 h0) :
    own_Met l Z (⟨"com/example/pathfare/pathfare/alto/TypeIsCompatibleWithPinLaw", "expected", "(II)Z"⟩ : MethodName) (Jvm.Cond.code (⟨"com/example/pathfare/pathfare/alto/TypeIsCompatibleWithPinLaw", "expected", "(II)Z"⟩ : MethodName) method_3_code 4 (some .boolean)) ws ({ frames := 0, cells := 0, slots := 0, locals := 0 } : Room) #[(.int (3 : Int32)), (.int (3 : Int32))] h0 (fun v h L => (v = some (.int (1 : Int32)) ∧ Fr n0 L ∧ h = h0)) := by
  refine own_met (own := "com/example/pathfare/pathfare/alto/TypeIsCompatibleWithPinLaw") (plainFor_of_name pn0) rfl ?_
  intro p e s m below meth c s₁ hx hby hml hown hnm hret hlk hZ e0 X0
  refine own_cast (g' := (mkF m 0 #[.val (.int (3 : Int32)), .val (.int (3 : Int32)), .unset, .unset] [])) (by first | (simp [entryFrame, mkF, argsToLocals, Value.category]; done) | rfl) ?_
  refine own_step (fun _ k => XS.iloadN X0.here hx rfl (hb hby d3_0) rfl k) ?_
  show own_Wp p e below _ s₁ (mkF m 1 #[.val (.int (3 : Int32)), .val (.int (3 : Int32)), .unset, .unset] [(.int (3 : Int32))])
  refine own_step (fun _ k => XS.iloadN X0.here hx rfl (hb hby d3_1) rfl k) ?_
  show own_Wp p e below _ s₁ (mkF m 2 #[.val (.int (3 : Int32)), .val (.int (3 : Int32)), .unset, .unset] [(.int (3 : Int32)), (.int (3 : Int32))])
  refine own_step (fun _ k => XS.icmpNo X0.here hx rfl (hb hby d3_2) rfl (by decide) k) ?_
  show own_Wp p e below _ s₁ (mkF m 5 #[.val (.int (3 : Int32)), .val (.int (3 : Int32)), .unset, .unset] [])
  refine own_step (fun _ k => XS.iconst X0.here hx rfl (hb hby d3_5) k) ?_
  show own_Wp p e below _ s₁ (mkF m 6 #[.val (.int (3 : Int32)), .val (.int (3 : Int32)), .unset, .unset] [(.int (1 : Int32))])
  exact own_retN X0 hx (t := .boolean) hret (by simp) hlk (hb hby d3_6) (by decide) (by decide) (by rw [e0]; exact ⟨rfl, (Fr.nil n0), rfl⟩)

set_option maxRecDepth 65536 in
set_option maxHeartbeats 40000000 in
theorem rm4_73 (l : Launch) (Z : State) (a0 : Array Value) (hw : ∀ d ∈ tables_1, d.before a0 Z = true) (hA : ∀ d ∈ own_flat narrow_1, d.value a0 Z none Z [] = some true) (ws : List Jvm.Cond) (h0 : Heap) (n0 : Nat) (O0 : Old Z n0 h0) :
    own_Met l Z (⟨"java/lang/Math", "min", "(II)I"⟩ : MethodName) (Jvm.Cond.code (⟨"java/lang/Math", "min", "(II)I"⟩ : MethodName) jdk_29_method_69_code 2 (some .int)) ws ({ frames := 0, cells := 0, slots := 0, locals := 0 } : Room) #[(.int (3 : Int32)), (.int (4 : Int32))] h0 (fun v h L => (v = some (.int (3 : Int32)) ∧ Fr n0 L ∧ h = h0)) := by
  refine own_met (own := "java/lang/Math") (Jvm.Free.JP.mathPlain rfl (by decide +kernel)) rfl ?_
  intro p e s m below meth c s₁ hx hby hml hown hnm hret hlk hZ e0 X0
  refine own_cast (g' := (mkF m 0 #[.val (.int (3 : Int32)), .val (.int (4 : Int32))] [])) (by first | (simp [entryFrame, mkF, argsToLocals, Value.category]; done) | rfl) ?_
  refine own_step (fun _ k => XS.iloadN X0.here hx rfl (hb hby d4_0) rfl k) ?_
  show own_Wp p e below _ s₁ (mkF m 1 #[.val (.int (3 : Int32)), .val (.int (4 : Int32))] [(.int (3 : Int32))])
  refine own_step (fun _ k => XS.iloadN X0.here hx rfl (hb hby d4_1) rfl k) ?_
  show own_Wp p e below _ s₁ (mkF m 2 #[.val (.int (3 : Int32)), .val (.int (4 : Int32))] [(.int (4 : Int32)), (.int (3 : Int32))])
  refine own_step (fun _ k => XS.icmpNo X0.here hx rfl (hb hby d4_2) rfl (by decide) k) ?_
  show own_Wp p e below _ s₁ (mkF m 5 #[.val (.int (3 : Int32)), .val (.int (4 : Int32))] [])
  refine own_step (fun _ k => XS.iloadN X0.here hx rfl (hb hby d4_5) rfl k) ?_
  show own_Wp p e below _ s₁ (mkF m 6 #[.val (.int (3 : Int32)), .val (.int (4 : Int32))] [(.int (3 : Int32))])
  refine own_step (fun _ k => XS.goto X0.here hx rfl (pc0 := 6) (pc' := 10) rfl (hb hby d4_6) (by decide) (by decide) k) ?_
  show own_Wp p e below _ s₁ (mkF m 10 #[.val (.int (3 : Int32)), .val (.int (4 : Int32))] [(.int (3 : Int32))])
  exact own_retI X0 hx hret hlk (hb hby d4_10) (by decide) (by decide) (by rw [e0]; exact ⟨rfl, (Fr.nil n0), rfl⟩)

set_option maxRecDepth 65536 in
set_option maxHeartbeats 40000000 in
theorem rm5_74 (l : Launch) (Z : State) (a0 : Array Value) (hw : ∀ d ∈ tables_1, d.before a0 Z = true) (hA : ∀ d ∈ own_flat narrow_1, d.value a0 Z none Z [] = some true) (ws : List Jvm.Cond) (h0 : Heap) (n0 : Nat) (O0 : Old Z n0 h0) :
    own_Met l Z (⟨"java/lang/Math", "max", "(II)I"⟩ : MethodName) (Jvm.Cond.code (⟨"java/lang/Math", "max", "(II)I"⟩ : MethodName) jdk_29_method_65_code 2 (some .int)) ws ({ frames := 0, cells := 0, slots := 0, locals := 0 } : Room) #[(.int (3 : Int32)), (.int (4 : Int32))] h0 (fun v h L => (v = some (.int (4 : Int32)) ∧ Fr n0 L ∧ h = h0)) := by
  refine own_met (own := "java/lang/Math") (Jvm.Free.JP.mathPlain rfl (by decide +kernel)) rfl ?_
  intro p e s m below meth c s₁ hx hby hml hown hnm hret hlk hZ e0 X0
  refine own_cast (g' := (mkF m 0 #[.val (.int (3 : Int32)), .val (.int (4 : Int32))] [])) (by first | (simp [entryFrame, mkF, argsToLocals, Value.category]; done) | rfl) ?_
  refine own_step (fun _ k => XS.iloadN X0.here hx rfl (hb hby d5_0) rfl k) ?_
  show own_Wp p e below _ s₁ (mkF m 1 #[.val (.int (3 : Int32)), .val (.int (4 : Int32))] [(.int (3 : Int32))])
  refine own_step (fun _ k => XS.iloadN X0.here hx rfl (hb hby d5_1) rfl k) ?_
  show own_Wp p e below _ s₁ (mkF m 2 #[.val (.int (3 : Int32)), .val (.int (4 : Int32))] [(.int (4 : Int32)), (.int (3 : Int32))])
  refine own_step (fun _ k => XS.icmpYes X0.here hx rfl (pc0 := 2) (pc' := 9) rfl (hb hby d5_2) rfl (by decide) (by decide) (by decide) k) ?_
  show own_Wp p e below _ s₁ (mkF m 9 #[.val (.int (3 : Int32)), .val (.int (4 : Int32))] [])
  refine own_step (fun _ k => XS.iloadN X0.here hx rfl (hb hby d5_9) rfl k) ?_
  show own_Wp p e below _ s₁ (mkF m 10 #[.val (.int (3 : Int32)), .val (.int (4 : Int32))] [(.int (4 : Int32))])
  exact own_retI X0 hx hret hlk (hb hby d5_10) (by decide) (by decide) (by rw [e0]; exact ⟨rfl, (Fr.nil n0), rfl⟩)

set_option maxRecDepth 65536 in
set_option maxHeartbeats 40000000 in
theorem rm3_75 (l : Launch) (Z : State) (a0 : Array Value) (hw : ∀ d ∈ tables_1, d.before a0 Z = true) (hA : ∀ d ∈ own_flat narrow_1, d.value a0 Z none Z [] = some true) (ws : List Jvm.Cond) (h0 : Heap) (n0 : Nat) (O0 : Old Z n0 h0) :
    own_Met l Z (⟨"com/example/pathfare/pathfare/alto/TypeIsCompatibleWithPinLaw", "expected", "(II)Z"⟩ : MethodName) (Jvm.Cond.code (⟨"com/example/pathfare/pathfare/alto/TypeIsCompatibleWithPinLaw", "expected", "(II)Z"⟩ : MethodName) method_3_code 4 (some .boolean)) ws ({ frames := 1, cells := 0, slots := 0, locals := 13 } : Room) #[(.int (3 : Int32)), (.int (4 : Int32))] h0 (fun v h L => (v = some (.int (0 : Int32)) ∧ Fr n0 L ∧ h = h0)) := by
  refine own_met (own := "com/example/pathfare/pathfare/alto/TypeIsCompatibleWithPinLaw") (plainFor_of_name pn0) rfl ?_
  intro p e s m below meth c s₁ hx hby hml hown hnm hret hlk hZ e0 X0
  refine own_cast (g' := (mkF m 0 #[.val (.int (3 : Int32)), .val (.int (4 : Int32)), .unset, .unset] [])) (by first | (simp [entryFrame, mkF, argsToLocals, Value.category]; done) | rfl) ?_
  refine own_step (fun _ k => XS.iloadN X0.here hx rfl (hb hby d3_0) rfl k) ?_
  show own_Wp p e below _ s₁ (mkF m 1 #[.val (.int (3 : Int32)), .val (.int (4 : Int32)), .unset, .unset] [(.int (3 : Int32))])
  refine own_step (fun _ k => XS.iloadN X0.here hx rfl (hb hby d3_1) rfl k) ?_
  show own_Wp p e below _ s₁ (mkF m 2 #[.val (.int (3 : Int32)), .val (.int (4 : Int32)), .unset, .unset] [(.int (4 : Int32)), (.int (3 : Int32))])
  refine own_step (fun _ k => XS.icmpYes X0.here hx rfl (pc0 := 2) (pc' := 7) rfl (hb hby d3_2) rfl (by decide) (by decide) (by decide) k) ?_
  show own_Wp p e below _ s₁ (mkF m 7 #[.val (.int (3 : Int32)), .val (.int (4 : Int32)), .unset, .unset] [])
  refine own_step (fun _ k => XS.iloadN X0.here hx rfl (hb hby d3_7) rfl k) ?_
  show own_Wp p e below _ s₁ (mkF m 8 #[.val (.int (3 : Int32)), .val (.int (4 : Int32)), .unset, .unset] [(.int (3 : Int32))])
  refine own_step (fun _ k => XS.iloadN X0.here hx rfl (hb hby d3_8) rfl k) ?_
  show own_Wp p e below _ s₁ (mkF m 9 #[.val (.int (3 : Int32)), .val (.int (4 : Int32)), .unset, .unset] [(.int (4 : Int32)), (.int (3 : Int32))])
  obtain ⟨_, T1, L1, X1, hQ1, st1⟩ := own_callS X0 hx hZ hown (hw _ (List.mem_of_getElem? (i := 20) rfl)) (hw _ (List.mem_of_getElem? (i := 21) rfl)) (hw _ (List.mem_of_getElem? (i := 22) rfl)) (hw _ (List.mem_of_getElem? (i := 23) rfl)) (by decide) (rm4_73 l Z a0 hw hA [] h0 n0 O0) (W := 0) (by decide) (by decide) [(.int (3 : Int32)), (.int (4 : Int32))] rfl (lenOf pd5 rfl) (Ls := #[.val (.int (3 : Int32)), .val (.int (4 : Int32)), .unset, .unset]) (by rw [hml]; rfl) (rest := []) (Nat.le_of_eq rfl) (hb hby d3_9) e0 (by decide) (by decide)
  refine st1 _ ?_
  obtain ⟨rfl, N1q, e1⟩ := hQ1
  have N1 := Fr.app (Fr.nil n0) N1q
  show own_Wp p e below _ T1 (mkF m 12 #[.val (.int (3 : Int32)), .val (.int (4 : Int32)), .unset, .unset] [(.int (3 : Int32))])
  refine own_step (fun _ k => XS.istoreN X1.here hx rfl (hb hby d3_12) rfl (l' := #[.val (.int (3 : Int32)), .val (.int (4 : Int32)), .val (.int (3 : Int32)), .unset]) rfl k) ?_
  show own_Wp p e below _ T1 (mkF m 13 #[.val (.int (3 : Int32)), .val (.int (4 : Int32)), .val (.int (3 : Int32)), .unset] [])
  refine own_step (fun _ k => XS.iloadN X1.here hx rfl (hb hby d3_13) rfl k) ?_
  show own_Wp p e below _ T1 (mkF m 14 #[.val (.int (3 : Int32)), .val (.int (4 : Int32)), .val (.int (3 : Int32)), .unset] [(.int (3 : Int32))])
  refine own_step (fun _ k => XS.iloadN X1.here hx rfl (hb hby d3_14) rfl k) ?_
  show own_Wp p e below _ T1 (mkF m 15 #[.val (.int (3 : Int32)), .val (.int (4 : Int32)), .val (.int (3 : Int32)), .unset] [(.int (4 : Int32)), (.int (3 : Int32))])
  obtain ⟨_, T2, L2, X2, hQ2, st2⟩ := own_callS X1 hx hZ hown (hw _ (List.mem_of_getElem? (i := 24) rfl)) (hw _ (List.mem_of_getElem? (i := 25) rfl)) (hw _ (List.mem_of_getElem? (i := 22) rfl)) (hw _ (List.mem_of_getElem? (i := 26) rfl)) (by decide) (rm5_74 l Z a0 hw hA [] h0 n0 O0) (W := 0) (by decide) (by decide) [(.int (3 : Int32)), (.int (4 : Int32))] rfl (lenOf pd5 rfl) (Ls := #[.val (.int (3 : Int32)), .val (.int (4 : Int32)), .val (.int (3 : Int32)), .unset]) (by rw [hml]; rfl) (rest := []) (Nat.le_of_eq rfl) (hb hby d3_15) e1 (by decide) (by decide)
  refine st2 _ ?_
  obtain ⟨rfl, N2q, e2⟩ := hQ2
  have N2 := Fr.app N1 N2q
  show own_Wp p e below _ T2 (mkF m 18 #[.val (.int (3 : Int32)), .val (.int (4 : Int32)), .val (.int (3 : Int32)), .unset] [(.int (4 : Int32))])
  refine own_step (fun _ k => XS.istoreN X2.here hx rfl (hb hby d3_18) rfl (l' := #[.val (.int (3 : Int32)), .val (.int (4 : Int32)), .val (.int (3 : Int32)), .val (.int (4 : Int32))]) rfl k) ?_
  show own_Wp p e below _ T2 (mkF m 19 #[.val (.int (3 : Int32)), .val (.int (4 : Int32)), .val (.int (3 : Int32)), .val (.int (4 : Int32))] [])
  refine own_step (fun _ k => XS.iloadN X2.here hx rfl (hb hby d3_19) rfl k) ?_
  show own_Wp p e below _ T2 (mkF m 20 #[.val (.int (3 : Int32)), .val (.int (4 : Int32)), .val (.int (3 : Int32)), .val (.int (4 : Int32))] [(.int (3 : Int32))])
  refine own_step (fun _ k => XS.ifYes X2.here hx rfl (pc0 := 20) (pc' := 39) rfl (hb hby d3_20) rfl (by decide) (by decide) (by decide) k) ?_
  show own_Wp p e below _ T2 (mkF m 39 #[.val (.int (3 : Int32)), .val (.int (4 : Int32)), .val (.int (3 : Int32)), .val (.int (4 : Int32))] [])
  refine own_step (fun _ k => XS.iloadN X2.here hx rfl (hb hby d3_39) rfl k) ?_
  show own_Wp p e below _ T2 (mkF m 40 #[.val (.int (3 : Int32)), .val (.int (4 : Int32)), .val (.int (3 : Int32)), .val (.int (4 : Int32))] [(.int (3 : Int32))])
  refine own_step (fun _ k => XS.iconst X2.here hx rfl (hb hby d3_40) k) ?_
  show own_Wp p e below _ T2 (mkF m 41 #[.val (.int (3 : Int32)), .val (.int (4 : Int32)), .val (.int (3 : Int32)), .val (.int (4 : Int32))] [(.int (1 : Int32)), (.int (3 : Int32))])
  refine own_step (fun _ k => XS.icmpYes X2.here hx rfl (pc0 := 41) (pc' := 60) rfl (hb hby d3_41) rfl (by decide) (by decide) (by decide) k) ?_
  show own_Wp p e below _ T2 (mkF m 60 #[.val (.int (3 : Int32)), .val (.int (4 : Int32)), .val (.int (3 : Int32)), .val (.int (4 : Int32))] [])
  refine own_step (fun _ k => XS.iconst X2.here hx rfl (hb hby d3_60) k) ?_
  show own_Wp p e below _ T2 (mkF m 61 #[.val (.int (3 : Int32)), .val (.int (4 : Int32)), .val (.int (3 : Int32)), .val (.int (4 : Int32))] [(.int (0 : Int32))])
  exact own_retN X2 hx (t := .boolean) hret (by simp) hlk (hb hby d3_61) (by decide) (by decide) (by rw [e2]; exact ⟨rfl, N2, rfl⟩)

set_option maxRecDepth 65536 in
set_option maxHeartbeats 40000000 in
theorem rm2_76 (l : Launch) (Z : State) (a0 : Array Value) (hw : ∀ d ∈ tables_1, d.before a0 Z = true) (hA : ∀ d ∈ own_flat narrow_1, d.value a0 Z none Z [] = some true) (ws : List Jvm.Cond) (x1 : Addr) (x2 : Addr) (h0 : Heap) (n0 : Nat) (O0 : Old Z n0 h0) (D0 : Fld Z Z.heap x1 "com/example/pathfare/pathfare/alto/EndpointAddress$Type" "ipv4" "Z" (.int (0 : Int32))) (D1 : Fld Z Z.heap x2 "com/example/pathfare/pathfare/alto/EndpointAddress$Type" "ipv4" "Z" (.int (0 : Int32))) (D2 : x1 ≠ x2) (D3 : Fld Z Z.heap x1 "com/example/pathfare/pathfare/alto/EndpointAddress$Type" "socket" "Z" (.int (1 : Int32))) (D4 : Fld Z Z.heap x2 "com/example/pathfare/pathfare/alto/EndpointAddress$Type" "socket" "Z" (.int (1 : Int32))) :
    own_Met l Z (⟨"com/example/pathfare/pathfare/alto/EndpointAddress$Type", "isCompatibleWith", "(Lcom/example/pathfare/pathfare/alto/EndpointAddress$Type;)Z"⟩ : MethodName) (Jvm.Cond.code (⟨"com/example/pathfare/pathfare/alto/EndpointAddress$Type", "isCompatibleWith", "(Lcom/example/pathfare/pathfare/alto/EndpointAddress$Type;)Z"⟩ : MethodName) prog_3_method_6_code 2 (some .boolean)) ws ({ frames := 0, cells := 0, slots := 0, locals := 0 } : Room) #[(.ref x1), (.ref x2)] h0 (fun v h L => (v = some (.int (0 : Int32)) ∧ Fr n0 L ∧ h = h0)) := by
  refine own_met (own := "com/example/pathfare/pathfare/alto/EndpointAddress$Type") (plainFor_of_name pn2) rfl ?_
  intro p e s m below meth c s₁ hx hby hml hown hnm hret hlk hZ e0 X0
  refine own_cast (g' := (mkF m 0 #[.val (.ref x1), .val (.ref x2)] [])) (by first | (simp [entryFrame, mkF, argsToLocals, Value.category]; done) | rfl) ?_
  refine own_step (fun _ k => XS.aloadN X0.here hx rfl (hb hby d2_0) rfl rfl k) ?_
  show own_Wp p e below _ s₁ (mkF m 1 #[.val (.ref x1), .val (.ref x2)] [(.ref x1)])
  obtain ⟨T1, X1, e1, st1⟩ := getF X0 hx hZ hown (host := "") (Or.inl (hw _ (List.mem_of_getElem? (i := 15) rfl))) Via.refl e0 (D0.ext O0.2) (g := (mkF m 1 #[.val (.ref x1), .val (.ref x2)] [(.ref x1)])) rfl rfl (hb hby d2_1)
  refine own_step st1 ?_
  show own_Wp p e below _ T1 (mkF m 4 #[.val (.ref x1), .val (.ref x2)] [(.int (0 : Int32))])
  refine own_step (fun _ k => XS.aloadN X1.here hx rfl (hb hby d2_4) rfl rfl k) ?_
  show own_Wp p e below _ T1 (mkF m 5 #[.val (.ref x1), .val (.ref x2)] [(.ref x2), (.int (0 : Int32))])
  obtain ⟨T2, X2, e2, st2⟩ := getF X1 hx hZ hown (host := "") (Or.inl (hw _ (List.mem_of_getElem? (i := 15) rfl))) Via.refl e1 (D1.ext O0.2) (g := (mkF m 5 #[.val (.ref x1), .val (.ref x2)] [(.ref x2), (.int (0 : Int32))])) rfl rfl (hb hby d2_5)
  refine own_step st2 ?_
  show own_Wp p e below _ T2 (mkF m 8 #[.val (.ref x1), .val (.ref x2)] [(.int (0 : Int32)), (.int (0 : Int32))])
  refine own_step (fun _ k => XS.icmpNo X2.here hx rfl (hb hby d2_8) rfl (by decide) k) ?_
  show own_Wp p e below _ T2 (mkF m 11 #[.val (.ref x1), .val (.ref x2)] [])
  refine own_step (fun _ k => XS.aloadN X2.here hx rfl (hb hby d2_11) rfl rfl k) ?_
  show own_Wp p e below _ T2 (mkF m 12 #[.val (.ref x1), .val (.ref x2)] [(.ref x1)])
  refine own_step (fun _ k => XS.aloadN X2.here hx rfl (hb hby d2_12) rfl rfl k) ?_
  show own_Wp p e below _ T2 (mkF m 13 #[.val (.ref x1), .val (.ref x2)] [(.ref x2), (.ref x1)])
  refine own_step (fun _ k => Jvm.RoadKit.acmp (g := (mkF m 13 #[.val (.ref x1), .val (.ref x2)] [(.ref x2), (.ref x1)])) X2 hx rfl rfl rfl (pc0 := 13) (pc' := 16) (same := false) rfl (hb hby d2_13) rfl (decide_eq_false fun q => D2 (Value.ref.inj q)) (by decide) (by decide) k) ?_
  show own_Wp p e below _ T2 (mkF m 16 #[.val (.ref x1), .val (.ref x2)] [])
  refine own_step (fun _ k => XS.aloadN X2.here hx rfl (hb hby d2_16) rfl rfl k) ?_
  show own_Wp p e below _ T2 (mkF m 17 #[.val (.ref x1), .val (.ref x2)] [(.ref x1)])
  obtain ⟨T3, X3, e3, st3⟩ := getF X2 hx hZ hown (host := "") (Or.inl (hw _ (List.mem_of_getElem? (i := 35) rfl))) Via.refl e2 (D3.ext O0.2) (g := (mkF m 17 #[.val (.ref x1), .val (.ref x2)] [(.ref x1)])) rfl rfl (hb hby d2_17)
  refine own_step st3 ?_
  show own_Wp p e below _ T3 (mkF m 20 #[.val (.ref x1), .val (.ref x2)] [(.int (1 : Int32))])
  refine own_step (fun _ k => XS.ifNo X3.here hx rfl (hb hby d2_20) rfl (by decide) k) ?_
  show own_Wp p e below _ T3 (mkF m 23 #[.val (.ref x1), .val (.ref x2)] [])
  refine own_step (fun _ k => XS.aloadN X3.here hx rfl (hb hby d2_23) rfl rfl k) ?_
  show own_Wp p e below _ T3 (mkF m 24 #[.val (.ref x1), .val (.ref x2)] [(.ref x2)])
  obtain ⟨T4, X4, e4, st4⟩ := getF X3 hx hZ hown (host := "") (Or.inl (hw _ (List.mem_of_getElem? (i := 35) rfl))) Via.refl e3 (D4.ext O0.2) (g := (mkF m 24 #[.val (.ref x1), .val (.ref x2)] [(.ref x2)])) rfl rfl (hb hby d2_24)
  refine own_step st4 ?_
  show own_Wp p e below _ T4 (mkF m 27 #[.val (.ref x1), .val (.ref x2)] [(.int (1 : Int32))])
  refine own_step (fun _ k => XS.ifYes X4.here hx rfl (pc0 := 27) (pc' := 34) rfl (hb hby d2_27) rfl (by decide) (by decide) (by decide) k) ?_
  show own_Wp p e below _ T4 (mkF m 34 #[.val (.ref x1), .val (.ref x2)] [])
  refine own_step (fun _ k => XS.iconst X4.here hx rfl (hb hby d2_34) k) ?_
  show own_Wp p e below _ T4 (mkF m 35 #[.val (.ref x1), .val (.ref x2)] [(.int (0 : Int32))])
  exact own_retN X4 hx (t := .boolean) hret (by simp) hlk (hb hby d2_35) (by decide) (by decide) (by rw [e4]; exact ⟨rfl, (Fr.nil n0), rfl⟩)

set_option maxRecDepth 65536 in
set_option maxHeartbeats 40000000 in
theorem rm4_77 (l : Launch) (Z : State) (a0 : Array Value) (hw : ∀ d ∈ tables_1, d.before a0 Z = true) (hA : ∀ d ∈ own_flat narrow_1, d.value a0 Z none Z [] = some true) (ws : List Jvm.Cond) (h0 : Heap) (n0 : Nat) (O0 : Old Z n0 h0) :
    own_Met l Z (⟨"java/lang/Math", "min", "(II)I"⟩ : MethodName) (Jvm.Cond.code (⟨"java/lang/Math", "min", "(II)I"⟩ : MethodName) jdk_29_method_69_code 2 (some .int)) ws ({ frames := 0, cells := 0, slots := 0, locals := 0 } : Room) #[(.int (3 : Int32)), (.int (5 : Int32))] h0 (fun v h L => (v = some (.int (3 : Int32)) ∧ Fr n0 L ∧ h = h0)) := by
  refine own_met (own := "java/lang/Math") (Jvm.Free.JP.mathPlain rfl (by decide +kernel)) rfl ?_
  intro p e s m below meth c s₁ hx hby hml hown hnm hret hlk hZ e0 X0
  refine own_cast (g' := (mkF m 0 #[.val (.int (3 : Int32)), .val (.int (5 : Int32))] [])) (by first | (simp [entryFrame, mkF, argsToLocals, Value.category]; done) | rfl) ?_
  refine own_step (fun _ k => XS.iloadN X0.here hx rfl (hb hby d4_0) rfl k) ?_
  show own_Wp p e below _ s₁ (mkF m 1 #[.val (.int (3 : Int32)), .val (.int (5 : Int32))] [(.int (3 : Int32))])
  refine own_step (fun _ k => XS.iloadN X0.here hx rfl (hb hby d4_1) rfl k) ?_
  show own_Wp p e below _ s₁ (mkF m 2 #[.val (.int (3 : Int32)), .val (.int (5 : Int32))] [(.int (5 : Int32)), (.int (3 : Int32))])
  refine own_step (fun _ k => XS.icmpNo X0.here hx rfl (hb hby d4_2) rfl (by decide) k) ?_
  show own_Wp p e below _ s₁ (mkF m 5 #[.val (.int (3 : Int32)), .val (.int (5 : Int32))] [])
  refine own_step (fun _ k => XS.iloadN X0.here hx rfl (hb hby d4_5) rfl k) ?_
  show own_Wp p e below _ s₁ (mkF m 6 #[.val (.int (3 : Int32)), .val (.int (5 : Int32))] [(.int (3 : Int32))])
  refine own_step (fun _ k => XS.goto X0.here hx rfl (pc0 := 6) (pc' := 10) rfl (hb hby d4_6) (by decide) (by decide) k) ?_
  show own_Wp p e below _ s₁ (mkF m 10 #[.val (.int (3 : Int32)), .val (.int (5 : Int32))] [(.int (3 : Int32))])
  exact own_retI X0 hx hret hlk (hb hby d4_10) (by decide) (by decide) (by rw [e0]; exact ⟨rfl, (Fr.nil n0), rfl⟩)

set_option maxRecDepth 65536 in
set_option maxHeartbeats 40000000 in
theorem rm5_78 (l : Launch) (Z : State) (a0 : Array Value) (hw : ∀ d ∈ tables_1, d.before a0 Z = true) (hA : ∀ d ∈ own_flat narrow_1, d.value a0 Z none Z [] = some true) (ws : List Jvm.Cond) (h0 : Heap) (n0 : Nat) (O0 : Old Z n0 h0) :
    own_Met l Z (⟨"java/lang/Math", "max", "(II)I"⟩ : MethodName) (Jvm.Cond.code (⟨"java/lang/Math", "max", "(II)I"⟩ : MethodName) jdk_29_method_65_code 2 (some .int)) ws ({ frames := 0, cells := 0, slots := 0, locals := 0 } : Room) #[(.int (3 : Int32)), (.int (5 : Int32))] h0 (fun v h L => (v = some (.int (5 : Int32)) ∧ Fr n0 L ∧ h = h0)) := by
  refine own_met (own := "java/lang/Math") (Jvm.Free.JP.mathPlain rfl (by decide +kernel)) rfl ?_
  intro p e s m below meth c s₁ hx hby hml hown hnm hret hlk hZ e0 X0
  refine own_cast (g' := (mkF m 0 #[.val (.int (3 : Int32)), .val (.int (5 : Int32))] [])) (by first | (simp [entryFrame, mkF, argsToLocals, Value.category]; done) | rfl) ?_
  refine own_step (fun _ k => XS.iloadN X0.here hx rfl (hb hby d5_0) rfl k) ?_
  show own_Wp p e below _ s₁ (mkF m 1 #[.val (.int (3 : Int32)), .val (.int (5 : Int32))] [(.int (3 : Int32))])
  refine own_step (fun _ k => XS.iloadN X0.here hx rfl (hb hby d5_1) rfl k) ?_
  show own_Wp p e below _ s₁ (mkF m 2 #[.val (.int (3 : Int32)), .val (.int (5 : Int32))] [(.int (5 : Int32)), (.int (3 : Int32))])
  refine own_step (fun _ k => XS.icmpYes X0.here hx rfl (pc0 := 2) (pc' := 9) rfl (hb hby d5_2) rfl (by decide) (by decide) (by decide) k) ?_
  show own_Wp p e below _ s₁ (mkF m 9 #[.val (.int (3 : Int32)), .val (.int (5 : Int32))] [])
  refine own_step (fun _ k => XS.iloadN X0.here hx rfl (hb hby d5_9) rfl k) ?_
  show own_Wp p e below _ s₁ (mkF m 10 #[.val (.int (3 : Int32)), .val (.int (5 : Int32))] [(.int (5 : Int32))])
  exact own_retI X0 hx hret hlk (hb hby d5_10) (by decide) (by decide) (by rw [e0]; exact ⟨rfl, (Fr.nil n0), rfl⟩)

set_option maxRecDepth 65536 in
set_option maxHeartbeats 40000000 in
theorem rm3_79 (l : Launch) (Z : State) (a0 : Array Value) (hw : ∀ d ∈ tables_1, d.before a0 Z = true) (hA : ∀ d ∈ own_flat narrow_1, d.value a0 Z none Z [] = some true) (ws : List Jvm.Cond) (h0 : Heap) (n0 : Nat) (O0 : Old Z n0 h0) :
    own_Met l Z (⟨"com/example/pathfare/pathfare/alto/TypeIsCompatibleWithPinLaw", "expected", "(II)Z"⟩ : MethodName) (Jvm.Cond.code (⟨"com/example/pathfare/pathfare/alto/TypeIsCompatibleWithPinLaw", "expected", "(II)Z"⟩ : MethodName) method_3_code 4 (some .boolean)) ws ({ frames := 1, cells := 0, slots := 0, locals := 13 } : Room) #[(.int (3 : Int32)), (.int (5 : Int32))] h0 (fun v h L => (v = some (.int (0 : Int32)) ∧ Fr n0 L ∧ h = h0)) := by
  refine own_met (own := "com/example/pathfare/pathfare/alto/TypeIsCompatibleWithPinLaw") (plainFor_of_name pn0) rfl ?_
  intro p e s m below meth c s₁ hx hby hml hown hnm hret hlk hZ e0 X0
  refine own_cast (g' := (mkF m 0 #[.val (.int (3 : Int32)), .val (.int (5 : Int32)), .unset, .unset] [])) (by first | (simp [entryFrame, mkF, argsToLocals, Value.category]; done) | rfl) ?_
  refine own_step (fun _ k => XS.iloadN X0.here hx rfl (hb hby d3_0) rfl k) ?_
  show own_Wp p e below _ s₁ (mkF m 1 #[.val (.int (3 : Int32)), .val (.int (5 : Int32)), .unset, .unset] [(.int (3 : Int32))])
  refine own_step (fun _ k => XS.iloadN X0.here hx rfl (hb hby d3_1) rfl k) ?_
  show own_Wp p e below _ s₁ (mkF m 2 #[.val (.int (3 : Int32)), .val (.int (5 : Int32)), .unset, .unset] [(.int (5 : Int32)), (.int (3 : Int32))])
  refine own_step (fun _ k => XS.icmpYes X0.here hx rfl (pc0 := 2) (pc' := 7) rfl (hb hby d3_2) rfl (by decide) (by decide) (by decide) k) ?_
  show own_Wp p e below _ s₁ (mkF m 7 #[.val (.int (3 : Int32)), .val (.int (5 : Int32)), .unset, .unset] [])
  refine own_step (fun _ k => XS.iloadN X0.here hx rfl (hb hby d3_7) rfl k) ?_
  show own_Wp p e below _ s₁ (mkF m 8 #[.val (.int (3 : Int32)), .val (.int (5 : Int32)), .unset, .unset] [(.int (3 : Int32))])
  refine own_step (fun _ k => XS.iloadN X0.here hx rfl (hb hby d3_8) rfl k) ?_
  show own_Wp p e below _ s₁ (mkF m 9 #[.val (.int (3 : Int32)), .val (.int (5 : Int32)), .unset, .unset] [(.int (5 : Int32)), (.int (3 : Int32))])
  obtain ⟨_, T1, L1, X1, hQ1, st1⟩ := own_callS X0 hx hZ hown (hw _ (List.mem_of_getElem? (i := 20) rfl)) (hw _ (List.mem_of_getElem? (i := 21) rfl)) (hw _ (List.mem_of_getElem? (i := 22) rfl)) (hw _ (List.mem_of_getElem? (i := 23) rfl)) (by decide) (rm4_77 l Z a0 hw hA [] h0 n0 O0) (W := 0) (by decide) (by decide) [(.int (3 : Int32)), (.int (5 : Int32))] rfl (lenOf pd5 rfl) (Ls := #[.val (.int (3 : Int32)), .val (.int (5 : Int32)), .unset, .unset]) (by rw [hml]; rfl) (rest := []) (Nat.le_of_eq rfl) (hb hby d3_9) e0 (by decide) (by decide)
  refine st1 _ ?_
  obtain ⟨rfl, N1q, e1⟩ := hQ1
  have N1 := Fr.app (Fr.nil n0) N1q
  show own_Wp p e below _ T1 (mkF m 12 #[.val (.int (3 : Int32)), .val (.int (5 : Int32)), .unset, .unset] [(.int (3 : Int32))])
  refine own_step (fun _ k => XS.istoreN X1.here hx rfl (hb hby d3_12) rfl (l' := #[.val (.int (3 : Int32)), .val (.int (5 : Int32)), .val (.int (3 : Int32)), .unset]) rfl k) ?_
  show own_Wp p e below _ T1 (mkF m 13 #[.val (.int (3 : Int32)), .val (.int (5 : Int32)), .val (.int (3 : Int32)), .unset] [])
  refine own_step (fun _ k => XS.iloadN X1.here hx rfl (hb hby d3_13) rfl k) ?_
  show own_Wp p e below _ T1 (mkF m 14 #[.val (.int (3 : Int32)), .val (.int (5 : Int32)), .val (.int (3 : Int32)), .unset] [(.int (3 : Int32))])
  refine own_step (fun _ k => XS.iloadN X1.here hx rfl (hb hby d3_14) rfl k) ?_
  show own_Wp p e below _ T1 (mkF m 15 #[.val (.int (3 : Int32)), .val (.int (5 : Int32)), .val (.int (3 : Int32)), .unset] [(.int (5 : Int32)), (.int (3 : Int32))])
  obtain ⟨_, T2, L2, X2, hQ2, st2⟩ := own_callS X1 hx hZ hown (hw _ (List.mem_of_getElem? (i := 24) rfl)) (hw _ (List.mem_of_getElem? (i := 25) rfl)) (hw _ (List.mem_of_getElem? (i := 22) rfl)) (hw _ (List.mem_of_getElem? (i := 26) rfl)) (by decide) (rm5_78 l Z a0 hw hA [] h0 n0 O0) (W := 0) (by decide) (by decide) [(.int (3 : Int32)), (.int (5 : Int32))] rfl (lenOf pd5 rfl) (Ls := #[.val (.int (3 : Int32)), .val (.int (5 : Int32)), .val (.int (3 : Int32)), .unset]) (by rw [hml]; rfl) (rest := []) (Nat.le_of_eq rfl) (hb hby d3_15) e1 (by decide) (by decide)
  refine st2 _ ?_
  obtain ⟨rfl, N2q, e2⟩ := hQ2
  have N2 := Fr.app N1 N2q
  show own_Wp p e below _ T2 (mkF m 18 #[.val (.int (3 : Int32)), .val (.int (5 : Int32)), .val (.int (3 : Int32)), .unset] [(.int (5 : Int32))])
  refine own_step (fun _ k => XS.istoreN X2.here hx rfl (hb hby d3_18) rfl (l' := #[.val (.int (3 : Int32)), .val (.int (5 : Int32)), .val (.int (3 : Int32)), .val (.int (5 : Int32))]) rfl k) ?_
  show own_Wp p e below _ T2 (mkF m 19 #[.val (.int (3 : Int32)), .val (.int (5 : Int32)), .val (.int (3 : Int32)), .val (.int (5 : Int32))] [])
  refine own_step (fun _ k => XS.iloadN X2.here hx rfl (hb hby d3_19) rfl k) ?_
  show own_Wp p e below _ T2 (mkF m 20 #[.val (.int (3 : Int32)), .val (.int (5 : Int32)), .val (.int (3 : Int32)), .val (.int (5 : Int32))] [(.int (3 : Int32))])
  refine own_step (fun _ k => XS.ifYes X2.here hx rfl (pc0 := 20) (pc' := 39) rfl (hb hby d3_20) rfl (by decide) (by decide) (by decide) k) ?_
  show own_Wp p e below _ T2 (mkF m 39 #[.val (.int (3 : Int32)), .val (.int (5 : Int32)), .val (.int (3 : Int32)), .val (.int (5 : Int32))] [])
  refine own_step (fun _ k => XS.iloadN X2.here hx rfl (hb hby d3_39) rfl k) ?_
  show own_Wp p e below _ T2 (mkF m 40 #[.val (.int (3 : Int32)), .val (.int (5 : Int32)), .val (.int (3 : Int32)), .val (.int (5 : Int32))] [(.int (3 : Int32))])
  refine own_step (fun _ k => XS.iconst X2.here hx rfl (hb hby d3_40) k) ?_
  show own_Wp p e below _ T2 (mkF m 41 #[.val (.int (3 : Int32)), .val (.int (5 : Int32)), .val (.int (3 : Int32)), .val (.int (5 : Int32))] [(.int (1 : Int32)), (.int (3 : Int32))])
  refine own_step (fun _ k => XS.icmpYes X2.here hx rfl (pc0 := 41) (pc' := 60) rfl (hb hby d3_41) rfl (by decide) (by decide) (by decide) k) ?_
  show own_Wp p e below _ T2 (mkF m 60 #[.val (.int (3 : Int32)), .val (.int (5 : Int32)), .val (.int (3 : Int32)), .val (.int (5 : Int32))] [])
  refine own_step (fun _ k => XS.iconst X2.here hx rfl (hb hby d3_60) k) ?_
  show own_Wp p e below _ T2 (mkF m 61 #[.val (.int (3 : Int32)), .val (.int (5 : Int32)), .val (.int (3 : Int32)), .val (.int (5 : Int32))] [(.int (0 : Int32))])
  exact own_retN X2 hx (t := .boolean) hret (by simp) hlk (hb hby d3_61) (by decide) (by decide) (by rw [e2]; exact ⟨rfl, N2, rfl⟩)

set_option maxRecDepth 65536 in
set_option maxHeartbeats 40000000 in
theorem rm4_80 (l : Launch) (Z : State) (a0 : Array Value) (hw : ∀ d ∈ tables_1, d.before a0 Z = true) (hA : ∀ d ∈ own_flat narrow_1, d.value a0 Z none Z [] = some true) (ws : List Jvm.Cond) (h0 : Heap) (n0 : Nat) (O0 : Old Z n0 h0) :
    own_Met l Z (⟨"java/lang/Math", "min", "(II)I"⟩ : MethodName) (Jvm.Cond.code (⟨"java/lang/Math", "min", "(II)I"⟩ : MethodName) jdk_29_method_69_code 2 (some .int)) ws ({ frames := 0, cells := 0, slots := 0, locals := 0 } : Room) #[(.int (4 : Int32)), (.int (0 : Int32))] h0 (fun v h L => (v = some (.int (0 : Int32)) ∧ Fr n0 L ∧ h = h0)) := by
  refine own_met (own := "java/lang/Math") (Jvm.Free.JP.mathPlain rfl (by decide +kernel)) rfl ?_
  intro p e s m below meth c s₁ hx hby hml hown hnm hret hlk hZ e0 X0
  refine own_cast (g' := (mkF m 0 #[.val (.int (4 : Int32)), .val (.int (0 : Int32))] [])) (by first | (simp [entryFrame, mkF, argsToLocals, Value.category]; done) | rfl) ?_
  refine own_step (fun _ k => XS.iloadN X0.here hx rfl (hb hby d4_0) rfl k) ?_
  show own_Wp p e below _ s₁ (mkF m 1 #[.val (.int (4 : Int32)), .val (.int (0 : Int32))] [(.int (4 : Int32))])
  refine own_step (fun _ k => XS.iloadN X0.here hx rfl (hb hby d4_1) rfl k) ?_
  show own_Wp p e below _ s₁ (mkF m 2 #[.val (.int (4 : Int32)), .val (.int (0 : Int32))] [(.int (0 : Int32)), (.int (4 : Int32))])
  refine own_step (fun _ k => XS.icmpYes X0.here hx rfl (pc0 := 2) (pc' := 9) rfl (hb hby d4_2) rfl (by decide) (by decide) (by decide) k) ?_
  show own_Wp p e below _ s₁ (mkF m 9 #[.val (.int (4 : Int32)), .val (.int (0 : Int32))] [])
  refine own_step (fun _ k => XS.iloadN X0.here hx rfl (hb hby d4_9) rfl k) ?_
  show own_Wp p e below _ s₁ (mkF m 10 #[.val (.int (4 : Int32)), .val (.int (0 : Int32))] [(.int (0 : Int32))])
  exact own_retI X0 hx hret hlk (hb hby d4_10) (by decide) (by decide) (by rw [e0]; exact ⟨rfl, (Fr.nil n0), rfl⟩)

set_option maxRecDepth 65536 in
set_option maxHeartbeats 40000000 in
theorem rm5_81 (l : Launch) (Z : State) (a0 : Array Value) (hw : ∀ d ∈ tables_1, d.before a0 Z = true) (hA : ∀ d ∈ own_flat narrow_1, d.value a0 Z none Z [] = some true) (ws : List Jvm.Cond) (h0 : Heap) (n0 : Nat) (O0 : Old Z n0 h0) :
    own_Met l Z (⟨"java/lang/Math", "max", "(II)I"⟩ : MethodName) (Jvm.Cond.code (⟨"java/lang/Math", "max", "(II)I"⟩ : MethodName) jdk_29_method_65_code 2 (some .int)) ws ({ frames := 0, cells := 0, slots := 0, locals := 0 } : Room) #[(.int (4 : Int32)), (.int (0 : Int32))] h0 (fun v h L => (v = some (.int (4 : Int32)) ∧ Fr n0 L ∧ h = h0)) := by
  refine own_met (own := "java/lang/Math") (Jvm.Free.JP.mathPlain rfl (by decide +kernel)) rfl ?_
  intro p e s m below meth c s₁ hx hby hml hown hnm hret hlk hZ e0 X0
  refine own_cast (g' := (mkF m 0 #[.val (.int (4 : Int32)), .val (.int (0 : Int32))] [])) (by first | (simp [entryFrame, mkF, argsToLocals, Value.category]; done) | rfl) ?_
  refine own_step (fun _ k => XS.iloadN X0.here hx rfl (hb hby d5_0) rfl k) ?_
  show own_Wp p e below _ s₁ (mkF m 1 #[.val (.int (4 : Int32)), .val (.int (0 : Int32))] [(.int (4 : Int32))])
  refine own_step (fun _ k => XS.iloadN X0.here hx rfl (hb hby d5_1) rfl k) ?_
  show own_Wp p e below _ s₁ (mkF m 2 #[.val (.int (4 : Int32)), .val (.int (0 : Int32))] [(.int (0 : Int32)), (.int (4 : Int32))])
  refine own_step (fun _ k => XS.icmpNo X0.here hx rfl (hb hby d5_2) rfl (by decide) k) ?_
  show own_Wp p e below _ s₁ (mkF m 5 #[.val (.int (4 : Int32)), .val (.int (0 : Int32))] [])
  refine own_step (fun _ k => XS.iloadN X0.here hx rfl (hb hby d5_5) rfl k) ?_
  show own_Wp p e below _ s₁ (mkF m 6 #[.val (.int (4 : Int32)), .val (.int (0 : Int32))] [(.int (4 : Int32))])
  refine own_step (fun _ k => XS.goto X0.here hx rfl (pc0 := 6) (pc' := 10) rfl (hb hby d5_6) (by decide) (by decide) k) ?_
  show own_Wp p e below _ s₁ (mkF m 10 #[.val (.int (4 : Int32)), .val (.int (0 : Int32))] [(.int (4 : Int32))])
  exact own_retI X0 hx hret hlk (hb hby d5_10) (by decide) (by decide) (by rw [e0]; exact ⟨rfl, (Fr.nil n0), rfl⟩)

set_option maxRecDepth 65536 in
set_option maxHeartbeats 40000000 in
theorem rm3_82 (l : Launch) (Z : State) (a0 : Array Value) (hw : ∀ d ∈ tables_1, d.before a0 Z = true) (hA : ∀ d ∈ own_flat narrow_1, d.value a0 Z none Z [] = some true) (ws : List Jvm.Cond) (h0 : Heap) (n0 : Nat) (O0 : Old Z n0 h0) :
    own_Met l Z (⟨"com/example/pathfare/pathfare/alto/TypeIsCompatibleWithPinLaw", "expected", "(II)Z"⟩ : MethodName) (Jvm.Cond.code (⟨"com/example/pathfare/pathfare/alto/TypeIsCompatibleWithPinLaw", "expected", "(II)Z"⟩ : MethodName) method_3_code 4 (some .boolean)) ws ({ frames := 1, cells := 0, slots := 0, locals := 13 } : Room) #[(.int (4 : Int32)), (.int (0 : Int32))] h0 (fun v h L => (v = some (.int (1 : Int32)) ∧ Fr n0 L ∧ h = h0)) := by
  refine own_met (own := "com/example/pathfare/pathfare/alto/TypeIsCompatibleWithPinLaw") (plainFor_of_name pn0) rfl ?_
  intro p e s m below meth c s₁ hx hby hml hown hnm hret hlk hZ e0 X0
  refine own_cast (g' := (mkF m 0 #[.val (.int (4 : Int32)), .val (.int (0 : Int32)), .unset, .unset] [])) (by first | (simp [entryFrame, mkF, argsToLocals, Value.category]; done) | rfl) ?_
  refine own_step (fun _ k => XS.iloadN X0.here hx rfl (hb hby d3_0) rfl k) ?_
  show own_Wp p e below _ s₁ (mkF m 1 #[.val (.int (4 : Int32)), .val (.int (0 : Int32)), .unset, .unset] [(.int (4 : Int32))])
  refine own_step (fun _ k => XS.iloadN X0.here hx rfl (hb hby d3_1) rfl k) ?_
  show own_Wp p e below _ s₁ (mkF m 2 #[.val (.int (4 : Int32)), .val (.int (0 : Int32)), .unset, .unset] [(.int (0 : Int32)), (.int (4 : Int32))])
  refine own_step (fun _ k => XS.icmpYes X0.here hx rfl (pc0 := 2) (pc' := 7) rfl (hb hby d3_2) rfl (by decide) (by decide) (by decide) k) ?_
  show own_Wp p e below _ s₁ (mkF m 7 #[.val (.int (4 : Int32)), .val (.int (0 : Int32)), .unset, .unset] [])
  refine own_step (fun _ k => XS.iloadN X0.here hx rfl (hb hby d3_7) rfl k) ?_
  show own_Wp p e below _ s₁ (mkF m 8 #[.val (.int (4 : Int32)), .val (.int (0 : Int32)), .unset, .unset] [(.int (4 : Int32))])
  refine own_step (fun _ k => XS.iloadN X0.here hx rfl (hb hby d3_8) rfl k) ?_
  show own_Wp p e below _ s₁ (mkF m 9 #[.val (.int (4 : Int32)), .val (.int (0 : Int32)), .unset, .unset] [(.int (0 : Int32)), (.int (4 : Int32))])
  obtain ⟨_, T1, L1, X1, hQ1, st1⟩ := own_callS X0 hx hZ hown (hw _ (List.mem_of_getElem? (i := 20) rfl)) (hw _ (List.mem_of_getElem? (i := 21) rfl)) (hw _ (List.mem_of_getElem? (i := 22) rfl)) (hw _ (List.mem_of_getElem? (i := 23) rfl)) (by decide) (rm4_80 l Z a0 hw hA [] h0 n0 O0) (W := 0) (by decide) (by decide) [(.int (4 : Int32)), (.int (0 : Int32))] rfl (lenOf pd5 rfl) (Ls := #[.val (.int (4 : Int32)), .val (.int (0 : Int32)), .unset, .unset]) (by rw [hml]; rfl) (rest := []) (Nat.le_of_eq rfl) (hb hby d3_9) e0 (by decide) (by decide)
  refine st1 _ ?_
  obtain ⟨rfl, N1q, e1⟩ := hQ1
  have N1 := Fr.app (Fr.nil n0) N1q
  show own_Wp p e below _ T1 (mkF m 12 #[.val (.int (4 : Int32)), .val (.int (0 : Int32)), .unset, .unset] [(.int (0 : Int32))])
  refine own_step (fun _ k => XS.istoreN X1.here hx rfl (hb hby d3_12) rfl (l' := #[.val (.int (4 : Int32)), .val (.int (0 : Int32)), .val (.int (0 : Int32)), .unset]) rfl k) ?_
  show own_Wp p e below _ T1 (mkF m 13 #[.val (.int (4 : Int32)), .val (.int (0 : Int32)), .val (.int (0 : Int32)), .unset] [])
  refine own_step (fun _ k => XS.iloadN X1.here hx rfl (hb hby d3_13) rfl k) ?_
  show own_Wp p e below _ T1 (mkF m 14 #[.val (.int (4 : Int32)), .val (.int (0 : Int32)), .val (.int (0 : Int32)), .unset] [(.int (4 : Int32))])
  refine own_step (fun _ k => XS.iloadN X1.here hx rfl (hb hby d3_14) rfl k) ?_
  show own_Wp p e below _ T1 (mkF m 15 #[.val (.int (4 : Int32)), .val (.int (0 : Int32)), .val (.int (0 : Int32)), .unset] [(.int (0 : Int32)), (.int (4 : Int32))])
  obtain ⟨_, T2, L2, X2, hQ2, st2⟩ := own_callS X1 hx hZ hown (hw _ (List.mem_of_getElem? (i := 24) rfl)) (hw _ (List.mem_of_getElem? (i := 25) rfl)) (hw _ (List.mem_of_getElem? (i := 22) rfl)) (hw _ (List.mem_of_getElem? (i := 26) rfl)) (by decide) (rm5_81 l Z a0 hw hA [] h0 n0 O0) (W := 0) (by decide) (by decide) [(.int (4 : Int32)), (.int (0 : Int32))] rfl (lenOf pd5 rfl) (Ls := #[.val (.int (4 : Int32)), .val (.int (0 : Int32)), .val (.int (0 : Int32)), .unset]) (by rw [hml]; rfl) (rest := []) (Nat.le_of_eq rfl) (hb hby d3_15) e1 (by decide) (by decide)
  refine st2 _ ?_
  obtain ⟨rfl, N2q, e2⟩ := hQ2
  have N2 := Fr.app N1 N2q
  show own_Wp p e below _ T2 (mkF m 18 #[.val (.int (4 : Int32)), .val (.int (0 : Int32)), .val (.int (0 : Int32)), .unset] [(.int (4 : Int32))])
  refine own_step (fun _ k => XS.istoreN X2.here hx rfl (hb hby d3_18) rfl (l' := #[.val (.int (4 : Int32)), .val (.int (0 : Int32)), .val (.int (0 : Int32)), .val (.int (4 : Int32))]) rfl k) ?_
  show own_Wp p e below _ T2 (mkF m 19 #[.val (.int (4 : Int32)), .val (.int (0 : Int32)), .val (.int (0 : Int32)), .val (.int (4 : Int32))] [])
  refine own_step (fun _ k => XS.iloadN X2.here hx rfl (hb hby d3_19) rfl k) ?_
  show own_Wp p e below _ T2 (mkF m 20 #[.val (.int (4 : Int32)), .val (.int (0 : Int32)), .val (.int (0 : Int32)), .val (.int (4 : Int32))] [(.int (0 : Int32))])
  refine own_step (fun _ k => XS.ifNo X2.here hx rfl (hb hby d3_20) rfl (by decide) k) ?_
  show own_Wp p e below _ T2 (mkF m 23 #[.val (.int (4 : Int32)), .val (.int (0 : Int32)), .val (.int (0 : Int32)), .val (.int (4 : Int32))] [])
  refine own_step (fun _ k => XS.iloadN X2.here hx rfl (hb hby d3_23) rfl k) ?_
  show own_Wp p e below _ T2 (mkF m 24 #[.val (.int (4 : Int32)), .val (.int (0 : Int32)), .val (.int (0 : Int32)), .val (.int (4 : Int32))] [(.int (4 : Int32))])
  refine own_step (fun _ k => XS.iconst X2.here hx rfl (hb hby d3_24) k) ?_
  show own_Wp p e below _ T2 (mkF m 25 #[.val (.int (4 : Int32)), .val (.int (0 : Int32)), .val (.int (0 : Int32)), .val (.int (4 : Int32))] [(.int (2 : Int32)), (.int (4 : Int32))])
  refine own_step (fun _ k => XS.icmpNo X2.here hx rfl (hb hby d3_25) rfl (by decide) k) ?_
  show own_Wp p e below _ T2 (mkF m 28 #[.val (.int (4 : Int32)), .val (.int (0 : Int32)), .val (.int (0 : Int32)), .val (.int (4 : Int32))] [])
  refine own_step (fun _ k => XS.iloadN X2.here hx rfl (hb hby d3_28) rfl k) ?_
  show own_Wp p e below _ T2 (mkF m 29 #[.val (.int (4 : Int32)), .val (.int (0 : Int32)), .val (.int (0 : Int32)), .val (.int (4 : Int32))] [(.int (4 : Int32))])
  refine own_step (fun _ k => XS.iconst X2.here hx rfl (hb hby d3_29) k) ?_
  show own_Wp p e below _ T2 (mkF m 30 #[.val (.int (4 : Int32)), .val (.int (0 : Int32)), .val (.int (0 : Int32)), .val (.int (4 : Int32))] [(.int (4 : Int32)), (.int (4 : Int32))])
  refine own_step (fun _ k => XS.icmpNo X2.here hx rfl (hb hby d3_30) rfl (by decide) k) ?_
  show own_Wp p e below _ T2 (mkF m 33 #[.val (.int (4 : Int32)), .val (.int (0 : Int32)), .val (.int (0 : Int32)), .val (.int (4 : Int32))] [])
  refine own_step (fun _ k => XS.iconst X2.here hx rfl (hb hby d3_33) k) ?_
  show own_Wp p e below _ T2 (mkF m 34 #[.val (.int (4 : Int32)), .val (.int (0 : Int32)), .val (.int (0 : Int32)), .val (.int (4 : Int32))] [(.int (1 : Int32))])
  refine own_step (fun _ k => XS.goto X2.here hx rfl (pc0 := 34) (pc' := 38) rfl (hb hby d3_34) (by decide) (by decide) k) ?_
  show own_Wp p e below _ T2 (mkF m 38 #[.val (.int (4 : Int32)), .val (.int (0 : Int32)), .val (.int (0 : Int32)), .val (.int (4 : Int32))] [(.int (1 : Int32))])
  exact own_retN X2 hx (t := .boolean) hret (by simp) hlk (hb hby d3_38) (by decide) (by decide) (by rw [e2]; exact ⟨rfl, N2, rfl⟩)

set_option maxRecDepth 65536 in
set_option maxHeartbeats 40000000 in
theorem rm4_83 (l : Launch) (Z : State) (a0 : Array Value) (hw : ∀ d ∈ tables_1, d.before a0 Z = true) (hA : ∀ d ∈ own_flat narrow_1, d.value a0 Z none Z [] = some true) (ws : List Jvm.Cond) (h0 : Heap) (n0 : Nat) (O0 : Old Z n0 h0) :
    own_Met l Z (⟨"java/lang/Math", "min", "(II)I"⟩ : MethodName) (Jvm.Cond.code (⟨"java/lang/Math", "min", "(II)I"⟩ : MethodName) jdk_29_method_69_code 2 (some .int)) ws ({ frames := 0, cells := 0, slots := 0, locals := 0 } : Room) #[(.int (4 : Int32)), (.int (1 : Int32))] h0 (fun v h L => (v = some (.int (1 : Int32)) ∧ Fr n0 L ∧ h = h0)) := by
  refine own_met (own := "java/lang/Math") (Jvm.Free.JP.mathPlain rfl (by decide +kernel)) rfl ?_
  intro p e s m below meth c s₁ hx hby hml hown hnm hret hlk hZ e0 X0
  refine own_cast (g' := (mkF m 0 #[.val (.int (4 : Int32)), .val (.int (1 : Int32))] [])) (by first | (simp [entryFrame, mkF, argsToLocals, Value.category]; done) | rfl) ?_
  refine own_step (fun _ k => XS.iloadN X0.here hx rfl (hb hby d4_0) rfl k) ?_
  show own_Wp p e below _ s₁ (mkF m 1 #[.val (.int (4 : Int32)), .val (.int (1 : Int32))] [(.int (4 : Int32))])
  refine own_step (fun _ k => XS.iloadN X0.here hx rfl (hb hby d4_1) rfl k) ?_
  show own_Wp p e below _ s₁ (mkF m 2 #[.val (.int (4 : Int32)), .val (.int (1 : Int32))] [(.int (1 : Int32)), (.int (4 : Int32))])
  refine own_step (fun _ k => XS.icmpYes X0.here hx rfl (pc0 := 2) (pc' := 9) rfl (hb hby d4_2) rfl (by decide) (by decide) (by decide) k) ?_
  show own_Wp p e below _ s₁ (mkF m 9 #[.val (.int (4 : Int32)), .val (.int (1 : Int32))] [])
  refine own_step (fun _ k => XS.iloadN X0.here hx rfl (hb hby d4_9) rfl k) ?_
  show own_Wp p e below _ s₁ (mkF m 10 #[.val (.int (4 : Int32)), .val (.int (1 : Int32))] [(.int (1 : Int32))])
  exact own_retI X0 hx hret hlk (hb hby d4_10) (by decide) (by decide) (by rw [e0]; exact ⟨rfl, (Fr.nil n0), rfl⟩)

set_option maxRecDepth 65536 in
set_option maxHeartbeats 40000000 in
theorem rm5_84 (l : Launch) (Z : State) (a0 : Array Value) (hw : ∀ d ∈ tables_1, d.before a0 Z = true) (hA : ∀ d ∈ own_flat narrow_1, d.value a0 Z none Z [] = some true) (ws : List Jvm.Cond) (h0 : Heap) (n0 : Nat) (O0 : Old Z n0 h0) :
    own_Met l Z (⟨"java/lang/Math", "max", "(II)I"⟩ : MethodName) (Jvm.Cond.code (⟨"java/lang/Math", "max", "(II)I"⟩ : MethodName) jdk_29_method_65_code 2 (some .int)) ws ({ frames := 0, cells := 0, slots := 0, locals := 0 } : Room) #[(.int (4 : Int32)), (.int (1 : Int32))] h0 (fun v h L => (v = some (.int (4 : Int32)) ∧ Fr n0 L ∧ h = h0)) := by
  refine own_met (own := "java/lang/Math") (Jvm.Free.JP.mathPlain rfl (by decide +kernel)) rfl ?_
  intro p e s m below meth c s₁ hx hby hml hown hnm hret hlk hZ e0 X0
  refine own_cast (g' := (mkF m 0 #[.val (.int (4 : Int32)), .val (.int (1 : Int32))] [])) (by first | (simp [entryFrame, mkF, argsToLocals, Value.category]; done) | rfl) ?_
  refine own_step (fun _ k => XS.iloadN X0.here hx rfl (hb hby d5_0) rfl k) ?_
  show own_Wp p e below _ s₁ (mkF m 1 #[.val (.int (4 : Int32)), .val (.int (1 : Int32))] [(.int (4 : Int32))])
  refine own_step (fun _ k => XS.iloadN X0.here hx rfl (hb hby d5_1) rfl k) ?_
  show own_Wp p e below _ s₁ (mkF m 2 #[.val (.int (4 : Int32)), .val (.int (1 : Int32))] [(.int (1 : Int32)), (.int (4 : Int32))])
  refine own_step (fun _ k => XS.icmpNo X0.here hx rfl (hb hby d5_2) rfl (by decide) k) ?_
  show own_Wp p e below _ s₁ (mkF m 5 #[.val (.int (4 : Int32)), .val (.int (1 : Int32))] [])
  refine own_step (fun _ k => XS.iloadN X0.here hx rfl (hb hby d5_5) rfl k) ?_
  show own_Wp p e below _ s₁ (mkF m 6 #[.val (.int (4 : Int32)), .val (.int (1 : Int32))] [(.int (4 : Int32))])
  refine own_step (fun _ k => XS.goto X0.here hx rfl (pc0 := 6) (pc' := 10) rfl (hb hby d5_6) (by decide) (by decide) k) ?_
  show own_Wp p e below _ s₁ (mkF m 10 #[.val (.int (4 : Int32)), .val (.int (1 : Int32))] [(.int (4 : Int32))])
  exact own_retI X0 hx hret hlk (hb hby d5_10) (by decide) (by decide) (by rw [e0]; exact ⟨rfl, (Fr.nil n0), rfl⟩)

set_option maxRecDepth 65536 in
set_option maxHeartbeats 40000000 in
theorem rm3_85 (l : Launch) (Z : State) (a0 : Array Value) (hw : ∀ d ∈ tables_1, d.before a0 Z = true) (hA : ∀ d ∈ own_flat narrow_1, d.value a0 Z none Z [] = some true) (ws : List Jvm.Cond) (h0 : Heap) (n0 : Nat) (O0 : Old Z n0 h0) :
    own_Met l Z (⟨"com/example/pathfare/pathfare/alto/TypeIsCompatibleWithPinLaw", "expected", "(II)Z"⟩ : MethodName) (Jvm.Cond.code (⟨"com/example/pathfare/pathfare/alto/TypeIsCompatibleWithPinLaw", "expected", "(II)Z"⟩ : MethodName) method_3_code 4 (some .boolean)) ws ({ frames := 1, cells := 0, slots := 0, locals := 13 } : Room) #[(.int (4 : Int32)), (.int (1 : Int32))] h0 (fun v h L => (v = some (.int (0 : Int32)) ∧ Fr n0 L ∧ h = h0)) := by
  refine own_met (own := "com/example/pathfare/pathfare/alto/TypeIsCompatibleWithPinLaw") (plainFor_of_name pn0) rfl ?_
  intro p e s m below meth c s₁ hx hby hml hown hnm hret hlk hZ e0 X0
  refine own_cast (g' := (mkF m 0 #[.val (.int (4 : Int32)), .val (.int (1 : Int32)), .unset, .unset] [])) (by first | (simp [entryFrame, mkF, argsToLocals, Value.category]; done) | rfl) ?_
  refine own_step (fun _ k => XS.iloadN X0.here hx rfl (hb hby d3_0) rfl k) ?_
  show own_Wp p e below _ s₁ (mkF m 1 #[.val (.int (4 : Int32)), .val (.int (1 : Int32)), .unset, .unset] [(.int (4 : Int32))])
  refine own_step (fun _ k => XS.iloadN X0.here hx rfl (hb hby d3_1) rfl k) ?_
  show own_Wp p e below _ s₁ (mkF m 2 #[.val (.int (4 : Int32)), .val (.int (1 : Int32)), .unset, .unset] [(.int (1 : Int32)), (.int (4 : Int32))])
  refine own_step (fun _ k => XS.icmpYes X0.here hx rfl (pc0 := 2) (pc' := 7) rfl (hb hby d3_2) rfl (by decide) (by decide) (by decide) k) ?_
  show own_Wp p e below _ s₁ (mkF m 7 #[.val (.int (4 : Int32)), .val (.int (1 : Int32)), .unset, .unset] [])
  refine own_step (fun _ k => XS.iloadN X0.here hx rfl (hb hby d3_7) rfl k) ?_
  show own_Wp p e below _ s₁ (mkF m 8 #[.val (.int (4 : Int32)), .val (.int (1 : Int32)), .unset, .unset] [(.int (4 : Int32))])
  refine own_step (fun _ k => XS.iloadN X0.here hx rfl (hb hby d3_8) rfl k) ?_
  show own_Wp p e below _ s₁ (mkF m 9 #[.val (.int (4 : Int32)), .val (.int (1 : Int32)), .unset, .unset] [(.int (1 : Int32)), (.int (4 : Int32))])
  obtain ⟨_, T1, L1, X1, hQ1, st1⟩ := own_callS X0 hx hZ hown (hw _ (List.mem_of_getElem? (i := 20) rfl)) (hw _ (List.mem_of_getElem? (i := 21) rfl)) (hw _ (List.mem_of_getElem? (i := 22) rfl)) (hw _ (List.mem_of_getElem? (i := 23) rfl)) (by decide) (rm4_83 l Z a0 hw hA [] h0 n0 O0) (W := 0) (by decide) (by decide) [(.int (4 : Int32)), (.int (1 : Int32))] rfl (lenOf pd5 rfl) (Ls := #[.val (.int (4 : Int32)), .val (.int (1 : Int32)), .unset, .unset]) (by rw [hml]; rfl) (rest := []) (Nat.le_of_eq rfl) (hb hby d3_9) e0 (by decide) (by decide)
  refine st1 _ ?_
  obtain ⟨rfl, N1q, e1⟩ := hQ1
  have N1 := Fr.app (Fr.nil n0) N1q
  show own_Wp p e below _ T1 (mkF m 12 #[.val (.int (4 : Int32)), .val (.int (1 : Int32)), .unset, .unset] [(.int (1 : Int32))])
  refine own_step (fun _ k => XS.istoreN X1.here hx rfl (hb hby d3_12) rfl (l' := #[.val (.int (4 : Int32)), .val (.int (1 : Int32)), .val (.int (1 : Int32)), .unset]) rfl k) ?_
  show own_Wp p e below _ T1 (mkF m 13 #[.val (.int (4 : Int32)), .val (.int (1 : Int32)), .val (.int (1 : Int32)), .unset] [])
  refine own_step (fun _ k => XS.iloadN X1.here hx rfl (hb hby d3_13) rfl k) ?_
  show own_Wp p e below _ T1 (mkF m 14 #[.val (.int (4 : Int32)), .val (.int (1 : Int32)), .val (.int (1 : Int32)), .unset] [(.int (4 : Int32))])
  refine own_step (fun _ k => XS.iloadN X1.here hx rfl (hb hby d3_14) rfl k) ?_
  show own_Wp p e below _ T1 (mkF m 15 #[.val (.int (4 : Int32)), .val (.int (1 : Int32)), .val (.int (1 : Int32)), .unset] [(.int (1 : Int32)), (.int (4 : Int32))])
  obtain ⟨_, T2, L2, X2, hQ2, st2⟩ := own_callS X1 hx hZ hown (hw _ (List.mem_of_getElem? (i := 24) rfl)) (hw _ (List.mem_of_getElem? (i := 25) rfl)) (hw _ (List.mem_of_getElem? (i := 22) rfl)) (hw _ (List.mem_of_getElem? (i := 26) rfl)) (by decide) (rm5_84 l Z a0 hw hA [] h0 n0 O0) (W := 0) (by decide) (by decide) [(.int (4 : Int32)), (.int (1 : Int32))] rfl (lenOf pd5 rfl) (Ls := #[.val (.int (4 : Int32)), .val (.int (1 : Int32)), .val (.int (1 : Int32)), .unset]) (by rw [hml]; rfl) (rest := []) (Nat.le_of_eq rfl) (hb hby d3_15) e1 (by decide) (by decide)
  refine st2 _ ?_
  obtain ⟨rfl, N2q, e2⟩ := hQ2
  have N2 := Fr.app N1 N2q
  show own_Wp p e below _ T2 (mkF m 18 #[.val (.int (4 : Int32)), .val (.int (1 : Int32)), .val (.int (1 : Int32)), .unset] [(.int (4 : Int32))])
  refine own_step (fun _ k => XS.istoreN X2.here hx rfl (hb hby d3_18) rfl (l' := #[.val (.int (4 : Int32)), .val (.int (1 : Int32)), .val (.int (1 : Int32)), .val (.int (4 : Int32))]) rfl k) ?_
  show own_Wp p e below _ T2 (mkF m 19 #[.val (.int (4 : Int32)), .val (.int (1 : Int32)), .val (.int (1 : Int32)), .val (.int (4 : Int32))] [])
  refine own_step (fun _ k => XS.iloadN X2.here hx rfl (hb hby d3_19) rfl k) ?_
  show own_Wp p e below _ T2 (mkF m 20 #[.val (.int (4 : Int32)), .val (.int (1 : Int32)), .val (.int (1 : Int32)), .val (.int (4 : Int32))] [(.int (1 : Int32))])
  refine own_step (fun _ k => XS.ifYes X2.here hx rfl (pc0 := 20) (pc' := 39) rfl (hb hby d3_20) rfl (by decide) (by decide) (by decide) k) ?_
  show own_Wp p e below _ T2 (mkF m 39 #[.val (.int (4 : Int32)), .val (.int (1 : Int32)), .val (.int (1 : Int32)), .val (.int (4 : Int32))] [])
  refine own_step (fun _ k => XS.iloadN X2.here hx rfl (hb hby d3_39) rfl k) ?_
  show own_Wp p e below _ T2 (mkF m 40 #[.val (.int (4 : Int32)), .val (.int (1 : Int32)), .val (.int (1 : Int32)), .val (.int (4 : Int32))] [(.int (1 : Int32))])
  refine own_step (fun _ k => XS.iconst X2.here hx rfl (hb hby d3_40) k) ?_
  show own_Wp p e below _ T2 (mkF m 41 #[.val (.int (4 : Int32)), .val (.int (1 : Int32)), .val (.int (1 : Int32)), .val (.int (4 : Int32))] [(.int (1 : Int32)), (.int (1 : Int32))])
  refine own_step (fun _ k => XS.icmpNo X2.here hx rfl (hb hby d3_41) rfl (by decide) k) ?_
  show own_Wp p e below _ T2 (mkF m 44 #[.val (.int (4 : Int32)), .val (.int (1 : Int32)), .val (.int (1 : Int32)), .val (.int (4 : Int32))] [])
  refine own_step (fun _ k => XS.iloadN X2.here hx rfl (hb hby d3_44) rfl k) ?_
  show own_Wp p e below _ T2 (mkF m 45 #[.val (.int (4 : Int32)), .val (.int (1 : Int32)), .val (.int (1 : Int32)), .val (.int (4 : Int32))] [(.int (4 : Int32))])
  refine own_step (fun _ k => XS.iconst X2.here hx rfl (hb hby d3_45) k) ?_
  show own_Wp p e below _ T2 (mkF m 46 #[.val (.int (4 : Int32)), .val (.int (1 : Int32)), .val (.int (1 : Int32)), .val (.int (4 : Int32))] [(.int (3 : Int32)), (.int (4 : Int32))])
  refine own_step (fun _ k => XS.icmpNo X2.here hx rfl (hb hby d3_46) rfl (by decide) k) ?_
  show own_Wp p e below _ T2 (mkF m 49 #[.val (.int (4 : Int32)), .val (.int (1 : Int32)), .val (.int (1 : Int32)), .val (.int (4 : Int32))] [])
  refine own_step (fun _ k => XS.iloadN X2.here hx rfl (hb hby d3_49) rfl k) ?_
  show own_Wp p e below _ T2 (mkF m 50 #[.val (.int (4 : Int32)), .val (.int (1 : Int32)), .val (.int (1 : Int32)), .val (.int (4 : Int32))] [(.int (4 : Int32))])
  refine own_step (fun _ k => XS.iconst X2.here hx rfl (hb hby d3_50) k) ?_
  show own_Wp p e below _ T2 (mkF m 51 #[.val (.int (4 : Int32)), .val (.int (1 : Int32)), .val (.int (1 : Int32)), .val (.int (4 : Int32))] [(.int (5 : Int32)), (.int (4 : Int32))])
  refine own_step (fun _ k => XS.icmpYes X2.here hx rfl (pc0 := 51) (pc' := 58) rfl (hb hby d3_51) rfl (by decide) (by decide) (by decide) k) ?_
  show own_Wp p e below _ T2 (mkF m 58 #[.val (.int (4 : Int32)), .val (.int (1 : Int32)), .val (.int (1 : Int32)), .val (.int (4 : Int32))] [])
  refine own_step (fun _ k => XS.iconst X2.here hx rfl (hb hby d3_58) k) ?_
  show own_Wp p e below _ T2 (mkF m 59 #[.val (.int (4 : Int32)), .val (.int (1 : Int32)), .val (.int (1 : Int32)), .val (.int (4 : Int32))] [(.int (0 : Int32))])
  exact own_retN X2 hx (t := .boolean) hret (by simp) hlk (hb hby d3_59) (by decide) (by decide) (by rw [e2]; exact ⟨rfl, N2, rfl⟩)

set_option maxRecDepth 65536 in
set_option maxHeartbeats 40000000 in
theorem rm4_86 (l : Launch) (Z : State) (a0 : Array Value) (hw : ∀ d ∈ tables_1, d.before a0 Z = true) (hA : ∀ d ∈ own_flat narrow_1, d.value a0 Z none Z [] = some true) (ws : List Jvm.Cond) (h0 : Heap) (n0 : Nat) (O0 : Old Z n0 h0) :
    own_Met l Z (⟨"java/lang/Math", "min", "(II)I"⟩ : MethodName) (Jvm.Cond.code (⟨"java/lang/Math", "min", "(II)I"⟩ : MethodName) jdk_29_method_69_code 2 (some .int)) ws ({ frames := 0, cells := 0, slots := 0, locals := 0 } : Room) #[(.int (4 : Int32)), (.int (2 : Int32))] h0 (fun v h L => (v = some (.int (2 : Int32)) ∧ Fr n0 L ∧ h = h0)) := by
  refine own_met (own := "java/lang/Math") (Jvm.Free.JP.mathPlain rfl (by decide +kernel)) rfl ?_
  intro p e s m below meth c s₁ hx hby hml hown hnm hret hlk hZ e0 X0
  refine own_cast (g' := (mkF m 0 #[.val (.int (4 : Int32)), .val (.int (2 : Int32))] [])) (by first | (simp [entryFrame, mkF, argsToLocals, Value.category]; done) | rfl) ?_
  refine own_step (fun _ k => XS.iloadN X0.here hx rfl (hb hby d4_0) rfl k) ?_
  show own_Wp p e below _ s₁ (mkF m 1 #[.val (.int (4 : Int32)), .val (.int (2 : Int32))] [(.int (4 : Int32))])
  refine own_step (fun _ k => XS.iloadN X0.here hx rfl (hb hby d4_1) rfl k) ?_
  show own_Wp p e below _ s₁ (mkF m 2 #[.val (.int (4 : Int32)), .val (.int (2 : Int32))] [(.int (2 : Int32)), (.int (4 : Int32))])
  refine own_step (fun _ k => XS.icmpYes X0.here hx rfl (pc0 := 2) (pc' := 9) rfl (hb hby d4_2) rfl (by decide) (by decide) (by decide) k) ?_
  show own_Wp p e below _ s₁ (mkF m 9 #[.val (.int (4 : Int32)), .val (.int (2 : Int32))] [])
  refine own_step (fun _ k => XS.iloadN X0.here hx rfl (hb hby d4_9) rfl k) ?_
  show own_Wp p e below _ s₁ (mkF m 10 #[.val (.int (4 : Int32)), .val (.int (2 : Int32))] [(.int (2 : Int32))])
  exact own_retI X0 hx hret hlk (hb hby d4_10) (by decide) (by decide) (by rw [e0]; exact ⟨rfl, (Fr.nil n0), rfl⟩)

set_option maxRecDepth 65536 in
set_option maxHeartbeats 40000000 in
theorem rm5_87 (l : Launch) (Z : State) (a0 : Array Value) (hw : ∀ d ∈ tables_1, d.before a0 Z = true) (hA : ∀ d ∈ own_flat narrow_1, d.value a0 Z none Z [] = some true) (ws : List Jvm.Cond) (h0 : Heap) (n0 : Nat) (O0 : Old Z n0 h0) :
    own_Met l Z (⟨"java/lang/Math", "max", "(II)I"⟩ : MethodName) (Jvm.Cond.code (⟨"java/lang/Math", "max", "(II)I"⟩ : MethodName) jdk_29_method_65_code 2 (some .int)) ws ({ frames := 0, cells := 0, slots := 0, locals := 0 } : Room) #[(.int (4 : Int32)), (.int (2 : Int32))] h0 (fun v h L => (v = some (.int (4 : Int32)) ∧ Fr n0 L ∧ h = h0)) := by
  refine own_met (own := "java/lang/Math") (Jvm.Free.JP.mathPlain rfl (by decide +kernel)) rfl ?_
  intro p e s m below meth c s₁ hx hby hml hown hnm hret hlk hZ e0 X0
  refine own_cast (g' := (mkF m 0 #[.val (.int (4 : Int32)), .val (.int (2 : Int32))] [])) (by first | (simp [entryFrame, mkF, argsToLocals, Value.category]; done) | rfl) ?_
  refine own_step (fun _ k => XS.iloadN X0.here hx rfl (hb hby d5_0) rfl k) ?_
  show own_Wp p e below _ s₁ (mkF m 1 #[.val (.int (4 : Int32)), .val (.int (2 : Int32))] [(.int (4 : Int32))])
  refine own_step (fun _ k => XS.iloadN X0.here hx rfl (hb hby d5_1) rfl k) ?_
  show own_Wp p e below _ s₁ (mkF m 2 #[.val (.int (4 : Int32)), .val (.int (2 : Int32))] [(.int (2 : Int32)), (.int (4 : Int32))])
  refine own_step (fun _ k => XS.icmpNo X0.here hx rfl (hb hby d5_2) rfl (by decide) k) ?_
  show own_Wp p e below _ s₁ (mkF m 5 #[.val (.int (4 : Int32)), .val (.int (2 : Int32))] [])
  refine own_step (fun _ k => XS.iloadN X0.here hx rfl (hb hby d5_5) rfl k) ?_
  show own_Wp p e below _ s₁ (mkF m 6 #[.val (.int (4 : Int32)), .val (.int (2 : Int32))] [(.int (4 : Int32))])
  refine own_step (fun _ k => XS.goto X0.here hx rfl (pc0 := 6) (pc' := 10) rfl (hb hby d5_6) (by decide) (by decide) k) ?_
  show own_Wp p e below _ s₁ (mkF m 10 #[.val (.int (4 : Int32)), .val (.int (2 : Int32))] [(.int (4 : Int32))])
  exact own_retI X0 hx hret hlk (hb hby d5_10) (by decide) (by decide) (by rw [e0]; exact ⟨rfl, (Fr.nil n0), rfl⟩)

set_option maxRecDepth 65536 in
set_option maxHeartbeats 40000000 in
theorem rm3_88 (l : Launch) (Z : State) (a0 : Array Value) (hw : ∀ d ∈ tables_1, d.before a0 Z = true) (hA : ∀ d ∈ own_flat narrow_1, d.value a0 Z none Z [] = some true) (ws : List Jvm.Cond) (h0 : Heap) (n0 : Nat) (O0 : Old Z n0 h0) :
    own_Met l Z (⟨"com/example/pathfare/pathfare/alto/TypeIsCompatibleWithPinLaw", "expected", "(II)Z"⟩ : MethodName) (Jvm.Cond.code (⟨"com/example/pathfare/pathfare/alto/TypeIsCompatibleWithPinLaw", "expected", "(II)Z"⟩ : MethodName) method_3_code 4 (some .boolean)) ws ({ frames := 1, cells := 0, slots := 0, locals := 13 } : Room) #[(.int (4 : Int32)), (.int (2 : Int32))] h0 (fun v h L => (v = some (.int (0 : Int32)) ∧ Fr n0 L ∧ h = h0)) := by
  refine own_met (own := "com/example/pathfare/pathfare/alto/TypeIsCompatibleWithPinLaw") (plainFor_of_name pn0) rfl ?_
  intro p e s m below meth c s₁ hx hby hml hown hnm hret hlk hZ e0 X0
  refine own_cast (g' := (mkF m 0 #[.val (.int (4 : Int32)), .val (.int (2 : Int32)), .unset, .unset] [])) (by first | (simp [entryFrame, mkF, argsToLocals, Value.category]; done) | rfl) ?_
  refine own_step (fun _ k => XS.iloadN X0.here hx rfl (hb hby d3_0) rfl k) ?_
  show own_Wp p e below _ s₁ (mkF m 1 #[.val (.int (4 : Int32)), .val (.int (2 : Int32)), .unset, .unset] [(.int (4 : Int32))])
  refine own_step (fun _ k => XS.iloadN X0.here hx rfl (hb hby d3_1) rfl k) ?_
  show own_Wp p e below _ s₁ (mkF m 2 #[.val (.int (4 : Int32)), .val (.int (2 : Int32)), .unset, .unset] [(.int (2 : Int32)), (.int (4 : Int32))])
  refine own_step (fun _ k => XS.icmpYes X0.here hx rfl (pc0 := 2) (pc' := 7) rfl (hb hby d3_2) rfl (by decide) (by decide) (by decide) k) ?_
  show own_Wp p e below _ s₁ (mkF m 7 #[.val (.int (4 : Int32)), .val (.int (2 : Int32)), .unset, .unset] [])
  refine own_step (fun _ k => XS.iloadN X0.here hx rfl (hb hby d3_7) rfl k) ?_
  show own_Wp p e below _ s₁ (mkF m 8 #[.val (.int (4 : Int32)), .val (.int (2 : Int32)), .unset, .unset] [(.int (4 : Int32))])
  refine own_step (fun _ k => XS.iloadN X0.here hx rfl (hb hby d3_8) rfl k) ?_
  show own_Wp p e below _ s₁ (mkF m 9 #[.val (.int (4 : Int32)), .val (.int (2 : Int32)), .unset, .unset] [(.int (2 : Int32)), (.int (4 : Int32))])
  obtain ⟨_, T1, L1, X1, hQ1, st1⟩ := own_callS X0 hx hZ hown (hw _ (List.mem_of_getElem? (i := 20) rfl)) (hw _ (List.mem_of_getElem? (i := 21) rfl)) (hw _ (List.mem_of_getElem? (i := 22) rfl)) (hw _ (List.mem_of_getElem? (i := 23) rfl)) (by decide) (rm4_86 l Z a0 hw hA [] h0 n0 O0) (W := 0) (by decide) (by decide) [(.int (4 : Int32)), (.int (2 : Int32))] rfl (lenOf pd5 rfl) (Ls := #[.val (.int (4 : Int32)), .val (.int (2 : Int32)), .unset, .unset]) (by rw [hml]; rfl) (rest := []) (Nat.le_of_eq rfl) (hb hby d3_9) e0 (by decide) (by decide)
  refine st1 _ ?_
  obtain ⟨rfl, N1q, e1⟩ := hQ1
  have N1 := Fr.app (Fr.nil n0) N1q
  show own_Wp p e below _ T1 (mkF m 12 #[.val (.int (4 : Int32)), .val (.int (2 : Int32)), .unset, .unset] [(.int (2 : Int32))])
  refine own_step (fun _ k => XS.istoreN X1.here hx rfl (hb hby d3_12) rfl (l' := #[.val (.int (4 : Int32)), .val (.int (2 : Int32)), .val (.int (2 : Int32)), .unset]) rfl k) ?_
  show own_Wp p e below _ T1 (mkF m 13 #[.val (.int (4 : Int32)), .val (.int (2 : Int32)), .val (.int (2 : Int32)), .unset] [])
  refine own_step (fun _ k => XS.iloadN X1.here hx rfl (hb hby d3_13) rfl k) ?_
  show own_Wp p e below _ T1 (mkF m 14 #[.val (.int (4 : Int32)), .val (.int (2 : Int32)), .val (.int (2 : Int32)), .unset] [(.int (4 : Int32))])
  refine own_step (fun _ k => XS.iloadN X1.here hx rfl (hb hby d3_14) rfl k) ?_
  show own_Wp p e below _ T1 (mkF m 15 #[.val (.int (4 : Int32)), .val (.int (2 : Int32)), .val (.int (2 : Int32)), .unset] [(.int (2 : Int32)), (.int (4 : Int32))])
  obtain ⟨_, T2, L2, X2, hQ2, st2⟩ := own_callS X1 hx hZ hown (hw _ (List.mem_of_getElem? (i := 24) rfl)) (hw _ (List.mem_of_getElem? (i := 25) rfl)) (hw _ (List.mem_of_getElem? (i := 22) rfl)) (hw _ (List.mem_of_getElem? (i := 26) rfl)) (by decide) (rm5_87 l Z a0 hw hA [] h0 n0 O0) (W := 0) (by decide) (by decide) [(.int (4 : Int32)), (.int (2 : Int32))] rfl (lenOf pd5 rfl) (Ls := #[.val (.int (4 : Int32)), .val (.int (2 : Int32)), .val (.int (2 : Int32)), .unset]) (by rw [hml]; rfl) (rest := []) (Nat.le_of_eq rfl) (hb hby d3_15) e1 (by decide) (by decide)
  refine st2 _ ?_
  obtain ⟨rfl, N2q, e2⟩ := hQ2
  have N2 := Fr.app N1 N2q
  show own_Wp p e below _ T2 (mkF m 18 #[.val (.int (4 : Int32)), .val (.int (2 : Int32)), .val (.int (2 : Int32)), .unset] [(.int (4 : Int32))])
  refine own_step (fun _ k => XS.istoreN X2.here hx rfl (hb hby d3_18) rfl (l' := #[.val (.int (4 : Int32)), .val (.int (2 : Int32)), .val (.int (2 : Int32)), .val (.int (4 : Int32))]) rfl k) ?_
  show own_Wp p e below _ T2 (mkF m 19 #[.val (.int (4 : Int32)), .val (.int (2 : Int32)), .val (.int (2 : Int32)), .val (.int (4 : Int32))] [])
  refine own_step (fun _ k => XS.iloadN X2.here hx rfl (hb hby d3_19) rfl k) ?_
  show own_Wp p e below _ T2 (mkF m 20 #[.val (.int (4 : Int32)), .val (.int (2 : Int32)), .val (.int (2 : Int32)), .val (.int (4 : Int32))] [(.int (2 : Int32))])
  refine own_step (fun _ k => XS.ifYes X2.here hx rfl (pc0 := 20) (pc' := 39) rfl (hb hby d3_20) rfl (by decide) (by decide) (by decide) k) ?_
  show own_Wp p e below _ T2 (mkF m 39 #[.val (.int (4 : Int32)), .val (.int (2 : Int32)), .val (.int (2 : Int32)), .val (.int (4 : Int32))] [])
  refine own_step (fun _ k => XS.iloadN X2.here hx rfl (hb hby d3_39) rfl k) ?_
  show own_Wp p e below _ T2 (mkF m 40 #[.val (.int (4 : Int32)), .val (.int (2 : Int32)), .val (.int (2 : Int32)), .val (.int (4 : Int32))] [(.int (2 : Int32))])
  refine own_step (fun _ k => XS.iconst X2.here hx rfl (hb hby d3_40) k) ?_
  show own_Wp p e below _ T2 (mkF m 41 #[.val (.int (4 : Int32)), .val (.int (2 : Int32)), .val (.int (2 : Int32)), .val (.int (4 : Int32))] [(.int (1 : Int32)), (.int (2 : Int32))])
  refine own_step (fun _ k => XS.icmpYes X2.here hx rfl (pc0 := 41) (pc' := 60) rfl (hb hby d3_41) rfl (by decide) (by decide) (by decide) k) ?_
  show own_Wp p e below _ T2 (mkF m 60 #[.val (.int (4 : Int32)), .val (.int (2 : Int32)), .val (.int (2 : Int32)), .val (.int (4 : Int32))] [])
  refine own_step (fun _ k => XS.iconst X2.here hx rfl (hb hby d3_60) k) ?_
  show own_Wp p e below _ T2 (mkF m 61 #[.val (.int (4 : Int32)), .val (.int (2 : Int32)), .val (.int (2 : Int32)), .val (.int (4 : Int32))] [(.int (0 : Int32))])
  exact own_retN X2 hx (t := .boolean) hret (by simp) hlk (hb hby d3_61) (by decide) (by decide) (by rw [e2]; exact ⟨rfl, N2, rfl⟩)

set_option maxRecDepth 65536 in
set_option maxHeartbeats 40000000 in
theorem rm4_89 (l : Launch) (Z : State) (a0 : Array Value) (hw : ∀ d ∈ tables_1, d.before a0 Z = true) (hA : ∀ d ∈ own_flat narrow_1, d.value a0 Z none Z [] = some true) (ws : List Jvm.Cond) (h0 : Heap) (n0 : Nat) (O0 : Old Z n0 h0) :
    own_Met l Z (⟨"java/lang/Math", "min", "(II)I"⟩ : MethodName) (Jvm.Cond.code (⟨"java/lang/Math", "min", "(II)I"⟩ : MethodName) jdk_29_method_69_code 2 (some .int)) ws ({ frames := 0, cells := 0, slots := 0, locals := 0 } : Room) #[(.int (4 : Int32)), (.int (3 : Int32))] h0 (fun v h L => (v = some (.int (3 : Int32)) ∧ Fr n0 L ∧ h = h0)) := by
  refine own_met (own := "java/lang/Math") (Jvm.Free.JP.mathPlain rfl (by decide +kernel)) rfl ?_
  intro p e s m below meth c s₁ hx hby hml hown hnm hret hlk hZ e0 X0
  refine own_cast (g' := (mkF m 0 #[.val (.int (4 : Int32)), .val (.int (3 : Int32))] [])) (by first | (simp [entryFrame, mkF, argsToLocals, Value.category]; done) | rfl) ?_
  refine own_step (fun _ k => XS.iloadN X0.here hx rfl (hb hby d4_0) rfl k) ?_
  show own_Wp p e below _ s₁ (mkF m 1 #[.val (.int (4 : Int32)), .val (.int (3 : Int32))] [(.int (4 : Int32))])
  refine own_step (fun _ k => XS.iloadN X0.here hx rfl (hb hby d4_1) rfl k) ?_
  show own_Wp p e below _ s₁ (mkF m 2 #[.val (.int (4 : Int32)), .val (.int (3 : Int32))] [(.int (3 : Int32)), (.int (4 : Int32))])
  refine own_step (fun _ k => XS.icmpYes X0.here hx rfl (pc0 := 2) (pc' := 9) rfl (hb hby d4_2) rfl (by decide) (by decide) (by decide) k) ?_
  show own_Wp p e below _ s₁ (mkF m 9 #[.val (.int (4 : Int32)), .val (.int (3 : Int32))] [])
  refine own_step (fun _ k => XS.iloadN X0.here hx rfl (hb hby d4_9) rfl k) ?_
  show own_Wp p e below _ s₁ (mkF m 10 #[.val (.int (4 : Int32)), .val (.int (3 : Int32))] [(.int (3 : Int32))])
  exact own_retI X0 hx hret hlk (hb hby d4_10) (by decide) (by decide) (by rw [e0]; exact ⟨rfl, (Fr.nil n0), rfl⟩)

set_option maxRecDepth 65536 in
set_option maxHeartbeats 40000000 in
theorem rm5_90 (l : Launch) (Z : State) (a0 : Array Value) (hw : ∀ d ∈ tables_1, d.before a0 Z = true) (hA : ∀ d ∈ own_flat narrow_1, d.value a0 Z none Z [] = some true) (ws : List Jvm.Cond) (h0 : Heap) (n0 : Nat) (O0 : Old Z n0 h0) :
    own_Met l Z (⟨"java/lang/Math", "max", "(II)I"⟩ : MethodName) (Jvm.Cond.code (⟨"java/lang/Math", "max", "(II)I"⟩ : MethodName) jdk_29_method_65_code 2 (some .int)) ws ({ frames := 0, cells := 0, slots := 0, locals := 0 } : Room) #[(.int (4 : Int32)), (.int (3 : Int32))] h0 (fun v h L => (v = some (.int (4 : Int32)) ∧ Fr n0 L ∧ h = h0)) := by
  refine own_met (own := "java/lang/Math") (Jvm.Free.JP.mathPlain rfl (by decide +kernel)) rfl ?_
  intro p e s m below meth c s₁ hx hby hml hown hnm hret hlk hZ e0 X0
  refine own_cast (g' := (mkF m 0 #[.val (.int (4 : Int32)), .val (.int (3 : Int32))] [])) (by first | (simp [entryFrame, mkF, argsToLocals, Value.category]; done) | rfl) ?_
  refine own_step (fun _ k => XS.iloadN X0.here hx rfl (hb hby d5_0) rfl k) ?_
  show own_Wp p e below _ s₁ (mkF m 1 #[.val (.int (4 : Int32)), .val (.int (3 : Int32))] [(.int (4 : Int32))])
  refine own_step (fun _ k => XS.iloadN X0.here hx rfl (hb hby d5_1) rfl k) ?_
  show own_Wp p e below _ s₁ (mkF m 2 #[.val (.int (4 : Int32)), .val (.int (3 : Int32))] [(.int (3 : Int32)), (.int (4 : Int32))])
  refine own_step (fun _ k => XS.icmpNo X0.here hx rfl (hb hby d5_2) rfl (by decide) k) ?_
  show own_Wp p e below _ s₁ (mkF m 5 #[.val (.int (4 : Int32)), .val (.int (3 : Int32))] [])
  refine own_step (fun _ k => XS.iloadN X0.here hx rfl (hb hby d5_5) rfl k) ?_
  show own_Wp p e below _ s₁ (mkF m 6 #[.val (.int (4 : Int32)), .val (.int (3 : Int32))] [(.int (4 : Int32))])
  refine own_step (fun _ k => XS.goto X0.here hx rfl (pc0 := 6) (pc' := 10) rfl (hb hby d5_6) (by decide) (by decide) k) ?_
  show own_Wp p e below _ s₁ (mkF m 10 #[.val (.int (4 : Int32)), .val (.int (3 : Int32))] [(.int (4 : Int32))])
  exact own_retI X0 hx hret hlk (hb hby d5_10) (by decide) (by decide) (by rw [e0]; exact ⟨rfl, (Fr.nil n0), rfl⟩)

set_option maxRecDepth 65536 in
set_option maxHeartbeats 40000000 in
theorem rm3_91 (l : Launch) (Z : State) (a0 : Array Value) (hw : ∀ d ∈ tables_1, d.before a0 Z = true) (hA : ∀ d ∈ own_flat narrow_1, d.value a0 Z none Z [] = some true) (ws : List Jvm.Cond) (h0 : Heap) (n0 : Nat) (O0 : Old Z n0 h0) :
    own_Met l Z (⟨"com/example/pathfare/pathfare/alto/TypeIsCompatibleWithPinLaw", "expected", "(II)Z"⟩ : MethodName) (Jvm.Cond.code (⟨"com/example/pathfare/pathfare/alto/TypeIsCompatibleWithPinLaw", "expected", "(II)Z"⟩ : MethodName) method_3_code 4 (some .boolean)) ws ({ frames := 1, cells := 0, slots := 0, locals := 13 } : Room) #[(.int (4 : Int32)), (.int (3 : Int32))] h0 (fun v h L => (v = some (.int (0 : Int32)) ∧ Fr n0 L ∧ h = h0)) := by
  refine own_met (own := "com/example/pathfare/pathfare/alto/TypeIsCompatibleWithPinLaw") (plainFor_of_name pn0) rfl ?_
  intro p e s m below meth c s₁ hx hby hml hown hnm hret hlk hZ e0 X0
  refine own_cast (g' := (mkF m 0 #[.val (.int (4 : Int32)), .val (.int (3 : Int32)), .unset, .unset] [])) (by first | (simp [entryFrame, mkF, argsToLocals, Value.category]; done) | rfl) ?_
  refine own_step (fun _ k => XS.iloadN X0.here hx rfl (hb hby d3_0) rfl k) ?_
  show own_Wp p e below _ s₁ (mkF m 1 #[.val (.int (4 : Int32)), .val (.int (3 : Int32)), .unset, .unset] [(.int (4 : Int32))])
  refine own_step (fun _ k => XS.iloadN X0.here hx rfl (hb hby d3_1) rfl k) ?_
  show own_Wp p e below _ s₁ (mkF m 2 #[.val (.int (4 : Int32)), .val (.int (3 : Int32)), .unset, .unset] [(.int (3 : Int32)), (.int (4 : Int32))])
  refine own_step (fun _ k => XS.icmpYes X0.here hx rfl (pc0 := 2) (pc' := 7) rfl (hb hby d3_2) rfl (by decide) (by decide) (by decide) k) ?_
  show own_Wp p e below _ s₁ (mkF m 7 #[.val (.int (4 : Int32)), .val (.int (3 : Int32)), .unset, .unset] [])
  refine own_step (fun _ k => XS.iloadN X0.here hx rfl (hb hby d3_7) rfl k) ?_
  show own_Wp p e below _ s₁ (mkF m 8 #[.val (.int (4 : Int32)), .val (.int (3 : Int32)), .unset, .unset] [(.int (4 : Int32))])
  refine own_step (fun _ k => XS.iloadN X0.here hx rfl (hb hby d3_8) rfl k) ?_
  show own_Wp p e below _ s₁ (mkF m 9 #[.val (.int (4 : Int32)), .val (.int (3 : Int32)), .unset, .unset] [(.int (3 : Int32)), (.int (4 : Int32))])
  obtain ⟨_, T1, L1, X1, hQ1, st1⟩ := own_callS X0 hx hZ hown (hw _ (List.mem_of_getElem? (i := 20) rfl)) (hw _ (List.mem_of_getElem? (i := 21) rfl)) (hw _ (List.mem_of_getElem? (i := 22) rfl)) (hw _ (List.mem_of_getElem? (i := 23) rfl)) (by decide) (rm4_89 l Z a0 hw hA [] h0 n0 O0) (W := 0) (by decide) (by decide) [(.int (4 : Int32)), (.int (3 : Int32))] rfl (lenOf pd5 rfl) (Ls := #[.val (.int (4 : Int32)), .val (.int (3 : Int32)), .unset, .unset]) (by rw [hml]; rfl) (rest := []) (Nat.le_of_eq rfl) (hb hby d3_9) e0 (by decide) (by decide)
  refine st1 _ ?_
  obtain ⟨rfl, N1q, e1⟩ := hQ1
  have N1 := Fr.app (Fr.nil n0) N1q
  show own_Wp p e below _ T1 (mkF m 12 #[.val (.int (4 : Int32)), .val (.int (3 : Int32)), .unset, .unset] [(.int (3 : Int32))])
  refine own_step (fun _ k => XS.istoreN X1.here hx rfl (hb hby d3_12) rfl (l' := #[.val (.int (4 : Int32)), .val (.int (3 : Int32)), .val (.int (3 : Int32)), .unset]) rfl k) ?_
  show own_Wp p e below _ T1 (mkF m 13 #[.val (.int (4 : Int32)), .val (.int (3 : Int32)), .val (.int (3 : Int32)), .unset] [])
  refine own_step (fun _ k => XS.iloadN X1.here hx rfl (hb hby d3_13) rfl k) ?_
  show own_Wp p e below _ T1 (mkF m 14 #[.val (.int (4 : Int32)), .val (.int (3 : Int32)), .val (.int (3 : Int32)), .unset] [(.int (4 : Int32))])
  refine own_step (fun _ k => XS.iloadN X1.here hx rfl (hb hby d3_14) rfl k) ?_
  show own_Wp p e below _ T1 (mkF m 15 #[.val (.int (4 : Int32)), .val (.int (3 : Int32)), .val (.int (3 : Int32)), .unset] [(.int (3 : Int32)), (.int (4 : Int32))])
  obtain ⟨_, T2, L2, X2, hQ2, st2⟩ := own_callS X1 hx hZ hown (hw _ (List.mem_of_getElem? (i := 24) rfl)) (hw _ (List.mem_of_getElem? (i := 25) rfl)) (hw _ (List.mem_of_getElem? (i := 22) rfl)) (hw _ (List.mem_of_getElem? (i := 26) rfl)) (by decide) (rm5_90 l Z a0 hw hA [] h0 n0 O0) (W := 0) (by decide) (by decide) [(.int (4 : Int32)), (.int (3 : Int32))] rfl (lenOf pd5 rfl) (Ls := #[.val (.int (4 : Int32)), .val (.int (3 : Int32)), .val (.int (3 : Int32)), .unset]) (by rw [hml]; rfl) (rest := []) (Nat.le_of_eq rfl) (hb hby d3_15) e1 (by decide) (by decide)
  refine st2 _ ?_
  obtain ⟨rfl, N2q, e2⟩ := hQ2
  have N2 := Fr.app N1 N2q
  show own_Wp p e below _ T2 (mkF m 18 #[.val (.int (4 : Int32)), .val (.int (3 : Int32)), .val (.int (3 : Int32)), .unset] [(.int (4 : Int32))])
  refine own_step (fun _ k => XS.istoreN X2.here hx rfl (hb hby d3_18) rfl (l' := #[.val (.int (4 : Int32)), .val (.int (3 : Int32)), .val (.int (3 : Int32)), .val (.int (4 : Int32))]) rfl k) ?_
  show own_Wp p e below _ T2 (mkF m 19 #[.val (.int (4 : Int32)), .val (.int (3 : Int32)), .val (.int (3 : Int32)), .val (.int (4 : Int32))] [])
  refine own_step (fun _ k => XS.iloadN X2.here hx rfl (hb hby d3_19) rfl k) ?_
  show own_Wp p e below _ T2 (mkF m 20 #[.val (.int (4 : Int32)), .val (.int (3 : Int32)), .val (.int (3 : Int32)), .val (.int (4 : Int32))] [(.int (3 : Int32))])
  refine own_step (fun _ k => XS.ifYes X2.here hx rfl (pc0 := 20) (pc' := 39) rfl (hb hby d3_20) rfl (by decide) (by decide) (by decide) k) ?_
  show own_Wp p e below _ T2 (mkF m 39 #[.val (.int (4 : Int32)), .val (.int (3 : Int32)), .val (.int (3 : Int32)), .val (.int (4 : Int32))] [])
  refine own_step (fun _ k => XS.iloadN X2.here hx rfl (hb hby d3_39) rfl k) ?_
  show own_Wp p e below _ T2 (mkF m 40 #[.val (.int (4 : Int32)), .val (.int (3 : Int32)), .val (.int (3 : Int32)), .val (.int (4 : Int32))] [(.int (3 : Int32))])
  refine own_step (fun _ k => XS.iconst X2.here hx rfl (hb hby d3_40) k) ?_
  show own_Wp p e below _ T2 (mkF m 41 #[.val (.int (4 : Int32)), .val (.int (3 : Int32)), .val (.int (3 : Int32)), .val (.int (4 : Int32))] [(.int (1 : Int32)), (.int (3 : Int32))])
  refine own_step (fun _ k => XS.icmpYes X2.here hx rfl (pc0 := 41) (pc' := 60) rfl (hb hby d3_41) rfl (by decide) (by decide) (by decide) k) ?_
  show own_Wp p e below _ T2 (mkF m 60 #[.val (.int (4 : Int32)), .val (.int (3 : Int32)), .val (.int (3 : Int32)), .val (.int (4 : Int32))] [])
  refine own_step (fun _ k => XS.iconst X2.here hx rfl (hb hby d3_60) k) ?_
  show own_Wp p e below _ T2 (mkF m 61 #[.val (.int (4 : Int32)), .val (.int (3 : Int32)), .val (.int (3 : Int32)), .val (.int (4 : Int32))] [(.int (0 : Int32))])
  exact own_retN X2 hx (t := .boolean) hret (by simp) hlk (hb hby d3_61) (by decide) (by decide) (by rw [e2]; exact ⟨rfl, N2, rfl⟩)

set_option maxRecDepth 65536 in
set_option maxHeartbeats 40000000 in
theorem rm3_92 (l : Launch) (Z : State) (a0 : Array Value) (hw : ∀ d ∈ tables_1, d.before a0 Z = true) (hA : ∀ d ∈ own_flat narrow_1, d.value a0 Z none Z [] = some true) (ws : List Jvm.Cond) (h0 : Heap) (n0 : Nat) (O0 : Old Z n0 h0) :
    own_Met l Z (⟨"com/example/pathfare/pathfare/alto/TypeIsCompatibleWithPinLaw", "expected", "(II)Z"⟩ : MethodName) (Jvm.Cond.code (⟨"com/example/pathfare/pathfare/alto/TypeIsCompatibleWithPinLaw", "expected", "(II)Z"⟩ : MethodName) method_3_code 4 (some .boolean)) ws ({ frames := 0, cells := 0, slots := 0, locals := 0 } : Room) #[(.int (4 : Int32)), (.int (4 : Int32))] h0 (fun v h L => (v = some (.int (1 : Int32)) ∧ Fr n0 L ∧ h = h0)) := by
  refine own_met (own := "com/example/pathfare/pathfare/alto/TypeIsCompatibleWithPinLaw") (plainFor_of_name pn0) rfl ?_
  intro p e s m below meth c s₁ hx hby hml hown hnm hret hlk hZ e0 X0
  refine own_cast (g' := (mkF m 0 #[.val (.int (4 : Int32)), .val (.int (4 : Int32)), .unset, .unset] [])) (by first | (simp [entryFrame, mkF, argsToLocals, Value.category]; done) | rfl) ?_
  refine own_step (fun _ k => XS.iloadN X0.here hx rfl (hb hby d3_0) rfl k) ?_
  show own_Wp p e below _ s₁ (mkF m 1 #[.val (.int (4 : Int32)), .val (.int (4 : Int32)), .unset, .unset] [(.int (4 : Int32))])
  refine own_step (fun _ k => XS.iloadN X0.here hx rfl (hb hby d3_1) rfl k) ?_
  show own_Wp p e below _ s₁ (mkF m 2 #[.val (.int (4 : Int32)), .val (.int (4 : Int32)), .unset, .unset] [(.int (4 : Int32)), (.int (4 : Int32))])
  refine own_step (fun _ k => XS.icmpNo X0.here hx rfl (hb hby d3_2) rfl (by decide) k) ?_
  show own_Wp p e below _ s₁ (mkF m 5 #[.val (.int (4 : Int32)), .val (.int (4 : Int32)), .unset, .unset] [])
  refine own_step (fun _ k => XS.iconst X0.here hx rfl (hb hby d3_5) k) ?_
  show own_Wp p e below _ s₁ (mkF m 6 #[.val (.int (4 : Int32)), .val (.int (4 : Int32)), .unset, .unset] [(.int (1 : Int32))])
  exact own_retN X0 hx (t := .boolean) hret (by simp) hlk (hb hby d3_6) (by decide) (by decide) (by rw [e0]; exact ⟨rfl, (Fr.nil n0), rfl⟩)

set_option maxRecDepth 65536 in
set_option maxHeartbeats 40000000 in
theorem rm4_93 (l : Launch) (Z : State) (a0 : Array Value) (hw : ∀ d ∈ tables_1, d.before a0 Z = true) (hA : ∀ d ∈ own_flat narrow_1, d.value a0 Z none Z [] = some true) (ws : List Jvm.Cond) (h0 : Heap) (n0 : Nat) (O0 : Old Z n0 h0) :
    own_Met l Z (⟨"java/lang/Math", "min", "(II)I"⟩ : MethodName) (Jvm.Cond.code (⟨"java/lang/Math", "min", "(II)I"⟩ : MethodName) jdk_29_method_69_code 2 (some .int)) ws ({ frames := 0, cells := 0, slots := 0, locals := 0 } : Room) #[(.int (4 : Int32)), (.int (5 : Int32))] h0 (fun v h L => (v = some (.int (4 : Int32)) ∧ Fr n0 L ∧ h = h0)) := by
  refine own_met (own := "java/lang/Math") (Jvm.Free.JP.mathPlain rfl (by decide +kernel)) rfl ?_
  intro p e s m below meth c s₁ hx hby hml hown hnm hret hlk hZ e0 X0
  refine own_cast (g' := (mkF m 0 #[.val (.int (4 : Int32)), .val (.int (5 : Int32))] [])) (by first | (simp [entryFrame, mkF, argsToLocals, Value.category]; done) | rfl) ?_
  refine own_step (fun _ k => XS.iloadN X0.here hx rfl (hb hby d4_0) rfl k) ?_
  show own_Wp p e below _ s₁ (mkF m 1 #[.val (.int (4 : Int32)), .val (.int (5 : Int32))] [(.int (4 : Int32))])
  refine own_step (fun _ k => XS.iloadN X0.here hx rfl (hb hby d4_1) rfl k) ?_
  show own_Wp p e below _ s₁ (mkF m 2 #[.val (.int (4 : Int32)), .val (.int (5 : Int32))] [(.int (5 : Int32)), (.int (4 : Int32))])
  refine own_step (fun _ k => XS.icmpNo X0.here hx rfl (hb hby d4_2) rfl (by decide) k) ?_
  show own_Wp p e below _ s₁ (mkF m 5 #[.val (.int (4 : Int32)), .val (.int (5 : Int32))] [])
  refine own_step (fun _ k => XS.iloadN X0.here hx rfl (hb hby d4_5) rfl k) ?_
  show own_Wp p e below _ s₁ (mkF m 6 #[.val (.int (4 : Int32)), .val (.int (5 : Int32))] [(.int (4 : Int32))])
  refine own_step (fun _ k => XS.goto X0.here hx rfl (pc0 := 6) (pc' := 10) rfl (hb hby d4_6) (by decide) (by decide) k) ?_
  show own_Wp p e below _ s₁ (mkF m 10 #[.val (.int (4 : Int32)), .val (.int (5 : Int32))] [(.int (4 : Int32))])
  exact own_retI X0 hx hret hlk (hb hby d4_10) (by decide) (by decide) (by rw [e0]; exact ⟨rfl, (Fr.nil n0), rfl⟩)

set_option maxRecDepth 65536 in
set_option maxHeartbeats 40000000 in
theorem rm5_94 (l : Launch) (Z : State) (a0 : Array Value) (hw : ∀ d ∈ tables_1, d.before a0 Z = true) (hA : ∀ d ∈ own_flat narrow_1, d.value a0 Z none Z [] = some true) (ws : List Jvm.Cond) (h0 : Heap) (n0 : Nat) (O0 : Old Z n0 h0) :
    own_Met l Z (⟨"java/lang/Math", "max", "(II)I"⟩ : MethodName) (Jvm.Cond.code (⟨"java/lang/Math", "max", "(II)I"⟩ : MethodName) jdk_29_method_65_code 2 (some .int)) ws ({ frames := 0, cells := 0, slots := 0, locals := 0 } : Room) #[(.int (4 : Int32)), (.int (5 : Int32))] h0 (fun v h L => (v = some (.int (5 : Int32)) ∧ Fr n0 L ∧ h = h0)) := by
  refine own_met (own := "java/lang/Math") (Jvm.Free.JP.mathPlain rfl (by decide +kernel)) rfl ?_
  intro p e s m below meth c s₁ hx hby hml hown hnm hret hlk hZ e0 X0
  refine own_cast (g' := (mkF m 0 #[.val (.int (4 : Int32)), .val (.int (5 : Int32))] [])) (by first | (simp [entryFrame, mkF, argsToLocals, Value.category]; done) | rfl) ?_
  refine own_step (fun _ k => XS.iloadN X0.here hx rfl (hb hby d5_0) rfl k) ?_
  show own_Wp p e below _ s₁ (mkF m 1 #[.val (.int (4 : Int32)), .val (.int (5 : Int32))] [(.int (4 : Int32))])
  refine own_step (fun _ k => XS.iloadN X0.here hx rfl (hb hby d5_1) rfl k) ?_
  show own_Wp p e below _ s₁ (mkF m 2 #[.val (.int (4 : Int32)), .val (.int (5 : Int32))] [(.int (5 : Int32)), (.int (4 : Int32))])
  refine own_step (fun _ k => XS.icmpYes X0.here hx rfl (pc0 := 2) (pc' := 9) rfl (hb hby d5_2) rfl (by decide) (by decide) (by decide) k) ?_
  show own_Wp p e below _ s₁ (mkF m 9 #[.val (.int (4 : Int32)), .val (.int (5 : Int32))] [])
  refine own_step (fun _ k => XS.iloadN X0.here hx rfl (hb hby d5_9) rfl k) ?_
  show own_Wp p e below _ s₁ (mkF m 10 #[.val (.int (4 : Int32)), .val (.int (5 : Int32))] [(.int (5 : Int32))])
  exact own_retI X0 hx hret hlk (hb hby d5_10) (by decide) (by decide) (by rw [e0]; exact ⟨rfl, (Fr.nil n0), rfl⟩)

set_option maxRecDepth 65536 in
set_option maxHeartbeats 40000000 in
theorem rm3_95 (l : Launch) (Z : State) (a0 : Array Value) (hw : ∀ d ∈ tables_1, d.before a0 Z = true) (hA : ∀ d ∈ own_flat narrow_1, d.value a0 Z none Z [] = some true) (ws : List Jvm.Cond) (h0 : Heap) (n0 : Nat) (O0 : Old Z n0 h0) :
    own_Met l Z (⟨"com/example/pathfare/pathfare/alto/TypeIsCompatibleWithPinLaw", "expected", "(II)Z"⟩ : MethodName) (Jvm.Cond.code (⟨"com/example/pathfare/pathfare/alto/TypeIsCompatibleWithPinLaw", "expected", "(II)Z"⟩ : MethodName) method_3_code 4 (some .boolean)) ws ({ frames := 1, cells := 0, slots := 0, locals := 13 } : Room) #[(.int (4 : Int32)), (.int (5 : Int32))] h0 (fun v h L => (v = some (.int (0 : Int32)) ∧ Fr n0 L ∧ h = h0)) := by
  refine own_met (own := "com/example/pathfare/pathfare/alto/TypeIsCompatibleWithPinLaw") (plainFor_of_name pn0) rfl ?_
  intro p e s m below meth c s₁ hx hby hml hown hnm hret hlk hZ e0 X0
  refine own_cast (g' := (mkF m 0 #[.val (.int (4 : Int32)), .val (.int (5 : Int32)), .unset, .unset] [])) (by first | (simp [entryFrame, mkF, argsToLocals, Value.category]; done) | rfl) ?_
  refine own_step (fun _ k => XS.iloadN X0.here hx rfl (hb hby d3_0) rfl k) ?_
  show own_Wp p e below _ s₁ (mkF m 1 #[.val (.int (4 : Int32)), .val (.int (5 : Int32)), .unset, .unset] [(.int (4 : Int32))])
  refine own_step (fun _ k => XS.iloadN X0.here hx rfl (hb hby d3_1) rfl k) ?_
  show own_Wp p e below _ s₁ (mkF m 2 #[.val (.int (4 : Int32)), .val (.int (5 : Int32)), .unset, .unset] [(.int (5 : Int32)), (.int (4 : Int32))])
  refine own_step (fun _ k => XS.icmpYes X0.here hx rfl (pc0 := 2) (pc' := 7) rfl (hb hby d3_2) rfl (by decide) (by decide) (by decide) k) ?_
  show own_Wp p e below _ s₁ (mkF m 7 #[.val (.int (4 : Int32)), .val (.int (5 : Int32)), .unset, .unset] [])
  refine own_step (fun _ k => XS.iloadN X0.here hx rfl (hb hby d3_7) rfl k) ?_
  show own_Wp p e below _ s₁ (mkF m 8 #[.val (.int (4 : Int32)), .val (.int (5 : Int32)), .unset, .unset] [(.int (4 : Int32))])
  refine own_step (fun _ k => XS.iloadN X0.here hx rfl (hb hby d3_8) rfl k) ?_
  show own_Wp p e below _ s₁ (mkF m 9 #[.val (.int (4 : Int32)), .val (.int (5 : Int32)), .unset, .unset] [(.int (5 : Int32)), (.int (4 : Int32))])
  obtain ⟨_, T1, L1, X1, hQ1, st1⟩ := own_callS X0 hx hZ hown (hw _ (List.mem_of_getElem? (i := 20) rfl)) (hw _ (List.mem_of_getElem? (i := 21) rfl)) (hw _ (List.mem_of_getElem? (i := 22) rfl)) (hw _ (List.mem_of_getElem? (i := 23) rfl)) (by decide) (rm4_93 l Z a0 hw hA [] h0 n0 O0) (W := 0) (by decide) (by decide) [(.int (4 : Int32)), (.int (5 : Int32))] rfl (lenOf pd5 rfl) (Ls := #[.val (.int (4 : Int32)), .val (.int (5 : Int32)), .unset, .unset]) (by rw [hml]; rfl) (rest := []) (Nat.le_of_eq rfl) (hb hby d3_9) e0 (by decide) (by decide)
  refine st1 _ ?_
  obtain ⟨rfl, N1q, e1⟩ := hQ1
  have N1 := Fr.app (Fr.nil n0) N1q
  show own_Wp p e below _ T1 (mkF m 12 #[.val (.int (4 : Int32)), .val (.int (5 : Int32)), .unset, .unset] [(.int (4 : Int32))])
  refine own_step (fun _ k => XS.istoreN X1.here hx rfl (hb hby d3_12) rfl (l' := #[.val (.int (4 : Int32)), .val (.int (5 : Int32)), .val (.int (4 : Int32)), .unset]) rfl k) ?_
  show own_Wp p e below _ T1 (mkF m 13 #[.val (.int (4 : Int32)), .val (.int (5 : Int32)), .val (.int (4 : Int32)), .unset] [])
  refine own_step (fun _ k => XS.iloadN X1.here hx rfl (hb hby d3_13) rfl k) ?_
  show own_Wp p e below _ T1 (mkF m 14 #[.val (.int (4 : Int32)), .val (.int (5 : Int32)), .val (.int (4 : Int32)), .unset] [(.int (4 : Int32))])
  refine own_step (fun _ k => XS.iloadN X1.here hx rfl (hb hby d3_14) rfl k) ?_
  show own_Wp p e below _ T1 (mkF m 15 #[.val (.int (4 : Int32)), .val (.int (5 : Int32)), .val (.int (4 : Int32)), .unset] [(.int (5 : Int32)), (.int (4 : Int32))])
  obtain ⟨_, T2, L2, X2, hQ2, st2⟩ := own_callS X1 hx hZ hown (hw _ (List.mem_of_getElem? (i := 24) rfl)) (hw _ (List.mem_of_getElem? (i := 25) rfl)) (hw _ (List.mem_of_getElem? (i := 22) rfl)) (hw _ (List.mem_of_getElem? (i := 26) rfl)) (by decide) (rm5_94 l Z a0 hw hA [] h0 n0 O0) (W := 0) (by decide) (by decide) [(.int (4 : Int32)), (.int (5 : Int32))] rfl (lenOf pd5 rfl) (Ls := #[.val (.int (4 : Int32)), .val (.int (5 : Int32)), .val (.int (4 : Int32)), .unset]) (by rw [hml]; rfl) (rest := []) (Nat.le_of_eq rfl) (hb hby d3_15) e1 (by decide) (by decide)
  refine st2 _ ?_
  obtain ⟨rfl, N2q, e2⟩ := hQ2
  have N2 := Fr.app N1 N2q
  show own_Wp p e below _ T2 (mkF m 18 #[.val (.int (4 : Int32)), .val (.int (5 : Int32)), .val (.int (4 : Int32)), .unset] [(.int (5 : Int32))])
  refine own_step (fun _ k => XS.istoreN X2.here hx rfl (hb hby d3_18) rfl (l' := #[.val (.int (4 : Int32)), .val (.int (5 : Int32)), .val (.int (4 : Int32)), .val (.int (5 : Int32))]) rfl k) ?_
  show own_Wp p e below _ T2 (mkF m 19 #[.val (.int (4 : Int32)), .val (.int (5 : Int32)), .val (.int (4 : Int32)), .val (.int (5 : Int32))] [])
  refine own_step (fun _ k => XS.iloadN X2.here hx rfl (hb hby d3_19) rfl k) ?_
  show own_Wp p e below _ T2 (mkF m 20 #[.val (.int (4 : Int32)), .val (.int (5 : Int32)), .val (.int (4 : Int32)), .val (.int (5 : Int32))] [(.int (4 : Int32))])
  refine own_step (fun _ k => XS.ifYes X2.here hx rfl (pc0 := 20) (pc' := 39) rfl (hb hby d3_20) rfl (by decide) (by decide) (by decide) k) ?_
  show own_Wp p e below _ T2 (mkF m 39 #[.val (.int (4 : Int32)), .val (.int (5 : Int32)), .val (.int (4 : Int32)), .val (.int (5 : Int32))] [])
  refine own_step (fun _ k => XS.iloadN X2.here hx rfl (hb hby d3_39) rfl k) ?_
  show own_Wp p e below _ T2 (mkF m 40 #[.val (.int (4 : Int32)), .val (.int (5 : Int32)), .val (.int (4 : Int32)), .val (.int (5 : Int32))] [(.int (4 : Int32))])
  refine own_step (fun _ k => XS.iconst X2.here hx rfl (hb hby d3_40) k) ?_
  show own_Wp p e below _ T2 (mkF m 41 #[.val (.int (4 : Int32)), .val (.int (5 : Int32)), .val (.int (4 : Int32)), .val (.int (5 : Int32))] [(.int (1 : Int32)), (.int (4 : Int32))])
  refine own_step (fun _ k => XS.icmpYes X2.here hx rfl (pc0 := 41) (pc' := 60) rfl (hb hby d3_41) rfl (by decide) (by decide) (by decide) k) ?_
  show own_Wp p e below _ T2 (mkF m 60 #[.val (.int (4 : Int32)), .val (.int (5 : Int32)), .val (.int (4 : Int32)), .val (.int (5 : Int32))] [])
  refine own_step (fun _ k => XS.iconst X2.here hx rfl (hb hby d3_60) k) ?_
  show own_Wp p e below _ T2 (mkF m 61 #[.val (.int (4 : Int32)), .val (.int (5 : Int32)), .val (.int (4 : Int32)), .val (.int (5 : Int32))] [(.int (0 : Int32))])
  exact own_retN X2 hx (t := .boolean) hret (by simp) hlk (hb hby d3_61) (by decide) (by decide) (by rw [e2]; exact ⟨rfl, N2, rfl⟩)

set_option maxRecDepth 65536 in
set_option maxHeartbeats 40000000 in
theorem rm4_96 (l : Launch) (Z : State) (a0 : Array Value) (hw : ∀ d ∈ tables_1, d.before a0 Z = true) (hA : ∀ d ∈ own_flat narrow_1, d.value a0 Z none Z [] = some true) (ws : List Jvm.Cond) (h0 : Heap) (n0 : Nat) (O0 : Old Z n0 h0) :
    own_Met l Z (⟨"java/lang/Math", "min", "(II)I"⟩ : MethodName) (Jvm.Cond.code (⟨"java/lang/Math", "min", "(II)I"⟩ : MethodName) jdk_29_method_69_code 2 (some .int)) ws ({ frames := 0, cells := 0, slots := 0, locals := 0 } : Room) #[(.int (5 : Int32)), (.int (0 : Int32))] h0 (fun v h L => (v = some (.int (0 : Int32)) ∧ Fr n0 L ∧ h = h0)) := by
  refine own_met (own := "java/lang/Math") (Jvm.Free.JP.mathPlain rfl (by decide +kernel)) rfl ?_
  intro p e s m below meth c s₁ hx hby hml hown hnm hret hlk hZ e0 X0
  refine own_cast (g' := (mkF m 0 #[.val (.int (5 : Int32)), .val (.int (0 : Int32))] [])) (by first | (simp [entryFrame, mkF, argsToLocals, Value.category]; done) | rfl) ?_
  refine own_step (fun _ k => XS.iloadN X0.here hx rfl (hb hby d4_0) rfl k) ?_
  show own_Wp p e below _ s₁ (mkF m 1 #[.val (.int (5 : Int32)), .val (.int (0 : Int32))] [(.int (5 : Int32))])
  refine own_step (fun _ k => XS.iloadN X0.here hx rfl (hb hby d4_1) rfl k) ?_
  show own_Wp p e below _ s₁ (mkF m 2 #[.val (.int (5 : Int32)), .val (.int (0 : Int32))] [(.int (0 : Int32)), (.int (5 : Int32))])
  refine own_step (fun _ k => XS.icmpYes X0.here hx rfl (pc0 := 2) (pc' := 9) rfl (hb hby d4_2) rfl (by decide) (by decide) (by decide) k) ?_
  show own_Wp p e below _ s₁ (mkF m 9 #[.val (.int (5 : Int32)), .val (.int (0 : Int32))] [])
  refine own_step (fun _ k => XS.iloadN X0.here hx rfl (hb hby d4_9) rfl k) ?_
  show own_Wp p e below _ s₁ (mkF m 10 #[.val (.int (5 : Int32)), .val (.int (0 : Int32))] [(.int (0 : Int32))])
  exact own_retI X0 hx hret hlk (hb hby d4_10) (by decide) (by decide) (by rw [e0]; exact ⟨rfl, (Fr.nil n0), rfl⟩)

set_option maxRecDepth 65536 in
set_option maxHeartbeats 40000000 in
theorem rm5_97 (l : Launch) (Z : State) (a0 : Array Value) (hw : ∀ d ∈ tables_1, d.before a0 Z = true) (hA : ∀ d ∈ own_flat narrow_1, d.value a0 Z none Z [] = some true) (ws : List Jvm.Cond) (h0 : Heap) (n0 : Nat) (O0 : Old Z n0 h0) :
    own_Met l Z (⟨"java/lang/Math", "max", "(II)I"⟩ : MethodName) (Jvm.Cond.code (⟨"java/lang/Math", "max", "(II)I"⟩ : MethodName) jdk_29_method_65_code 2 (some .int)) ws ({ frames := 0, cells := 0, slots := 0, locals := 0 } : Room) #[(.int (5 : Int32)), (.int (0 : Int32))] h0 (fun v h L => (v = some (.int (5 : Int32)) ∧ Fr n0 L ∧ h = h0)) := by
  refine own_met (own := "java/lang/Math") (Jvm.Free.JP.mathPlain rfl (by decide +kernel)) rfl ?_
  intro p e s m below meth c s₁ hx hby hml hown hnm hret hlk hZ e0 X0
  refine own_cast (g' := (mkF m 0 #[.val (.int (5 : Int32)), .val (.int (0 : Int32))] [])) (by first | (simp [entryFrame, mkF, argsToLocals, Value.category]; done) | rfl) ?_
  refine own_step (fun _ k => XS.iloadN X0.here hx rfl (hb hby d5_0) rfl k) ?_
  show own_Wp p e below _ s₁ (mkF m 1 #[.val (.int (5 : Int32)), .val (.int (0 : Int32))] [(.int (5 : Int32))])
  refine own_step (fun _ k => XS.iloadN X0.here hx rfl (hb hby d5_1) rfl k) ?_
  show own_Wp p e below _ s₁ (mkF m 2 #[.val (.int (5 : Int32)), .val (.int (0 : Int32))] [(.int (0 : Int32)), (.int (5 : Int32))])
  refine own_step (fun _ k => XS.icmpNo X0.here hx rfl (hb hby d5_2) rfl (by decide) k) ?_
  show own_Wp p e below _ s₁ (mkF m 5 #[.val (.int (5 : Int32)), .val (.int (0 : Int32))] [])
  refine own_step (fun _ k => XS.iloadN X0.here hx rfl (hb hby d5_5) rfl k) ?_
  show own_Wp p e below _ s₁ (mkF m 6 #[.val (.int (5 : Int32)), .val (.int (0 : Int32))] [(.int (5 : Int32))])
  refine own_step (fun _ k => XS.goto X0.here hx rfl (pc0 := 6) (pc' := 10) rfl (hb hby d5_6) (by decide) (by decide) k) ?_
  show own_Wp p e below _ s₁ (mkF m 10 #[.val (.int (5 : Int32)), .val (.int (0 : Int32))] [(.int (5 : Int32))])
  exact own_retI X0 hx hret hlk (hb hby d5_10) (by decide) (by decide) (by rw [e0]; exact ⟨rfl, (Fr.nil n0), rfl⟩)

set_option maxRecDepth 65536 in
set_option maxHeartbeats 40000000 in
theorem rm3_98 (l : Launch) (Z : State) (a0 : Array Value) (hw : ∀ d ∈ tables_1, d.before a0 Z = true) (hA : ∀ d ∈ own_flat narrow_1, d.value a0 Z none Z [] = some true) (ws : List Jvm.Cond) (h0 : Heap) (n0 : Nat) (O0 : Old Z n0 h0) :
    own_Met l Z (⟨"com/example/pathfare/pathfare/alto/TypeIsCompatibleWithPinLaw", "expected", "(II)Z"⟩ : MethodName) (Jvm.Cond.code (⟨"com/example/pathfare/pathfare/alto/TypeIsCompatibleWithPinLaw", "expected", "(II)Z"⟩ : MethodName) method_3_code 4 (some .boolean)) ws ({ frames := 1, cells := 0, slots := 0, locals := 13 } : Room) #[(.int (5 : Int32)), (.int (0 : Int32))] h0 (fun v h L => (v = some (.int (0 : Int32)) ∧ Fr n0 L ∧ h = h0)) := by
  refine own_met (own := "com/example/pathfare/pathfare/alto/TypeIsCompatibleWithPinLaw") (plainFor_of_name pn0) rfl ?_
  intro p e s m below meth c s₁ hx hby hml hown hnm hret hlk hZ e0 X0
  refine own_cast (g' := (mkF m 0 #[.val (.int (5 : Int32)), .val (.int (0 : Int32)), .unset, .unset] [])) (by first | (simp [entryFrame, mkF, argsToLocals, Value.category]; done) | rfl) ?_
  refine own_step (fun _ k => XS.iloadN X0.here hx rfl (hb hby d3_0) rfl k) ?_
  show own_Wp p e below _ s₁ (mkF m 1 #[.val (.int (5 : Int32)), .val (.int (0 : Int32)), .unset, .unset] [(.int (5 : Int32))])
  refine own_step (fun _ k => XS.iloadN X0.here hx rfl (hb hby d3_1) rfl k) ?_
  show own_Wp p e below _ s₁ (mkF m 2 #[.val (.int (5 : Int32)), .val (.int (0 : Int32)), .unset, .unset] [(.int (0 : Int32)), (.int (5 : Int32))])
  refine own_step (fun _ k => XS.icmpYes X0.here hx rfl (pc0 := 2) (pc' := 7) rfl (hb hby d3_2) rfl (by decide) (by decide) (by decide) k) ?_
  show own_Wp p e below _ s₁ (mkF m 7 #[.val (.int (5 : Int32)), .val (.int (0 : Int32)), .unset, .unset] [])
  refine own_step (fun _ k => XS.iloadN X0.here hx rfl (hb hby d3_7) rfl k) ?_
  show own_Wp p e below _ s₁ (mkF m 8 #[.val (.int (5 : Int32)), .val (.int (0 : Int32)), .unset, .unset] [(.int (5 : Int32))])
  refine own_step (fun _ k => XS.iloadN X0.here hx rfl (hb hby d3_8) rfl k) ?_
  show own_Wp p e below _ s₁ (mkF m 9 #[.val (.int (5 : Int32)), .val (.int (0 : Int32)), .unset, .unset] [(.int (0 : Int32)), (.int (5 : Int32))])
  obtain ⟨_, T1, L1, X1, hQ1, st1⟩ := own_callS X0 hx hZ hown (hw _ (List.mem_of_getElem? (i := 20) rfl)) (hw _ (List.mem_of_getElem? (i := 21) rfl)) (hw _ (List.mem_of_getElem? (i := 22) rfl)) (hw _ (List.mem_of_getElem? (i := 23) rfl)) (by decide) (rm4_96 l Z a0 hw hA [] h0 n0 O0) (W := 0) (by decide) (by decide) [(.int (5 : Int32)), (.int (0 : Int32))] rfl (lenOf pd5 rfl) (Ls := #[.val (.int (5 : Int32)), .val (.int (0 : Int32)), .unset, .unset]) (by rw [hml]; rfl) (rest := []) (Nat.le_of_eq rfl) (hb hby d3_9) e0 (by decide) (by decide)
  refine st1 _ ?_
  obtain ⟨rfl, N1q, e1⟩ := hQ1
  have N1 := Fr.app (Fr.nil n0) N1q
  show own_Wp p e below _ T1 (mkF m 12 #[.val (.int (5 : Int32)), .val (.int (0 : Int32)), .unset, .unset] [(.int (0 : Int32))])
  refine own_step (fun _ k => XS.istoreN X1.here hx rfl (hb hby d3_12) rfl (l' := #[.val (.int (5 : Int32)), .val (.int (0 : Int32)), .val (.int (0 : Int32)), .unset]) rfl k) ?_
  show own_Wp p e below _ T1 (mkF m 13 #[.val (.int (5 : Int32)), .val (.int (0 : Int32)), .val (.int (0 : Int32)), .unset] [])
  refine own_step (fun _ k => XS.iloadN X1.here hx rfl (hb hby d3_13) rfl k) ?_
  show own_Wp p e below _ T1 (mkF m 14 #[.val (.int (5 : Int32)), .val (.int (0 : Int32)), .val (.int (0 : Int32)), .unset] [(.int (5 : Int32))])
  refine own_step (fun _ k => XS.iloadN X1.here hx rfl (hb hby d3_14) rfl k) ?_
  show own_Wp p e below _ T1 (mkF m 15 #[.val (.int (5 : Int32)), .val (.int (0 : Int32)), .val (.int (0 : Int32)), .unset] [(.int (0 : Int32)), (.int (5 : Int32))])
  obtain ⟨_, T2, L2, X2, hQ2, st2⟩ := own_callS X1 hx hZ hown (hw _ (List.mem_of_getElem? (i := 24) rfl)) (hw _ (List.mem_of_getElem? (i := 25) rfl)) (hw _ (List.mem_of_getElem? (i := 22) rfl)) (hw _ (List.mem_of_getElem? (i := 26) rfl)) (by decide) (rm5_97 l Z a0 hw hA [] h0 n0 O0) (W := 0) (by decide) (by decide) [(.int (5 : Int32)), (.int (0 : Int32))] rfl (lenOf pd5 rfl) (Ls := #[.val (.int (5 : Int32)), .val (.int (0 : Int32)), .val (.int (0 : Int32)), .unset]) (by rw [hml]; rfl) (rest := []) (Nat.le_of_eq rfl) (hb hby d3_15) e1 (by decide) (by decide)
  refine st2 _ ?_
  obtain ⟨rfl, N2q, e2⟩ := hQ2
  have N2 := Fr.app N1 N2q
  show own_Wp p e below _ T2 (mkF m 18 #[.val (.int (5 : Int32)), .val (.int (0 : Int32)), .val (.int (0 : Int32)), .unset] [(.int (5 : Int32))])
  refine own_step (fun _ k => XS.istoreN X2.here hx rfl (hb hby d3_18) rfl (l' := #[.val (.int (5 : Int32)), .val (.int (0 : Int32)), .val (.int (0 : Int32)), .val (.int (5 : Int32))]) rfl k) ?_
  show own_Wp p e below _ T2 (mkF m 19 #[.val (.int (5 : Int32)), .val (.int (0 : Int32)), .val (.int (0 : Int32)), .val (.int (5 : Int32))] [])
  refine own_step (fun _ k => XS.iloadN X2.here hx rfl (hb hby d3_19) rfl k) ?_
  show own_Wp p e below _ T2 (mkF m 20 #[.val (.int (5 : Int32)), .val (.int (0 : Int32)), .val (.int (0 : Int32)), .val (.int (5 : Int32))] [(.int (0 : Int32))])
  refine own_step (fun _ k => XS.ifNo X2.here hx rfl (hb hby d3_20) rfl (by decide) k) ?_
  show own_Wp p e below _ T2 (mkF m 23 #[.val (.int (5 : Int32)), .val (.int (0 : Int32)), .val (.int (0 : Int32)), .val (.int (5 : Int32))] [])
  refine own_step (fun _ k => XS.iloadN X2.here hx rfl (hb hby d3_23) rfl k) ?_
  show own_Wp p e below _ T2 (mkF m 24 #[.val (.int (5 : Int32)), .val (.int (0 : Int32)), .val (.int (0 : Int32)), .val (.int (5 : Int32))] [(.int (5 : Int32))])
  refine own_step (fun _ k => XS.iconst X2.here hx rfl (hb hby d3_24) k) ?_
  show own_Wp p e below _ T2 (mkF m 25 #[.val (.int (5 : Int32)), .val (.int (0 : Int32)), .val (.int (0 : Int32)), .val (.int (5 : Int32))] [(.int (2 : Int32)), (.int (5 : Int32))])
  refine own_step (fun _ k => XS.icmpNo X2.here hx rfl (hb hby d3_25) rfl (by decide) k) ?_
  show own_Wp p e below _ T2 (mkF m 28 #[.val (.int (5 : Int32)), .val (.int (0 : Int32)), .val (.int (0 : Int32)), .val (.int (5 : Int32))] [])
  refine own_step (fun _ k => XS.iloadN X2.here hx rfl (hb hby d3_28) rfl k) ?_
  show own_Wp p e below _ T2 (mkF m 29 #[.val (.int (5 : Int32)), .val (.int (0 : Int32)), .val (.int (0 : Int32)), .val (.int (5 : Int32))] [(.int (5 : Int32))])
  refine own_step (fun _ k => XS.iconst X2.here hx rfl (hb hby d3_29) k) ?_
  show own_Wp p e below _ T2 (mkF m 30 #[.val (.int (5 : Int32)), .val (.int (0 : Int32)), .val (.int (0 : Int32)), .val (.int (5 : Int32))] [(.int (4 : Int32)), (.int (5 : Int32))])
  refine own_step (fun _ k => XS.icmpYes X2.here hx rfl (pc0 := 30) (pc' := 37) rfl (hb hby d3_30) rfl (by decide) (by decide) (by decide) k) ?_
  show own_Wp p e below _ T2 (mkF m 37 #[.val (.int (5 : Int32)), .val (.int (0 : Int32)), .val (.int (0 : Int32)), .val (.int (5 : Int32))] [])
  refine own_step (fun _ k => XS.iconst X2.here hx rfl (hb hby d3_37) k) ?_
  show own_Wp p e below _ T2 (mkF m 38 #[.val (.int (5 : Int32)), .val (.int (0 : Int32)), .val (.int (0 : Int32)), .val (.int (5 : Int32))] [(.int (0 : Int32))])
  exact own_retN X2 hx (t := .boolean) hret (by simp) hlk (hb hby d3_38) (by decide) (by decide) (by rw [e2]; exact ⟨rfl, N2, rfl⟩)

set_option maxRecDepth 65536 in
set_option maxHeartbeats 40000000 in
theorem rm4_99 (l : Launch) (Z : State) (a0 : Array Value) (hw : ∀ d ∈ tables_1, d.before a0 Z = true) (hA : ∀ d ∈ own_flat narrow_1, d.value a0 Z none Z [] = some true) (ws : List Jvm.Cond) (h0 : Heap) (n0 : Nat) (O0 : Old Z n0 h0) :
    own_Met l Z (⟨"java/lang/Math", "min", "(II)I"⟩ : MethodName) (Jvm.Cond.code (⟨"java/lang/Math", "min", "(II)I"⟩ : MethodName) jdk_29_method_69_code 2 (some .int)) ws ({ frames := 0, cells := 0, slots := 0, locals := 0 } : Room) #[(.int (5 : Int32)), (.int (1 : Int32))] h0 (fun v h L => (v = some (.int (1 : Int32)) ∧ Fr n0 L ∧ h = h0)) := by
  refine own_met (own := "java/lang/Math") (Jvm.Free.JP.mathPlain rfl (by decide +kernel)) rfl ?_
  intro p e s m below meth c s₁ hx hby hml hown hnm hret hlk hZ e0 X0
  refine own_cast (g' := (mkF m 0 #[.val (.int (5 : Int32)), .val (.int (1 : Int32))] [])) (by first | (simp [entryFrame, mkF, argsToLocals, Value.category]; done) | rfl) ?_
  refine own_step (fun _ k => XS.iloadN X0.here hx rfl (hb hby d4_0) rfl k) ?_
  show own_Wp p e below _ s₁ (mkF m 1 #[.val (.int (5 : Int32)), .val (.int (1 : Int32))] [(.int (5 : Int32))])
  refine own_step (fun _ k => XS.iloadN X0.here hx rfl (hb hby d4_1) rfl k) ?_
  show own_Wp p e below _ s₁ (mkF m 2 #[.val (.int (5 : Int32)), .val (.int (1 : Int32))] [(.int (1 : Int32)), (.int (5 : Int32))])
  refine own_step (fun _ k => XS.icmpYes X0.here hx rfl (pc0 := 2) (pc' := 9) rfl (hb hby d4_2) rfl (by decide) (by decide) (by decide) k) ?_
  show own_Wp p e below _ s₁ (mkF m 9 #[.val (.int (5 : Int32)), .val (.int (1 : Int32))] [])
  refine own_step (fun _ k => XS.iloadN X0.here hx rfl (hb hby d4_9) rfl k) ?_
  show own_Wp p e below _ s₁ (mkF m 10 #[.val (.int (5 : Int32)), .val (.int (1 : Int32))] [(.int (1 : Int32))])
  exact own_retI X0 hx hret hlk (hb hby d4_10) (by decide) (by decide) (by rw [e0]; exact ⟨rfl, (Fr.nil n0), rfl⟩)

set_option maxRecDepth 65536 in
set_option maxHeartbeats 40000000 in
theorem rm5_100 (l : Launch) (Z : State) (a0 : Array Value) (hw : ∀ d ∈ tables_1, d.before a0 Z = true) (hA : ∀ d ∈ own_flat narrow_1, d.value a0 Z none Z [] = some true) (ws : List Jvm.Cond) (h0 : Heap) (n0 : Nat) (O0 : Old Z n0 h0) :
    own_Met l Z (⟨"java/lang/Math", "max", "(II)I"⟩ : MethodName) (Jvm.Cond.code (⟨"java/lang/Math", "max", "(II)I"⟩ : MethodName) jdk_29_method_65_code 2 (some .int)) ws ({ frames := 0, cells := 0, slots := 0, locals := 0 } : Room) #[(.int (5 : Int32)), (.int (1 : Int32))] h0 (fun v h L => (v = some (.int (5 : Int32)) ∧ Fr n0 L ∧ h = h0)) := by
  refine own_met (own := "java/lang/Math") (Jvm.Free.JP.mathPlain rfl (by decide +kernel)) rfl ?_
  intro p e s m below meth c s₁ hx hby hml hown hnm hret hlk hZ e0 X0
  refine own_cast (g' := (mkF m 0 #[.val (.int (5 : Int32)), .val (.int (1 : Int32))] [])) (by first | (simp [entryFrame, mkF, argsToLocals, Value.category]; done) | rfl) ?_
  refine own_step (fun _ k => XS.iloadN X0.here hx rfl (hb hby d5_0) rfl k) ?_
  show own_Wp p e below _ s₁ (mkF m 1 #[.val (.int (5 : Int32)), .val (.int (1 : Int32))] [(.int (5 : Int32))])
  refine own_step (fun _ k => XS.iloadN X0.here hx rfl (hb hby d5_1) rfl k) ?_
  show own_Wp p e below _ s₁ (mkF m 2 #[.val (.int (5 : Int32)), .val (.int (1 : Int32))] [(.int (1 : Int32)), (.int (5 : Int32))])
  refine own_step (fun _ k => XS.icmpNo X0.here hx rfl (hb hby d5_2) rfl (by decide) k) ?_
  show own_Wp p e below _ s₁ (mkF m 5 #[.val (.int (5 : Int32)), .val (.int (1 : Int32))] [])
  refine own_step (fun _ k => XS.iloadN X0.here hx rfl (hb hby d5_5) rfl k) ?_
  show own_Wp p e below _ s₁ (mkF m 6 #[.val (.int (5 : Int32)), .val (.int (1 : Int32))] [(.int (5 : Int32))])
  refine own_step (fun _ k => XS.goto X0.here hx rfl (pc0 := 6) (pc' := 10) rfl (hb hby d5_6) (by decide) (by decide) k) ?_
  show own_Wp p e below _ s₁ (mkF m 10 #[.val (.int (5 : Int32)), .val (.int (1 : Int32))] [(.int (5 : Int32))])
  exact own_retI X0 hx hret hlk (hb hby d5_10) (by decide) (by decide) (by rw [e0]; exact ⟨rfl, (Fr.nil n0), rfl⟩)

set_option maxRecDepth 65536 in
set_option maxHeartbeats 40000000 in
theorem rm3_101 (l : Launch) (Z : State) (a0 : Array Value) (hw : ∀ d ∈ tables_1, d.before a0 Z = true) (hA : ∀ d ∈ own_flat narrow_1, d.value a0 Z none Z [] = some true) (ws : List Jvm.Cond) (h0 : Heap) (n0 : Nat) (O0 : Old Z n0 h0) :
    own_Met l Z (⟨"com/example/pathfare/pathfare/alto/TypeIsCompatibleWithPinLaw", "expected", "(II)Z"⟩ : MethodName) (Jvm.Cond.code (⟨"com/example/pathfare/pathfare/alto/TypeIsCompatibleWithPinLaw", "expected", "(II)Z"⟩ : MethodName) method_3_code 4 (some .boolean)) ws ({ frames := 1, cells := 0, slots := 0, locals := 13 } : Room) #[(.int (5 : Int32)), (.int (1 : Int32))] h0 (fun v h L => (v = some (.int (1 : Int32)) ∧ Fr n0 L ∧ h = h0)) := by
  refine own_met (own := "com/example/pathfare/pathfare/alto/TypeIsCompatibleWithPinLaw") (plainFor_of_name pn0) rfl ?_
  intro p e s m below meth c s₁ hx hby hml hown hnm hret hlk hZ e0 X0
  refine own_cast (g' := (mkF m 0 #[.val (.int (5 : Int32)), .val (.int (1 : Int32)), .unset, .unset] [])) (by first | (simp [entryFrame, mkF, argsToLocals, Value.category]; done) | rfl) ?_
  refine own_step (fun _ k => XS.iloadN X0.here hx rfl (hb hby d3_0) rfl k) ?_
  show own_Wp p e below _ s₁ (mkF m 1 #[.val (.int (5 : Int32)), .val (.int (1 : Int32)), .unset, .unset] [(.int (5 : Int32))])
  refine own_step (fun _ k => XS.iloadN X0.here hx rfl (hb hby d3_1) rfl k) ?_
  show own_Wp p e below _ s₁ (mkF m 2 #[.val (.int (5 : Int32)), .val (.int (1 : Int32)), .unset, .unset] [(.int (1 : Int32)), (.int (5 : Int32))])
  refine own_step (fun _ k => XS.icmpYes X0.here hx rfl (pc0 := 2) (pc' := 7) rfl (hb hby d3_2) rfl (by decide) (by decide) (by decide) k) ?_
  show own_Wp p e below _ s₁ (mkF m 7 #[.val (.int (5 : Int32)), .val (.int (1 : Int32)), .unset, .unset] [])
  refine own_step (fun _ k => XS.iloadN X0.here hx rfl (hb hby d3_7) rfl k) ?_
  show own_Wp p e below _ s₁ (mkF m 8 #[.val (.int (5 : Int32)), .val (.int (1 : Int32)), .unset, .unset] [(.int (5 : Int32))])
  refine own_step (fun _ k => XS.iloadN X0.here hx rfl (hb hby d3_8) rfl k) ?_
  show own_Wp p e below _ s₁ (mkF m 9 #[.val (.int (5 : Int32)), .val (.int (1 : Int32)), .unset, .unset] [(.int (1 : Int32)), (.int (5 : Int32))])
  obtain ⟨_, T1, L1, X1, hQ1, st1⟩ := own_callS X0 hx hZ hown (hw _ (List.mem_of_getElem? (i := 20) rfl)) (hw _ (List.mem_of_getElem? (i := 21) rfl)) (hw _ (List.mem_of_getElem? (i := 22) rfl)) (hw _ (List.mem_of_getElem? (i := 23) rfl)) (by decide) (rm4_99 l Z a0 hw hA [] h0 n0 O0) (W := 0) (by decide) (by decide) [(.int (5 : Int32)), (.int (1 : Int32))] rfl (lenOf pd5 rfl) (Ls := #[.val (.int (5 : Int32)), .val (.int (1 : Int32)), .unset, .unset]) (by rw [hml]; rfl) (rest := []) (Nat.le_of_eq rfl) (hb hby d3_9) e0 (by decide) (by decide)
  refine st1 _ ?_
  obtain ⟨rfl, N1q, e1⟩ := hQ1
  have N1 := Fr.app (Fr.nil n0) N1q
  show own_Wp p e below _ T1 (mkF m 12 #[.val (.int (5 : Int32)), .val (.int (1 : Int32)), .unset, .unset] [(.int (1 : Int32))])
  refine own_step (fun _ k => XS.istoreN X1.here hx rfl (hb hby d3_12) rfl (l' := #[.val (.int (5 : Int32)), .val (.int (1 : Int32)), .val (.int (1 : Int32)), .unset]) rfl k) ?_
  show own_Wp p e below _ T1 (mkF m 13 #[.val (.int (5 : Int32)), .val (.int (1 : Int32)), .val (.int (1 : Int32)), .unset] [])
  refine own_step (fun _ k => XS.iloadN X1.here hx rfl (hb hby d3_13) rfl k) ?_
  show own_Wp p e below _ T1 (mkF m 14 #[.val (.int (5 : Int32)), .val (.int (1 : Int32)), .val (.int (1 : Int32)), .unset] [(.int (5 : Int32))])
  refine own_step (fun _ k => XS.iloadN X1.here hx rfl (hb hby d3_14) rfl k) ?_
  show own_Wp p e below _ T1 (mkF m 15 #[.val (.int (5 : Int32)), .val (.int (1 : Int32)), .val (.int (1 : Int32)), .unset] [(.int (1 : Int32)), (.int (5 : Int32))])
  obtain ⟨_, T2, L2, X2, hQ2, st2⟩ := own_callS X1 hx hZ hown (hw _ (List.mem_of_getElem? (i := 24) rfl)) (hw _ (List.mem_of_getElem? (i := 25) rfl)) (hw _ (List.mem_of_getElem? (i := 22) rfl)) (hw _ (List.mem_of_getElem? (i := 26) rfl)) (by decide) (rm5_100 l Z a0 hw hA [] h0 n0 O0) (W := 0) (by decide) (by decide) [(.int (5 : Int32)), (.int (1 : Int32))] rfl (lenOf pd5 rfl) (Ls := #[.val (.int (5 : Int32)), .val (.int (1 : Int32)), .val (.int (1 : Int32)), .unset]) (by rw [hml]; rfl) (rest := []) (Nat.le_of_eq rfl) (hb hby d3_15) e1 (by decide) (by decide)
  refine st2 _ ?_
  obtain ⟨rfl, N2q, e2⟩ := hQ2
  have N2 := Fr.app N1 N2q
  show own_Wp p e below _ T2 (mkF m 18 #[.val (.int (5 : Int32)), .val (.int (1 : Int32)), .val (.int (1 : Int32)), .unset] [(.int (5 : Int32))])
  refine own_step (fun _ k => XS.istoreN X2.here hx rfl (hb hby d3_18) rfl (l' := #[.val (.int (5 : Int32)), .val (.int (1 : Int32)), .val (.int (1 : Int32)), .val (.int (5 : Int32))]) rfl k) ?_
  show own_Wp p e below _ T2 (mkF m 19 #[.val (.int (5 : Int32)), .val (.int (1 : Int32)), .val (.int (1 : Int32)), .val (.int (5 : Int32))] [])
  refine own_step (fun _ k => XS.iloadN X2.here hx rfl (hb hby d3_19) rfl k) ?_
  show own_Wp p e below _ T2 (mkF m 20 #[.val (.int (5 : Int32)), .val (.int (1 : Int32)), .val (.int (1 : Int32)), .val (.int (5 : Int32))] [(.int (1 : Int32))])
  refine own_step (fun _ k => XS.ifYes X2.here hx rfl (pc0 := 20) (pc' := 39) rfl (hb hby d3_20) rfl (by decide) (by decide) (by decide) k) ?_
  show own_Wp p e below _ T2 (mkF m 39 #[.val (.int (5 : Int32)), .val (.int (1 : Int32)), .val (.int (1 : Int32)), .val (.int (5 : Int32))] [])
  refine own_step (fun _ k => XS.iloadN X2.here hx rfl (hb hby d3_39) rfl k) ?_
  show own_Wp p e below _ T2 (mkF m 40 #[.val (.int (5 : Int32)), .val (.int (1 : Int32)), .val (.int (1 : Int32)), .val (.int (5 : Int32))] [(.int (1 : Int32))])
  refine own_step (fun _ k => XS.iconst X2.here hx rfl (hb hby d3_40) k) ?_
  show own_Wp p e below _ T2 (mkF m 41 #[.val (.int (5 : Int32)), .val (.int (1 : Int32)), .val (.int (1 : Int32)), .val (.int (5 : Int32))] [(.int (1 : Int32)), (.int (1 : Int32))])
  refine own_step (fun _ k => XS.icmpNo X2.here hx rfl (hb hby d3_41) rfl (by decide) k) ?_
  show own_Wp p e below _ T2 (mkF m 44 #[.val (.int (5 : Int32)), .val (.int (1 : Int32)), .val (.int (1 : Int32)), .val (.int (5 : Int32))] [])
  refine own_step (fun _ k => XS.iloadN X2.here hx rfl (hb hby d3_44) rfl k) ?_
  show own_Wp p e below _ T2 (mkF m 45 #[.val (.int (5 : Int32)), .val (.int (1 : Int32)), .val (.int (1 : Int32)), .val (.int (5 : Int32))] [(.int (5 : Int32))])
  refine own_step (fun _ k => XS.iconst X2.here hx rfl (hb hby d3_45) k) ?_
  show own_Wp p e below _ T2 (mkF m 46 #[.val (.int (5 : Int32)), .val (.int (1 : Int32)), .val (.int (1 : Int32)), .val (.int (5 : Int32))] [(.int (3 : Int32)), (.int (5 : Int32))])
  refine own_step (fun _ k => XS.icmpNo X2.here hx rfl (hb hby d3_46) rfl (by decide) k) ?_
  show own_Wp p e below _ T2 (mkF m 49 #[.val (.int (5 : Int32)), .val (.int (1 : Int32)), .val (.int (1 : Int32)), .val (.int (5 : Int32))] [])
  refine own_step (fun _ k => XS.iloadN X2.here hx rfl (hb hby d3_49) rfl k) ?_
  show own_Wp p e below _ T2 (mkF m 50 #[.val (.int (5 : Int32)), .val (.int (1 : Int32)), .val (.int (1 : Int32)), .val (.int (5 : Int32))] [(.int (5 : Int32))])
  refine own_step (fun _ k => XS.iconst X2.here hx rfl (hb hby d3_50) k) ?_
  show own_Wp p e below _ T2 (mkF m 51 #[.val (.int (5 : Int32)), .val (.int (1 : Int32)), .val (.int (1 : Int32)), .val (.int (5 : Int32))] [(.int (5 : Int32)), (.int (5 : Int32))])
  refine own_step (fun _ k => XS.icmpNo X2.here hx rfl (hb hby d3_51) rfl (by decide) k) ?_
  show own_Wp p e below _ T2 (mkF m 54 #[.val (.int (5 : Int32)), .val (.int (1 : Int32)), .val (.int (1 : Int32)), .val (.int (5 : Int32))] [])
  refine own_step (fun _ k => XS.iconst X2.here hx rfl (hb hby d3_54) k) ?_
  show own_Wp p e below _ T2 (mkF m 55 #[.val (.int (5 : Int32)), .val (.int (1 : Int32)), .val (.int (1 : Int32)), .val (.int (5 : Int32))] [(.int (1 : Int32))])
  refine own_step (fun _ k => XS.goto X2.here hx rfl (pc0 := 55) (pc' := 59) rfl (hb hby d3_55) (by decide) (by decide) k) ?_
  show own_Wp p e below _ T2 (mkF m 59 #[.val (.int (5 : Int32)), .val (.int (1 : Int32)), .val (.int (1 : Int32)), .val (.int (5 : Int32))] [(.int (1 : Int32))])
  exact own_retN X2 hx (t := .boolean) hret (by simp) hlk (hb hby d3_59) (by decide) (by decide) (by rw [e2]; exact ⟨rfl, N2, rfl⟩)

set_option maxRecDepth 65536 in
set_option maxHeartbeats 40000000 in
theorem rm4_102 (l : Launch) (Z : State) (a0 : Array Value) (hw : ∀ d ∈ tables_1, d.before a0 Z = true) (hA : ∀ d ∈ own_flat narrow_1, d.value a0 Z none Z [] = some true) (ws : List Jvm.Cond) (h0 : Heap) (n0 : Nat) (O0 : Old Z n0 h0) :
    own_Met l Z (⟨"java/lang/Math", "min", "(II)I"⟩ : MethodName) (Jvm.Cond.code (⟨"java/lang/Math", "min", "(II)I"⟩ : MethodName) jdk_29_method_69_code 2 (some .int)) ws ({ frames := 0, cells := 0, slots := 0, locals := 0 } : Room) #[(.int (5 : Int32)), (.int (2 : Int32))] h0 (fun v h L => (v = some (.int (2 : Int32)) ∧ Fr n0 L ∧ h = h0)) := by
  refine own_met (own := "java/lang/Math") (Jvm.Free.JP.mathPlain rfl (by decide +kernel)) rfl ?_
  intro p e s m below meth c s₁ hx hby hml hown hnm hret hlk hZ e0 X0
  refine own_cast (g' := (mkF m 0 #[.val (.int (5 : Int32)), .val (.int (2 : Int32))] [])) (by first | (simp [entryFrame, mkF, argsToLocals, Value.category]; done) | rfl) ?_
  refine own_step (fun _ k => XS.iloadN X0.here hx rfl (hb hby d4_0) rfl k) ?_
  show own_Wp p e below _ s₁ (mkF m 1 #[.val (.int (5 : Int32)), .val (.int (2 : Int32))] [(.int (5 : Int32))])
  refine own_step (fun _ k => XS.iloadN X0.here hx rfl (hb hby d4_1) rfl k) ?_
  show own_Wp p e below _ s₁ (mkF m 2 #[.val (.int (5 : Int32)), .val (.int (2 : Int32))] [(.int (2 : Int32)), (.int (5 : Int32))])
  refine own_step (fun _ k => XS.icmpYes X0.here hx rfl (pc0 := 2) (pc' := 9) rfl (hb hby d4_2) rfl (by decide) (by decide) (by decide) k) ?_
  show own_Wp p e below _ s₁ (mkF m 9 #[.val (.int (5 : Int32)), .val (.int (2 : Int32))] [])
  refine own_step (fun _ k => XS.iloadN X0.here hx rfl (hb hby d4_9) rfl k) ?_
  show own_Wp p e below _ s₁ (mkF m 10 #[.val (.int (5 : Int32)), .val (.int (2 : Int32))] [(.int (2 : Int32))])
  exact own_retI X0 hx hret hlk (hb hby d4_10) (by decide) (by decide) (by rw [e0]; exact ⟨rfl, (Fr.nil n0), rfl⟩)

set_option maxRecDepth 65536 in
set_option maxHeartbeats 40000000 in
theorem rm5_103 (l : Launch) (Z : State) (a0 : Array Value) (hw : ∀ d ∈ tables_1, d.before a0 Z = true) (hA : ∀ d ∈ own_flat narrow_1, d.value a0 Z none Z [] = some true) (ws : List Jvm.Cond) (h0 : Heap) (n0 : Nat) (O0 : Old Z n0 h0) :
    own_Met l Z (⟨"java/lang/Math", "max", "(II)I"⟩ : MethodName) (Jvm.Cond.code (⟨"java/lang/Math", "max", "(II)I"⟩ : MethodName) jdk_29_method_65_code 2 (some .int)) ws ({ frames := 0, cells := 0, slots := 0, locals := 0 } : Room) #[(.int (5 : Int32)), (.int (2 : Int32))] h0 (fun v h L => (v = some (.int (5 : Int32)) ∧ Fr n0 L ∧ h = h0)) := by
  refine own_met (own := "java/lang/Math") (Jvm.Free.JP.mathPlain rfl (by decide +kernel)) rfl ?_
  intro p e s m below meth c s₁ hx hby hml hown hnm hret hlk hZ e0 X0
  refine own_cast (g' := (mkF m 0 #[.val (.int (5 : Int32)), .val (.int (2 : Int32))] [])) (by first | (simp [entryFrame, mkF, argsToLocals, Value.category]; done) | rfl) ?_
  refine own_step (fun _ k => XS.iloadN X0.here hx rfl (hb hby d5_0) rfl k) ?_
  show own_Wp p e below _ s₁ (mkF m 1 #[.val (.int (5 : Int32)), .val (.int (2 : Int32))] [(.int (5 : Int32))])
  refine own_step (fun _ k => XS.iloadN X0.here hx rfl (hb hby d5_1) rfl k) ?_
  show own_Wp p e below _ s₁ (mkF m 2 #[.val (.int (5 : Int32)), .val (.int (2 : Int32))] [(.int (2 : Int32)), (.int (5 : Int32))])
  refine own_step (fun _ k => XS.icmpNo X0.here hx rfl (hb hby d5_2) rfl (by decide) k) ?_
  show own_Wp p e below _ s₁ (mkF m 5 #[.val (.int (5 : Int32)), .val (.int (2 : Int32))] [])
  refine own_step (fun _ k => XS.iloadN X0.here hx rfl (hb hby d5_5) rfl k) ?_
  show own_Wp p e below _ s₁ (mkF m 6 #[.val (.int (5 : Int32)), .val (.int (2 : Int32))] [(.int (5 : Int32))])
  refine own_step (fun _ k => XS.goto X0.here hx rfl (pc0 := 6) (pc' := 10) rfl (hb hby d5_6) (by decide) (by decide) k) ?_
  show own_Wp p e below _ s₁ (mkF m 10 #[.val (.int (5 : Int32)), .val (.int (2 : Int32))] [(.int (5 : Int32))])
  exact own_retI X0 hx hret hlk (hb hby d5_10) (by decide) (by decide) (by rw [e0]; exact ⟨rfl, (Fr.nil n0), rfl⟩)

set_option maxRecDepth 65536 in
set_option maxHeartbeats 40000000 in
theorem rm3_104 (l : Launch) (Z : State) (a0 : Array Value) (hw : ∀ d ∈ tables_1, d.before a0 Z = true) (hA : ∀ d ∈ own_flat narrow_1, d.value a0 Z none Z [] = some true) (ws : List Jvm.Cond) (h0 : Heap) (n0 : Nat) (O0 : Old Z n0 h0) :
    own_Met l Z (⟨"com/example/pathfare/pathfare/alto/TypeIsCompatibleWithPinLaw", "expected", "(II)Z"⟩ : MethodName) (Jvm.Cond.code (⟨"com/example/pathfare/pathfare/alto/TypeIsCompatibleWithPinLaw", "expected", "(II)Z"⟩ : MethodName) method_3_code 4 (some .boolean)) ws ({ frames := 1, cells := 0, slots := 0, locals := 13 } : Room) #[(.int (5 : Int32)), (.int (2 : Int32))] h0 (fun v h L => (v = some (.int (0 : Int32)) ∧ Fr n0 L ∧ h = h0)) := by
  refine own_met (own := "com/example/pathfare/pathfare/alto/TypeIsCompatibleWithPinLaw") (plainFor_of_name pn0) rfl ?_
  intro p e s m below meth c s₁ hx hby hml hown hnm hret hlk hZ e0 X0
  refine own_cast (g' := (mkF m 0 #[.val (.int (5 : Int32)), .val (.int (2 : Int32)), .unset, .unset] [])) (by first | (simp [entryFrame, mkF, argsToLocals, Value.category]; done) | rfl) ?_
  refine own_step (fun _ k => XS.iloadN X0.here hx rfl (hb hby d3_0) rfl k) ?_
  show own_Wp p e below _ s₁ (mkF m 1 #[.val (.int (5 : Int32)), .val (.int (2 : Int32)), .unset, .unset] [(.int (5 : Int32))])
  refine own_step (fun _ k => XS.iloadN X0.here hx rfl (hb hby d3_1) rfl k) ?_
  show own_Wp p e below _ s₁ (mkF m 2 #[.val (.int (5 : Int32)), .val (.int (2 : Int32)), .unset, .unset] [(.int (2 : Int32)), (.int (5 : Int32))])
  refine own_step (fun _ k => XS.icmpYes X0.here hx rfl (pc0 := 2) (pc' := 7) rfl (hb hby d3_2) rfl (by decide) (by decide) (by decide) k) ?_
  show own_Wp p e below _ s₁ (mkF m 7 #[.val (.int (5 : Int32)), .val (.int (2 : Int32)), .unset, .unset] [])
  refine own_step (fun _ k => XS.iloadN X0.here hx rfl (hb hby d3_7) rfl k) ?_
  show own_Wp p e below _ s₁ (mkF m 8 #[.val (.int (5 : Int32)), .val (.int (2 : Int32)), .unset, .unset] [(.int (5 : Int32))])
  refine own_step (fun _ k => XS.iloadN X0.here hx rfl (hb hby d3_8) rfl k) ?_
  show own_Wp p e below _ s₁ (mkF m 9 #[.val (.int (5 : Int32)), .val (.int (2 : Int32)), .unset, .unset] [(.int (2 : Int32)), (.int (5 : Int32))])
  obtain ⟨_, T1, L1, X1, hQ1, st1⟩ := own_callS X0 hx hZ hown (hw _ (List.mem_of_getElem? (i := 20) rfl)) (hw _ (List.mem_of_getElem? (i := 21) rfl)) (hw _ (List.mem_of_getElem? (i := 22) rfl)) (hw _ (List.mem_of_getElem? (i := 23) rfl)) (by decide) (rm4_102 l Z a0 hw hA [] h0 n0 O0) (W := 0) (by decide) (by decide) [(.int (5 : Int32)), (.int (2 : Int32))] rfl (lenOf pd5 rfl) (Ls := #[.val (.int (5 : Int32)), .val (.int (2 : Int32)), .unset, .unset]) (by rw [hml]; rfl) (rest := []) (Nat.le_of_eq rfl) (hb hby d3_9) e0 (by decide) (by decide)
  refine st1 _ ?_
  obtain ⟨rfl, N1q, e1⟩ := hQ1
  have N1 := Fr.app (Fr.nil n0) N1q
  show own_Wp p e below _ T1 (mkF m 12 #[.val (.int (5 : Int32)), .val (.int (2 : Int32)), .unset, .unset] [(.int (2 : Int32))])
  refine own_step (fun _ k => XS.istoreN X1.here hx rfl (hb hby d3_12) rfl (l' := #[.val (.int (5 : Int32)), .val (.int (2 : Int32)), .val (.int (2 : Int32)), .unset]) rfl k) ?_
  show own_Wp p e below _ T1 (mkF m 13 #[.val (.int (5 : Int32)), .val (.int (2 : Int32)), .val (.int (2 : Int32)), .unset] [])
  refine own_step (fun _ k => XS.iloadN X1.here hx rfl (hb hby d3_13) rfl k) ?_
  show own_Wp p e below _ T1 (mkF m 14 #[.val (.int (5 : Int32)), .val (.int (2 : Int32)), .val (.int (2 : Int32)), .unset] [(.int (5 : Int32))])
  refine own_step (fun _ k => XS.iloadN X1.here hx rfl (hb hby d3_14) rfl k) ?_
  show own_Wp p e below _ T1 (mkF m 15 #[.val (.int (5 : Int32)), .val (.int (2 : Int32)), .val (.int (2 : Int32)), .unset] [(.int (2 : Int32)), (.int (5 : Int32))])
  obtain ⟨_, T2, L2, X2, hQ2, st2⟩ := own_callS X1 hx hZ hown (hw _ (List.mem_of_getElem? (i := 24) rfl)) (hw _ (List.mem_of_getElem? (i := 25) rfl)) (hw _ (List.mem_of_getElem? (i := 22) rfl)) (hw _ (List.mem_of_getElem? (i := 26) rfl)) (by decide) (rm5_103 l Z a0 hw hA [] h0 n0 O0) (W := 0) (by decide) (by decide) [(.int (5 : Int32)), (.int (2 : Int32))] rfl (lenOf pd5 rfl) (Ls := #[.val (.int (5 : Int32)), .val (.int (2 : Int32)), .val (.int (2 : Int32)), .unset]) (by rw [hml]; rfl) (rest := []) (Nat.le_of_eq rfl) (hb hby d3_15) e1 (by decide) (by decide)
  refine st2 _ ?_
  obtain ⟨rfl, N2q, e2⟩ := hQ2
  have N2 := Fr.app N1 N2q
  show own_Wp p e below _ T2 (mkF m 18 #[.val (.int (5 : Int32)), .val (.int (2 : Int32)), .val (.int (2 : Int32)), .unset] [(.int (5 : Int32))])
  refine own_step (fun _ k => XS.istoreN X2.here hx rfl (hb hby d3_18) rfl (l' := #[.val (.int (5 : Int32)), .val (.int (2 : Int32)), .val (.int (2 : Int32)), .val (.int (5 : Int32))]) rfl k) ?_
  show own_Wp p e below _ T2 (mkF m 19 #[.val (.int (5 : Int32)), .val (.int (2 : Int32)), .val (.int (2 : Int32)), .val (.int (5 : Int32))] [])
  refine own_step (fun _ k => XS.iloadN X2.here hx rfl (hb hby d3_19) rfl k) ?_
  show own_Wp p e below _ T2 (mkF m 20 #[.val (.int (5 : Int32)), .val (.int (2 : Int32)), .val (.int (2 : Int32)), .val (.int (5 : Int32))] [(.int (2 : Int32))])
  refine own_step (fun _ k => XS.ifYes X2.here hx rfl (pc0 := 20) (pc' := 39) rfl (hb hby d3_20) rfl (by decide) (by decide) (by decide) k) ?_
  show own_Wp p e below _ T2 (mkF m 39 #[.val (.int (5 : Int32)), .val (.int (2 : Int32)), .val (.int (2 : Int32)), .val (.int (5 : Int32))] [])
  refine own_step (fun _ k => XS.iloadN X2.here hx rfl (hb hby d3_39) rfl k) ?_
  show own_Wp p e below _ T2 (mkF m 40 #[.val (.int (5 : Int32)), .val (.int (2 : Int32)), .val (.int (2 : Int32)), .val (.int (5 : Int32))] [(.int (2 : Int32))])
  refine own_step (fun _ k => XS.iconst X2.here hx rfl (hb hby d3_40) k) ?_
  show own_Wp p e below _ T2 (mkF m 41 #[.val (.int (5 : Int32)), .val (.int (2 : Int32)), .val (.int (2 : Int32)), .val (.int (5 : Int32))] [(.int (1 : Int32)), (.int (2 : Int32))])
  refine own_step (fun _ k => XS.icmpYes X2.here hx rfl (pc0 := 41) (pc' := 60) rfl (hb hby d3_41) rfl (by decide) (by decide) (by decide) k) ?_
  show own_Wp p e below _ T2 (mkF m 60 #[.val (.int (5 : Int32)), .val (.int (2 : Int32)), .val (.int (2 : Int32)), .val (.int (5 : Int32))] [])
  refine own_step (fun _ k => XS.iconst X2.here hx rfl (hb hby d3_60) k) ?_
  show own_Wp p e below _ T2 (mkF m 61 #[.val (.int (5 : Int32)), .val (.int (2 : Int32)), .val (.int (2 : Int32)), .val (.int (5 : Int32))] [(.int (0 : Int32))])
  exact own_retN X2 hx (t := .boolean) hret (by simp) hlk (hb hby d3_61) (by decide) (by decide) (by rw [e2]; exact ⟨rfl, N2, rfl⟩)

set_option maxRecDepth 65536 in
set_option maxHeartbeats 40000000 in
theorem rm4_105 (l : Launch) (Z : State) (a0 : Array Value) (hw : ∀ d ∈ tables_1, d.before a0 Z = true) (hA : ∀ d ∈ own_flat narrow_1, d.value a0 Z none Z [] = some true) (ws : List Jvm.Cond) (h0 : Heap) (n0 : Nat) (O0 : Old Z n0 h0) :
    own_Met l Z (⟨"java/lang/Math", "min", "(II)I"⟩ : MethodName) (Jvm.Cond.code (⟨"java/lang/Math", "min", "(II)I"⟩ : MethodName) jdk_29_method_69_code 2 (some .int)) ws ({ frames := 0, cells := 0, slots := 0, locals := 0 } : Room) #[(.int (5 : Int32)), (.int (3 : Int32))] h0 (fun v h L => (v = some (.int (3 : Int32)) ∧ Fr n0 L ∧ h = h0)) := by
  refine own_met (own := "java/lang/Math") (Jvm.Free.JP.mathPlain rfl (by decide +kernel)) rfl ?_
  intro p e s m below meth c s₁ hx hby hml hown hnm hret hlk hZ e0 X0
  refine own_cast (g' := (mkF m 0 #[.val (.int (5 : Int32)), .val (.int (3 : Int32))] [])) (by first | (simp [entryFrame, mkF, argsToLocals, Value.category]; done) | rfl) ?_
  refine own_step (fun _ k => XS.iloadN X0.here hx rfl (hb hby d4_0) rfl k) ?_
  show own_Wp p e below _ s₁ (mkF m 1 #[.val (.int (5 : Int32)), .val (.int (3 : Int32))] [(.int (5 : Int32))])
  refine own_step (fun _ k => XS.iloadN X0.here hx rfl (hb hby d4_1) rfl k) ?_
  show own_Wp p e below _ s₁ (mkF m 2 #[.val (.int (5 : Int32)), .val (.int (3 : Int32))] [(.int (3 : Int32)), (.int (5 : Int32))])
  refine own_step (fun _ k => XS.icmpYes X0.here hx rfl (pc0 := 2) (pc' := 9) rfl (hb hby d4_2) rfl (by decide) (by decide) (by decide) k) ?_
  show own_Wp p e below _ s₁ (mkF m 9 #[.val (.int (5 : Int32)), .val (.int (3 : Int32))] [])
  refine own_step (fun _ k => XS.iloadN X0.here hx rfl (hb hby d4_9) rfl k) ?_
  show own_Wp p e below _ s₁ (mkF m 10 #[.val (.int (5 : Int32)), .val (.int (3 : Int32))] [(.int (3 : Int32))])
  exact own_retI X0 hx hret hlk (hb hby d4_10) (by decide) (by decide) (by rw [e0]; exact ⟨rfl, (Fr.nil n0), rfl⟩)

set_option maxRecDepth 65536 in
set_option maxHeartbeats 40000000 in
theorem rm5_106 (l : Launch) (Z : State) (a0 : Array Value) (hw : ∀ d ∈ tables_1, d.before a0 Z = true) (hA : ∀ d ∈ own_flat narrow_1, d.value a0 Z none Z [] = some true) (ws : List Jvm.Cond) (h0 : Heap) (n0 : Nat) (O0 : Old Z n0 h0) :
    own_Met l Z (⟨"java/lang/Math", "max", "(II)I"⟩ : MethodName) (Jvm.Cond.code (⟨"java/lang/Math", "max", "(II)I"⟩ : MethodName) jdk_29_method_65_code 2 (some .int)) ws ({ frames := 0, cells := 0, slots := 0, locals := 0 } : Room) #[(.int (5 : Int32)), (.int (3 : Int32))] h0 (fun v h L => (v = some (.int (5 : Int32)) ∧ Fr n0 L ∧ h = h0)) := by
  refine own_met (own := "java/lang/Math") (Jvm.Free.JP.mathPlain rfl (by decide +kernel)) rfl ?_
  intro p e s m below meth c s₁ hx hby hml hown hnm hret hlk hZ e0 X0
  refine own_cast (g' := (mkF m 0 #[.val (.int (5 : Int32)), .val (.int (3 : Int32))] [])) (by first | (simp [entryFrame, mkF, argsToLocals, Value.category]; done) | rfl) ?_
  refine own_step (fun _ k => XS.iloadN X0.here hx rfl (hb hby d5_0) rfl k) ?_
  show own_Wp p e below _ s₁ (mkF m 1 #[.val (.int (5 : Int32)), .val (.int (3 : Int32))] [(.int (5 : Int32))])
  refine own_step (fun _ k => XS.iloadN X0.here hx rfl (hb hby d5_1) rfl k) ?_
  show own_Wp p e below _ s₁ (mkF m 2 #[.val (.int (5 : Int32)), .val (.int (3 : Int32))] [(.int (3 : Int32)), (.int (5 : Int32))])
  refine own_step (fun _ k => XS.icmpNo X0.here hx rfl (hb hby d5_2) rfl (by decide) k) ?_
  show own_Wp p e below _ s₁ (mkF m 5 #[.val (.int (5 : Int32)), .val (.int (3 : Int32))] [])
  refine own_step (fun _ k => XS.iloadN X0.here hx rfl (hb hby d5_5) rfl k) ?_
  show own_Wp p e below _ s₁ (mkF m 6 #[.val (.int (5 : Int32)), .val (.int (3 : Int32))] [(.int (5 : Int32))])
  refine own_step (fun _ k => XS.goto X0.here hx rfl (pc0 := 6) (pc' := 10) rfl (hb hby d5_6) (by decide) (by decide) k) ?_
  show own_Wp p e below _ s₁ (mkF m 10 #[.val (.int (5 : Int32)), .val (.int (3 : Int32))] [(.int (5 : Int32))])
  exact own_retI X0 hx hret hlk (hb hby d5_10) (by decide) (by decide) (by rw [e0]; exact ⟨rfl, (Fr.nil n0), rfl⟩)

set_option maxRecDepth 65536 in
set_option maxHeartbeats 40000000 in
theorem rm3_107 (l : Launch) (Z : State) (a0 : Array Value) (hw : ∀ d ∈ tables_1, d.before a0 Z = true) (hA : ∀ d ∈ own_flat narrow_1, d.value a0 Z none Z [] = some true) (ws : List Jvm.Cond) (h0 : Heap) (n0 : Nat) (O0 : Old Z n0 h0) :
    own_Met l Z (⟨"com/example/pathfare/pathfare/alto/TypeIsCompatibleWithPinLaw", "expected", "(II)Z"⟩ : MethodName) (Jvm.Cond.code (⟨"com/example/pathfare/pathfare/alto/TypeIsCompatibleWithPinLaw", "expected", "(II)Z"⟩ : MethodName) method_3_code 4 (some .boolean)) ws ({ frames := 1, cells := 0, slots := 0, locals := 13 } : Room) #[(.int (5 : Int32)), (.int (3 : Int32))] h0 (fun v h L => (v = some (.int (0 : Int32)) ∧ Fr n0 L ∧ h = h0)) := by
  refine own_met (own := "com/example/pathfare/pathfare/alto/TypeIsCompatibleWithPinLaw") (plainFor_of_name pn0) rfl ?_
  intro p e s m below meth c s₁ hx hby hml hown hnm hret hlk hZ e0 X0
  refine own_cast (g' := (mkF m 0 #[.val (.int (5 : Int32)), .val (.int (3 : Int32)), .unset, .unset] [])) (by first | (simp [entryFrame, mkF, argsToLocals, Value.category]; done) | rfl) ?_
  refine own_step (fun _ k => XS.iloadN X0.here hx rfl (hb hby d3_0) rfl k) ?_
  show own_Wp p e below _ s₁ (mkF m 1 #[.val (.int (5 : Int32)), .val (.int (3 : Int32)), .unset, .unset] [(.int (5 : Int32))])
  refine own_step (fun _ k => XS.iloadN X0.here hx rfl (hb hby d3_1) rfl k) ?_
  show own_Wp p e below _ s₁ (mkF m 2 #[.val (.int (5 : Int32)), .val (.int (3 : Int32)), .unset, .unset] [(.int (3 : Int32)), (.int (5 : Int32))])
  refine own_step (fun _ k => XS.icmpYes X0.here hx rfl (pc0 := 2) (pc' := 7) rfl (hb hby d3_2) rfl (by decide) (by decide) (by decide) k) ?_
  show own_Wp p e below _ s₁ (mkF m 7 #[.val (.int (5 : Int32)), .val (.int (3 : Int32)), .unset, .unset] [])
  refine own_step (fun _ k => XS.iloadN X0.here hx rfl (hb hby d3_7) rfl k) ?_
  show own_Wp p e below _ s₁ (mkF m 8 #[.val (.int (5 : Int32)), .val (.int (3 : Int32)), .unset, .unset] [(.int (5 : Int32))])
  refine own_step (fun _ k => XS.iloadN X0.here hx rfl (hb hby d3_8) rfl k) ?_
  show own_Wp p e below _ s₁ (mkF m 9 #[.val (.int (5 : Int32)), .val (.int (3 : Int32)), .unset, .unset] [(.int (3 : Int32)), (.int (5 : Int32))])
  obtain ⟨_, T1, L1, X1, hQ1, st1⟩ := own_callS X0 hx hZ hown (hw _ (List.mem_of_getElem? (i := 20) rfl)) (hw _ (List.mem_of_getElem? (i := 21) rfl)) (hw _ (List.mem_of_getElem? (i := 22) rfl)) (hw _ (List.mem_of_getElem? (i := 23) rfl)) (by decide) (rm4_105 l Z a0 hw hA [] h0 n0 O0) (W := 0) (by decide) (by decide) [(.int (5 : Int32)), (.int (3 : Int32))] rfl (lenOf pd5 rfl) (Ls := #[.val (.int (5 : Int32)), .val (.int (3 : Int32)), .unset, .unset]) (by rw [hml]; rfl) (rest := []) (Nat.le_of_eq rfl) (hb hby d3_9) e0 (by decide) (by decide)
  refine st1 _ ?_
  obtain ⟨rfl, N1q, e1⟩ := hQ1
  have N1 := Fr.app (Fr.nil n0) N1q
  show own_Wp p e below _ T1 (mkF m 12 #[.val (.int (5 : Int32)), .val (.int (3 : Int32)), .unset, .unset] [(.int (3 : Int32))])
  refine own_step (fun _ k => XS.istoreN X1.here hx rfl (hb hby d3_12) rfl (l' := #[.val (.int (5 : Int32)), .val (.int (3 : Int32)), .val (.int (3 : Int32)), .unset]) rfl k) ?_
  show own_Wp p e below _ T1 (mkF m 13 #[.val (.int (5 : Int32)), .val (.int (3 : Int32)), .val (.int (3 : Int32)), .unset] [])
  refine own_step (fun _ k => XS.iloadN X1.here hx rfl (hb hby d3_13) rfl k) ?_
  show own_Wp p e below _ T1 (mkF m 14 #[.val (.int (5 : Int32)), .val (.int (3 : Int32)), .val (.int (3 : Int32)), .unset] [(.int (5 : Int32))])
  refine own_step (fun _ k => XS.iloadN X1.here hx rfl (hb hby d3_14) rfl k) ?_
  show own_Wp p e below _ T1 (mkF m 15 #[.val (.int (5 : Int32)), .val (.int (3 : Int32)), .val (.int (3 : Int32)), .unset] [(.int (3 : Int32)), (.int (5 : Int32))])
  obtain ⟨_, T2, L2, X2, hQ2, st2⟩ := own_callS X1 hx hZ hown (hw _ (List.mem_of_getElem? (i := 24) rfl)) (hw _ (List.mem_of_getElem? (i := 25) rfl)) (hw _ (List.mem_of_getElem? (i := 22) rfl)) (hw _ (List.mem_of_getElem? (i := 26) rfl)) (by decide) (rm5_106 l Z a0 hw hA [] h0 n0 O0) (W := 0) (by decide) (by decide) [(.int (5 : Int32)), (.int (3 : Int32))] rfl (lenOf pd5 rfl) (Ls := #[.val (.int (5 : Int32)), .val (.int (3 : Int32)), .val (.int (3 : Int32)), .unset]) (by rw [hml]; rfl) (rest := []) (Nat.le_of_eq rfl) (hb hby d3_15) e1 (by decide) (by decide)
  refine st2 _ ?_
  obtain ⟨rfl, N2q, e2⟩ := hQ2
  have N2 := Fr.app N1 N2q
  show own_Wp p e below _ T2 (mkF m 18 #[.val (.int (5 : Int32)), .val (.int (3 : Int32)), .val (.int (3 : Int32)), .unset] [(.int (5 : Int32))])
  refine own_step (fun _ k => XS.istoreN X2.here hx rfl (hb hby d3_18) rfl (l' := #[.val (.int (5 : Int32)), .val (.int (3 : Int32)), .val (.int (3 : Int32)), .val (.int (5 : Int32))]) rfl k) ?_
  show own_Wp p e below _ T2 (mkF m 19 #[.val (.int (5 : Int32)), .val (.int (3 : Int32)), .val (.int (3 : Int32)), .val (.int (5 : Int32))] [])
  refine own_step (fun _ k => XS.iloadN X2.here hx rfl (hb hby d3_19) rfl k) ?_
  show own_Wp p e below _ T2 (mkF m 20 #[.val (.int (5 : Int32)), .val (.int (3 : Int32)), .val (.int (3 : Int32)), .val (.int (5 : Int32))] [(.int (3 : Int32))])
  refine own_step (fun _ k => XS.ifYes X2.here hx rfl (pc0 := 20) (pc' := 39) rfl (hb hby d3_20) rfl (by decide) (by decide) (by decide) k) ?_
  show own_Wp p e below _ T2 (mkF m 39 #[.val (.int (5 : Int32)), .val (.int (3 : Int32)), .val (.int (3 : Int32)), .val (.int (5 : Int32))] [])
  refine own_step (fun _ k => XS.iloadN X2.here hx rfl (hb hby d3_39) rfl k) ?_
  show own_Wp p e below _ T2 (mkF m 40 #[.val (.int (5 : Int32)), .val (.int (3 : Int32)), .val (.int (3 : Int32)), .val (.int (5 : Int32))] [(.int (3 : Int32))])
  refine own_step (fun _ k => XS.iconst X2.here hx rfl (hb hby d3_40) k) ?_
  show own_Wp p e below _ T2 (mkF m 41 #[.val (.int (5 : Int32)), .val (.int (3 : Int32)), .val (.int (3 : Int32)), .val (.int (5 : Int32))] [(.int (1 : Int32)), (.int (3 : Int32))])
  refine own_step (fun _ k => XS.icmpYes X2.here hx rfl (pc0 := 41) (pc' := 60) rfl (hb hby d3_41) rfl (by decide) (by decide) (by decide) k) ?_
  show own_Wp p e below _ T2 (mkF m 60 #[.val (.int (5 : Int32)), .val (.int (3 : Int32)), .val (.int (3 : Int32)), .val (.int (5 : Int32))] [])
  refine own_step (fun _ k => XS.iconst X2.here hx rfl (hb hby d3_60) k) ?_
  show own_Wp p e below _ T2 (mkF m 61 #[.val (.int (5 : Int32)), .val (.int (3 : Int32)), .val (.int (3 : Int32)), .val (.int (5 : Int32))] [(.int (0 : Int32))])
  exact own_retN X2 hx (t := .boolean) hret (by simp) hlk (hb hby d3_61) (by decide) (by decide) (by rw [e2]; exact ⟨rfl, N2, rfl⟩)

set_option maxRecDepth 65536 in
set_option maxHeartbeats 40000000 in
theorem rm4_108 (l : Launch) (Z : State) (a0 : Array Value) (hw : ∀ d ∈ tables_1, d.before a0 Z = true) (hA : ∀ d ∈ own_flat narrow_1, d.value a0 Z none Z [] = some true) (ws : List Jvm.Cond) (h0 : Heap) (n0 : Nat) (O0 : Old Z n0 h0) :
    own_Met l Z (⟨"java/lang/Math", "min", "(II)I"⟩ : MethodName) (Jvm.Cond.code (⟨"java/lang/Math", "min", "(II)I"⟩ : MethodName) jdk_29_method_69_code 2 (some .int)) ws ({ frames := 0, cells := 0, slots := 0, locals := 0 } : Room) #[(.int (5 : Int32)), (.int (4 : Int32))] h0 (fun v h L => (v = some (.int (4 : Int32)) ∧ Fr n0 L ∧ h = h0)) := by
  refine own_met (own := "java/lang/Math") (Jvm.Free.JP.mathPlain rfl (by decide +kernel)) rfl ?_
  intro p e s m below meth c s₁ hx hby hml hown hnm hret hlk hZ e0 X0
  refine own_cast (g' := (mkF m 0 #[.val (.int (5 : Int32)), .val (.int (4 : Int32))] [])) (by first | (simp [entryFrame, mkF, argsToLocals, Value.category]; done) | rfl) ?_
  refine own_step (fun _ k => XS.iloadN X0.here hx rfl (hb hby d4_0) rfl k) ?_
  show own_Wp p e below _ s₁ (mkF m 1 #[.val (.int (5 : Int32)), .val (.int (4 : Int32))] [(.int (5 : Int32))])
  refine own_step (fun _ k => XS.iloadN X0.here hx rfl (hb hby d4_1) rfl k) ?_
  show own_Wp p e below _ s₁ (mkF m 2 #[.val (.int (5 : Int32)), .val (.int (4 : Int32))] [(.int (4 : Int32)), (.int (5 : Int32))])
  refine own_step (fun _ k => XS.icmpYes X0.here hx rfl (pc0 := 2) (pc' := 9) rfl (hb hby d4_2) rfl (by decide) (by decide) (by decide) k) ?_
  show own_Wp p e below _ s₁ (mkF m 9 #[.val (.int (5 : Int32)), .val (.int (4 : Int32))] [])
  refine own_step (fun _ k => XS.iloadN X0.here hx rfl (hb hby d4_9) rfl k) ?_
  show own_Wp p e below _ s₁ (mkF m 10 #[.val (.int (5 : Int32)), .val (.int (4 : Int32))] [(.int (4 : Int32))])
  exact own_retI X0 hx hret hlk (hb hby d4_10) (by decide) (by decide) (by rw [e0]; exact ⟨rfl, (Fr.nil n0), rfl⟩)

set_option maxRecDepth 65536 in
set_option maxHeartbeats 40000000 in
theorem rm5_109 (l : Launch) (Z : State) (a0 : Array Value) (hw : ∀ d ∈ tables_1, d.before a0 Z = true) (hA : ∀ d ∈ own_flat narrow_1, d.value a0 Z none Z [] = some true) (ws : List Jvm.Cond) (h0 : Heap) (n0 : Nat) (O0 : Old Z n0 h0) :
    own_Met l Z (⟨"java/lang/Math", "max", "(II)I"⟩ : MethodName) (Jvm.Cond.code (⟨"java/lang/Math", "max", "(II)I"⟩ : MethodName) jdk_29_method_65_code 2 (some .int)) ws ({ frames := 0, cells := 0, slots := 0, locals := 0 } : Room) #[(.int (5 : Int32)), (.int (4 : Int32))] h0 (fun v h L => (v = some (.int (5 : Int32)) ∧ Fr n0 L ∧ h = h0)) := by
  refine own_met (own := "java/lang/Math") (Jvm.Free.JP.mathPlain rfl (by decide +kernel)) rfl ?_
  intro p e s m below meth c s₁ hx hby hml hown hnm hret hlk hZ e0 X0
  refine own_cast (g' := (mkF m 0 #[.val (.int (5 : Int32)), .val (.int (4 : Int32))] [])) (by first | (simp [entryFrame, mkF, argsToLocals, Value.category]; done) | rfl) ?_
  refine own_step (fun _ k => XS.iloadN X0.here hx rfl (hb hby d5_0) rfl k) ?_
  show own_Wp p e below _ s₁ (mkF m 1 #[.val (.int (5 : Int32)), .val (.int (4 : Int32))] [(.int (5 : Int32))])
  refine own_step (fun _ k => XS.iloadN X0.here hx rfl (hb hby d5_1) rfl k) ?_
  show own_Wp p e below _ s₁ (mkF m 2 #[.val (.int (5 : Int32)), .val (.int (4 : Int32))] [(.int (4 : Int32)), (.int (5 : Int32))])
  refine own_step (fun _ k => XS.icmpNo X0.here hx rfl (hb hby d5_2) rfl (by decide) k) ?_
  show own_Wp p e below _ s₁ (mkF m 5 #[.val (.int (5 : Int32)), .val (.int (4 : Int32))] [])
  refine own_step (fun _ k => XS.iloadN X0.here hx rfl (hb hby d5_5) rfl k) ?_
  show own_Wp p e below _ s₁ (mkF m 6 #[.val (.int (5 : Int32)), .val (.int (4 : Int32))] [(.int (5 : Int32))])
  refine own_step (fun _ k => XS.goto X0.here hx rfl (pc0 := 6) (pc' := 10) rfl (hb hby d5_6) (by decide) (by decide) k) ?_
  show own_Wp p e below _ s₁ (mkF m 10 #[.val (.int (5 : Int32)), .val (.int (4 : Int32))] [(.int (5 : Int32))])
  exact own_retI X0 hx hret hlk (hb hby d5_10) (by decide) (by decide) (by rw [e0]; exact ⟨rfl, (Fr.nil n0), rfl⟩)

set_option maxRecDepth 65536 in
set_option maxHeartbeats 40000000 in
theorem rm3_110 (l : Launch) (Z : State) (a0 : Array Value) (hw : ∀ d ∈ tables_1, d.before a0 Z = true) (hA : ∀ d ∈ own_flat narrow_1, d.value a0 Z none Z [] = some true) (ws : List Jvm.Cond) (h0 : Heap) (n0 : Nat) (O0 : Old Z n0 h0) :
    own_Met l Z (⟨"com/example/pathfare/pathfare/alto/TypeIsCompatibleWithPinLaw", "expected", "(II)Z"⟩ : MethodName) (Jvm.Cond.code (⟨"com/example/pathfare/pathfare/alto/TypeIsCompatibleWithPinLaw", "expected", "(II)Z"⟩ : MethodName) method_3_code 4 (some .boolean)) ws ({ frames := 1, cells := 0, slots := 0, locals := 13 } : Room) #[(.int (5 : Int32)), (.int (4 : Int32))] h0 (fun v h L => (v = some (.int (0 : Int32)) ∧ Fr n0 L ∧ h = h0)) := by
  refine own_met (own := "com/example/pathfare/pathfare/alto/TypeIsCompatibleWithPinLaw") (plainFor_of_name pn0) rfl ?_
  intro p e s m below meth c s₁ hx hby hml hown hnm hret hlk hZ e0 X0
  refine own_cast (g' := (mkF m 0 #[.val (.int (5 : Int32)), .val (.int (4 : Int32)), .unset, .unset] [])) (by first | (simp [entryFrame, mkF, argsToLocals, Value.category]; done) | rfl) ?_
  refine own_step (fun _ k => XS.iloadN X0.here hx rfl (hb hby d3_0) rfl k) ?_
  show own_Wp p e below _ s₁ (mkF m 1 #[.val (.int (5 : Int32)), .val (.int (4 : Int32)), .unset, .unset] [(.int (5 : Int32))])
  refine own_step (fun _ k => XS.iloadN X0.here hx rfl (hb hby d3_1) rfl k) ?_
  show own_Wp p e below _ s₁ (mkF m 2 #[.val (.int (5 : Int32)), .val (.int (4 : Int32)), .unset, .unset] [(.int (4 : Int32)), (.int (5 : Int32))])
  refine own_step (fun _ k => XS.icmpYes X0.here hx rfl (pc0 := 2) (pc' := 7) rfl (hb hby d3_2) rfl (by decide) (by decide) (by decide) k) ?_
  show own_Wp p e below _ s₁ (mkF m 7 #[.val (.int (5 : Int32)), .val (.int (4 : Int32)), .unset, .unset] [])
  refine own_step (fun _ k => XS.iloadN X0.here hx rfl (hb hby d3_7) rfl k) ?_
  show own_Wp p e below _ s₁ (mkF m 8 #[.val (.int (5 : Int32)), .val (.int (4 : Int32)), .unset, .unset] [(.int (5 : Int32))])
  refine own_step (fun _ k => XS.iloadN X0.here hx rfl (hb hby d3_8) rfl k) ?_
  show own_Wp p e below _ s₁ (mkF m 9 #[.val (.int (5 : Int32)), .val (.int (4 : Int32)), .unset, .unset] [(.int (4 : Int32)), (.int (5 : Int32))])
  obtain ⟨_, T1, L1, X1, hQ1, st1⟩ := own_callS X0 hx hZ hown (hw _ (List.mem_of_getElem? (i := 20) rfl)) (hw _ (List.mem_of_getElem? (i := 21) rfl)) (hw _ (List.mem_of_getElem? (i := 22) rfl)) (hw _ (List.mem_of_getElem? (i := 23) rfl)) (by decide) (rm4_108 l Z a0 hw hA [] h0 n0 O0) (W := 0) (by decide) (by decide) [(.int (5 : Int32)), (.int (4 : Int32))] rfl (lenOf pd5 rfl) (Ls := #[.val (.int (5 : Int32)), .val (.int (4 : Int32)), .unset, .unset]) (by rw [hml]; rfl) (rest := []) (Nat.le_of_eq rfl) (hb hby d3_9) e0 (by decide) (by decide)
  refine st1 _ ?_
  obtain ⟨rfl, N1q, e1⟩ := hQ1
  have N1 := Fr.app (Fr.nil n0) N1q
  show own_Wp p e below _ T1 (mkF m 12 #[.val (.int (5 : Int32)), .val (.int (4 : Int32)), .unset, .unset] [(.int (4 : Int32))])
  refine own_step (fun _ k => XS.istoreN X1.here hx rfl (hb hby d3_12) rfl (l' := #[.val (.int (5 : Int32)), .val (.int (4 : Int32)), .val (.int (4 : Int32)), .unset]) rfl k) ?_
  show own_Wp p e below _ T1 (mkF m 13 #[.val (.int (5 : Int32)), .val (.int (4 : Int32)), .val (.int (4 : Int32)), .unset] [])
  refine own_step (fun _ k => XS.iloadN X1.here hx rfl (hb hby d3_13) rfl k) ?_
  show own_Wp p e below _ T1 (mkF m 14 #[.val (.int (5 : Int32)), .val (.int (4 : Int32)), .val (.int (4 : Int32)), .unset] [(.int (5 : Int32))])
  refine own_step (fun _ k => XS.iloadN X1.here hx rfl (hb hby d3_14) rfl k) ?_
  show own_Wp p e below _ T1 (mkF m 15 #[.val (.int (5 : Int32)), .val (.int (4 : Int32)), .val (.int (4 : Int32)), .unset] [(.int (4 : Int32)), (.int (5 : Int32))])
  obtain ⟨_, T2, L2, X2, hQ2, st2⟩ := own_callS X1 hx hZ hown (hw _ (List.mem_of_getElem? (i := 24) rfl)) (hw _ (List.mem_of_getElem? (i := 25) rfl)) (hw _ (List.mem_of_getElem? (i := 22) rfl)) (hw _ (List.mem_of_getElem? (i := 26) rfl)) (by decide) (rm5_109 l Z a0 hw hA [] h0 n0 O0) (W := 0) (by decide) (by decide) [(.int (5 : Int32)), (.int (4 : Int32))] rfl (lenOf pd5 rfl) (Ls := #[.val (.int (5 : Int32)), .val (.int (4 : Int32)), .val (.int (4 : Int32)), .unset]) (by rw [hml]; rfl) (rest := []) (Nat.le_of_eq rfl) (hb hby d3_15) e1 (by decide) (by decide)
  refine st2 _ ?_
  obtain ⟨rfl, N2q, e2⟩ := hQ2
  have N2 := Fr.app N1 N2q
  show own_Wp p e below _ T2 (mkF m 18 #[.val (.int (5 : Int32)), .val (.int (4 : Int32)), .val (.int (4 : Int32)), .unset] [(.int (5 : Int32))])
  refine own_step (fun _ k => XS.istoreN X2.here hx rfl (hb hby d3_18) rfl (l' := #[.val (.int (5 : Int32)), .val (.int (4 : Int32)), .val (.int (4 : Int32)), .val (.int (5 : Int32))]) rfl k) ?_
  show own_Wp p e below _ T2 (mkF m 19 #[.val (.int (5 : Int32)), .val (.int (4 : Int32)), .val (.int (4 : Int32)), .val (.int (5 : Int32))] [])
  refine own_step (fun _ k => XS.iloadN X2.here hx rfl (hb hby d3_19) rfl k) ?_
  show own_Wp p e below _ T2 (mkF m 20 #[.val (.int (5 : Int32)), .val (.int (4 : Int32)), .val (.int (4 : Int32)), .val (.int (5 : Int32))] [(.int (4 : Int32))])
  refine own_step (fun _ k => XS.ifYes X2.here hx rfl (pc0 := 20) (pc' := 39) rfl (hb hby d3_20) rfl (by decide) (by decide) (by decide) k) ?_
  show own_Wp p e below _ T2 (mkF m 39 #[.val (.int (5 : Int32)), .val (.int (4 : Int32)), .val (.int (4 : Int32)), .val (.int (5 : Int32))] [])
  refine own_step (fun _ k => XS.iloadN X2.here hx rfl (hb hby d3_39) rfl k) ?_
  show own_Wp p e below _ T2 (mkF m 40 #[.val (.int (5 : Int32)), .val (.int (4 : Int32)), .val (.int (4 : Int32)), .val (.int (5 : Int32))] [(.int (4 : Int32))])
  refine own_step (fun _ k => XS.iconst X2.here hx rfl (hb hby d3_40) k) ?_
  show own_Wp p e below _ T2 (mkF m 41 #[.val (.int (5 : Int32)), .val (.int (4 : Int32)), .val (.int (4 : Int32)), .val (.int (5 : Int32))] [(.int (1 : Int32)), (.int (4 : Int32))])
  refine own_step (fun _ k => XS.icmpYes X2.here hx rfl (pc0 := 41) (pc' := 60) rfl (hb hby d3_41) rfl (by decide) (by decide) (by decide) k) ?_
  show own_Wp p e below _ T2 (mkF m 60 #[.val (.int (5 : Int32)), .val (.int (4 : Int32)), .val (.int (4 : Int32)), .val (.int (5 : Int32))] [])
  refine own_step (fun _ k => XS.iconst X2.here hx rfl (hb hby d3_60) k) ?_
  show own_Wp p e below _ T2 (mkF m 61 #[.val (.int (5 : Int32)), .val (.int (4 : Int32)), .val (.int (4 : Int32)), .val (.int (5 : Int32))] [(.int (0 : Int32))])
  exact own_retN X2 hx (t := .boolean) hret (by simp) hlk (hb hby d3_61) (by decide) (by decide) (by rw [e2]; exact ⟨rfl, N2, rfl⟩)

set_option maxRecDepth 65536 in
set_option maxHeartbeats 40000000 in
theorem rm3_111 (l : Launch) (Z : State) (a0 : Array Value) (hw : ∀ d ∈ tables_1, d.before a0 Z = true) (hA : ∀ d ∈ own_flat narrow_1, d.value a0 Z none Z [] = some true) (ws : List Jvm.Cond) (h0 : Heap) (n0 : Nat) (O0 : Old Z n0 h0) :
    own_Met l Z (⟨"com/example/pathfare/pathfare/alto/TypeIsCompatibleWithPinLaw", "expected", "(II)Z"⟩ : MethodName) (Jvm.Cond.code (⟨"com/example/pathfare/pathfare/alto/TypeIsCompatibleWithPinLaw", "expected", "(II)Z"⟩ : MethodName) method_3_code 4 (some .boolean)) ws ({ frames := 0, cells := 0, slots := 0, locals := 0 } : Room) #[(.int (5 : Int32)), (.int (5 : Int32))] h0 (fun v h L => (v = some (.int (1 : Int32)) ∧ Fr n0 L ∧ h = h0)) := by
  refine own_met (own := "com/example/pathfare/pathfare/alto/TypeIsCompatibleWithPinLaw") (plainFor_of_name pn0) rfl ?_
  intro p e s m below meth c s₁ hx hby hml hown hnm hret hlk hZ e0 X0
  refine own_cast (g' := (mkF m 0 #[.val (.int (5 : Int32)), .val (.int (5 : Int32)), .unset, .unset] [])) (by first | (simp [entryFrame, mkF, argsToLocals, Value.category]; done) | rfl) ?_
  refine own_step (fun _ k => XS.iloadN X0.here hx rfl (hb hby d3_0) rfl k) ?_
  show own_Wp p e below _ s₁ (mkF m 1 #[.val (.int (5 : Int32)), .val (.int (5 : Int32)), .unset, .unset] [(.int (5 : Int32))])
  refine own_step (fun _ k => XS.iloadN X0.here hx rfl (hb hby d3_1) rfl k) ?_
  show own_Wp p e below _ s₁ (mkF m 2 #[.val (.int (5 : Int32)), .val (.int (5 : Int32)), .unset, .unset] [(.int (5 : Int32)), (.int (5 : Int32))])
  refine own_step (fun _ k => XS.icmpNo X0.here hx rfl (hb hby d3_2) rfl (by decide) k) ?_
  show own_Wp p e below _ s₁ (mkF m 5 #[.val (.int (5 : Int32)), .val (.int (5 : Int32)), .unset, .unset] [])
  refine own_step (fun _ k => XS.iconst X0.here hx rfl (hb hby d3_5) k) ?_
  show own_Wp p e below _ s₁ (mkF m 6 #[.val (.int (5 : Int32)), .val (.int (5 : Int32)), .unset, .unset] [(.int (1 : Int32))])
  exact own_retN X0 hx (t := .boolean) hret (by simp) hlk (hb hby d3_6) (by decide) (by decide) (by rw [e0]; exact ⟨rfl, (Fr.nil n0), rfl⟩)

set_option maxRecDepth 65536 in
set_option maxHeartbeats 40000000 in
theorem rm0 (l : Launch) (Z : State) (a0 : Array Value) (hw : ∀ d ∈ tables_1, d.before a0 Z = true) (hA : ∀ d ∈ own_flat narrow_1, d.value a0 Z none Z [] = some true) (ws : List Jvm.Cond) (p0 : Int32) (p1 : Int32) (h0 : Heap) (n0 : Nat) (O0 : Old Z n0 h0) :
    own_Met l Z x (Jvm.Cond.code x code maxLocals ret) ws room_1 #[(.int p0), (.int p1)] h0 (fun v h L => v = some (.int (1 : Int32)) ∧ Fr n0 L) := by
  refine own_met (own := "com/example/pathfare/pathfare/alto/TypeIsCompatibleWithPinLaw") (plainFor_of_name pn0) rfl ?_
  intro p e s m below meth c s₁ hx hby hml hown hnm hret hlk hZ e0 X0
  refine own_cast (g' := (mkF m 0 #[.val (.int p0), .val (.int p1), .unset, .unset, .unset, .unset] [])) (by first | (simp [entryFrame, mkF, argsToLocals, Value.category, maxLocals]; done) | rfl) ?_
  show own_Wp p e below _ s₁ (mkF m 0 #[.val (.int p0), .val (.int p1), .unset, .unset, .unset, .unset] [])
  refine own_step (fun _ k => XS.iloadN X0.here hx rfl (hb hby at_0) rfl k) ?_
  show own_Wp p e below _ s₁ (mkF m 1 #[.val (.int p0), .val (.int p1), .unset, .unset, .unset, .unset] [(.int p0)])
  refine own_step (X0.ldcInt hx hown (mvT hZ (hw _ (List.mem_of_getElem? (i := 0) rfl))) (g := (mkF m 1 #[.val (.int p0), .val (.int p1), .unset, .unset, .unset, .unset] [(.int p0)])) rfl (hb hby at_1)) ?_
  show own_Wp p e below _ s₁ (mkF m 3 #[.val (.int p0), .val (.int p1), .unset, .unset, .unset, .unset] [(.int (2147483647 : Int32)), (.int p0)])
  refine own_step (fun _ k => XS.iand X0.here hx rfl (hb hby at_3) rfl k) ?_
  show own_Wp p e below _ s₁ (mkF m 4 #[.val (.int p0), .val (.int p1), .unset, .unset, .unset, .unset] [(.int (p0 &&& (2147483647 : Int32)))])
  refine own_step (fun _ k => XS.bipush X0.here hx rfl (hb hby at_4) k) ?_
  show own_Wp p e below _ s₁ (mkF m 6 #[.val (.int p0), .val (.int p1), .unset, .unset, .unset, .unset] [(.int (6 : Int32)), (.int (p0 &&& (2147483647 : Int32)))])
  refine own_step (fun _ k => iremM (g := (mkF m 6 #[.val (.int p0), .val (.int p1), .unset, .unset, .unset, .unset] [(.int (6 : Int32)), (.int (p0 &&& (2147483647 : Int32)))])) X0 hx rfl (hb hby at_6) rfl (by decide) k) ?_
  show own_Wp p e below _ s₁ (mkF m 7 #[.val (.int p0), .val (.int p1), .unset, .unset, .unset, .unset] [(.int ((p0 &&& (2147483647 : Int32)) % (6 : Int32)))])
  rcases own_mod6 p0 with hm | hm | hm | hm | hm | hm
  · skip
    rw [hm]
    show own_Wp p e below _ s₁ (mkF m 7 #[.val (.int p0), .val (.int p1), .unset, .unset, .unset, .unset] [(.int (0 : Int32))])
    refine own_step (fun _ k => XS.istoreN X0.here hx rfl (hb hby at_7) rfl (l' := #[.val (.int p0), .val (.int p1), .val (.int (0 : Int32)), .unset, .unset, .unset]) rfl k) ?_
    show own_Wp p e below _ s₁ (mkF m 8 #[.val (.int p0), .val (.int p1), .val (.int (0 : Int32)), .unset, .unset, .unset] [])
    refine own_step (fun _ k => XS.iloadN X0.here hx rfl (hb hby at_8) rfl k) ?_
    show own_Wp p e below _ s₁ (mkF m 9 #[.val (.int p0), .val (.int p1), .val (.int (0 : Int32)), .unset, .unset, .unset] [(.int p1)])
    refine own_step (X0.ldcInt hx hown (mvT hZ (hw _ (List.mem_of_getElem? (i := 0) rfl))) (g := (mkF m 9 #[.val (.int p0), .val (.int p1), .val (.int (0 : Int32)), .unset, .unset, .unset] [(.int p1)])) rfl (hb hby at_9)) ?_
    show own_Wp p e below _ s₁ (mkF m 11 #[.val (.int p0), .val (.int p1), .val (.int (0 : Int32)), .unset, .unset, .unset] [(.int (2147483647 : Int32)), (.int p1)])
    refine own_step (fun _ k => XS.iand X0.here hx rfl (hb hby at_11) rfl k) ?_
    show own_Wp p e below _ s₁ (mkF m 12 #[.val (.int p0), .val (.int p1), .val (.int (0 : Int32)), .unset, .unset, .unset] [(.int (p1 &&& (2147483647 : Int32)))])
    refine own_step (fun _ k => XS.bipush X0.here hx rfl (hb hby at_12) k) ?_
    show own_Wp p e below _ s₁ (mkF m 14 #[.val (.int p0), .val (.int p1), .val (.int (0 : Int32)), .unset, .unset, .unset] [(.int (6 : Int32)), (.int (p1 &&& (2147483647 : Int32)))])
    refine own_step (fun _ k => iremM (g := (mkF m 14 #[.val (.int p0), .val (.int p1), .val (.int (0 : Int32)), .unset, .unset, .unset] [(.int (6 : Int32)), (.int (p1 &&& (2147483647 : Int32)))])) X0 hx rfl (hb hby at_14) rfl (by decide) k) ?_
    show own_Wp p e below _ s₁ (mkF m 15 #[.val (.int p0), .val (.int p1), .val (.int (0 : Int32)), .unset, .unset, .unset] [(.int ((p1 &&& (2147483647 : Int32)) % (6 : Int32)))])
    rcases own_mod6 p1 with hm | hm | hm | hm | hm | hm
    · skip
      rw [hm]
      show own_Wp p e below _ s₁ (mkF m 15 #[.val (.int p0), .val (.int p1), .val (.int (0 : Int32)), .unset, .unset, .unset] [(.int (0 : Int32))])
      refine own_step (fun _ k => XS.istoreN X0.here hx rfl (hb hby at_15) rfl (l' := #[.val (.int p0), .val (.int p1), .val (.int (0 : Int32)), .val (.int (0 : Int32)), .unset, .unset]) rfl k) ?_
      show own_Wp p e below _ s₁ (mkF m 16 #[.val (.int p0), .val (.int p1), .val (.int (0 : Int32)), .val (.int (0 : Int32)), .unset, .unset] [])
      refine own_step (fun _ k => XS.iloadN X0.here hx rfl (hb hby at_16) rfl k) ?_
      show own_Wp p e below _ s₁ (mkF m 17 #[.val (.int p0), .val (.int p1), .val (.int (0 : Int32)), .val (.int (0 : Int32)), .unset, .unset] [(.int (0 : Int32))])
      obtain ⟨_, T1, L1, X1, hQ1, st1⟩ := own_callS X0 hx hZ hown (hw _ (List.mem_of_getElem? (i := 1) rfl)) (hw _ (List.mem_of_getElem? (i := 2) rfl)) (hw _ (List.mem_of_getElem? (i := 3) rfl)) (hw _ (List.mem_of_getElem? (i := 4) rfl)) (by decide) (rm1_0 l Z a0 hw hA [] h0 n0 O0) (W := 0) (by decide) (by decide) [(.int (0 : Int32))] rfl (lenOf pd1 rfl) (Ls := #[.val (.int p0), .val (.int p1), .val (.int (0 : Int32)), .val (.int (0 : Int32)), .unset, .unset]) (by rw [hml]; rfl) (rest := []) (Nat.le_of_eq rfl) (hb hby at_17) e0 (by decide) (by decide)
      refine st1 _ ?_
      obtain ⟨rfl, N1q, e1⟩ := hQ1
      have N1 := Fr.app (Fr.nil n0) N1q
      show own_Wp p e below _ T1 (mkF m 20 #[.val (.int p0), .val (.int p1), .val (.int (0 : Int32)), .val (.int (0 : Int32)), .unset, .unset] [(.ref (w0_IPV4 Z))])
      refine own_step (fun _ k => XS.astore X1.here hx rfl (hb hby at_20) rfl rfl (l' := #[.val (.int p0), .val (.int p1), .val (.int (0 : Int32)), .val (.int (0 : Int32)), .val (.ref (w0_IPV4 Z)), .unset]) rfl k) ?_
      show own_Wp p e below _ T1 (mkF m 22 #[.val (.int p0), .val (.int p1), .val (.int (0 : Int32)), .val (.int (0 : Int32)), .val (.ref (w0_IPV4 Z)), .unset] [])
      refine own_step (fun _ k => XS.iloadN X1.here hx rfl (hb hby at_22) rfl k) ?_
      show own_Wp p e below _ T1 (mkF m 23 #[.val (.int p0), .val (.int p1), .val (.int (0 : Int32)), .val (.int (0 : Int32)), .val (.ref (w0_IPV4 Z)), .unset] [(.int (0 : Int32))])
      obtain ⟨_, T2, L2, X2, hQ2, st2⟩ := own_callS X1 hx hZ hown (hw _ (List.mem_of_getElem? (i := 1) rfl)) (hw _ (List.mem_of_getElem? (i := 2) rfl)) (hw _ (List.mem_of_getElem? (i := 3) rfl)) (hw _ (List.mem_of_getElem? (i := 4) rfl)) (by decide) (rm1_0 l Z a0 hw hA [] h0 n0 O0) (W := 0) (by decide) (by decide) [(.int (0 : Int32))] rfl (lenOf pd1 rfl) (Ls := #[.val (.int p0), .val (.int p1), .val (.int (0 : Int32)), .val (.int (0 : Int32)), .val (.ref (w0_IPV4 Z)), .unset]) (by rw [hml]; rfl) (rest := []) (Nat.le_of_eq rfl) (hb hby at_23) e1 (by decide) (by decide)
      refine st2 _ ?_
      obtain ⟨rfl, N2q, e2⟩ := hQ2
      have N2 := Fr.app N1 N2q
      show own_Wp p e below _ T2 (mkF m 26 #[.val (.int p0), .val (.int p1), .val (.int (0 : Int32)), .val (.int (0 : Int32)), .val (.ref (w0_IPV4 Z)), .unset] [(.ref (w0_IPV4 Z))])
      refine own_step (fun _ k => XS.astore X2.here hx rfl (hb hby at_26) rfl rfl (l' := #[.val (.int p0), .val (.int p1), .val (.int (0 : Int32)), .val (.int (0 : Int32)), .val (.ref (w0_IPV4 Z)), .val (.ref (w0_IPV4 Z))]) rfl k) ?_
      show own_Wp p e below _ T2 (mkF m 28 #[.val (.int p0), .val (.int p1), .val (.int (0 : Int32)), .val (.int (0 : Int32)), .val (.ref (w0_IPV4 Z)), .val (.ref (w0_IPV4 Z))] [])
      refine own_step (fun _ k => XS.aload X2.here hx rfl (hb hby at_28) rfl rfl k) ?_
      show own_Wp p e below _ T2 (mkF m 30 #[.val (.int p0), .val (.int p1), .val (.int (0 : Int32)), .val (.int (0 : Int32)), .val (.ref (w0_IPV4 Z)), .val (.ref (w0_IPV4 Z))] [(.ref (w0_IPV4 Z))])
      refine own_step (fun _ k => XS.aload X2.here hx rfl (hb hby at_30) rfl rfl k) ?_
      show own_Wp p e below _ T2 (mkF m 32 #[.val (.int p0), .val (.int p1), .val (.int (0 : Int32)), .val (.int (0 : Int32)), .val (.ref (w0_IPV4 Z)), .val (.ref (w0_IPV4 Z))] [(.ref (w0_IPV4 Z)), (.ref (w0_IPV4 Z))])
      obtain ⟨_, T3, L3, X3, hQ3, st3⟩ := own_callV X2 hx hZ hown (hw _ (List.mem_of_getElem? (i := 10) rfl)) (hw _ (List.mem_of_getElem? (i := 11) rfl)) (notFace_of_selects (args := #[]) (mvT hZ (hw _ (List.mem_of_getElem? (i := 13) rfl)))) (hw _ (List.mem_of_getElem? (i := 13) rfl)) (hw _ (List.mem_of_getElem? (i := 12) rfl)) (hw _ (List.mem_of_getElem? (i := 6) rfl)) (hw _ (List.mem_of_getElem? (i := 14) rfl)) (by decide) ((ex_w0_IPV4 hw hA).ext O0.2) (rm2_1 l Z a0 hw hA [] (w0_IPV4 Z) h0 n0 O0 (fl0 hw hA)) (W := 0) (by decide) (by decide) [(.ref (w0_IPV4 Z))] rfl (lenOf pd3 rfl) (Ls := #[.val (.int p0), .val (.int p1), .val (.int (0 : Int32)), .val (.int (0 : Int32)), .val (.ref (w0_IPV4 Z)), .val (.ref (w0_IPV4 Z))]) (by rw [hml]; rfl) (rest := []) (Nat.le_of_eq rfl) (hb hby at_32) e2 (by decide) (by decide)
      refine st3 _ ?_
      obtain ⟨rfl, N3q, e3⟩ := hQ3
      have N3 := Fr.app N2 N3q
      show own_Wp p e below _ T3 (mkF m 35 #[.val (.int p0), .val (.int p1), .val (.int (0 : Int32)), .val (.int (0 : Int32)), .val (.ref (w0_IPV4 Z)), .val (.ref (w0_IPV4 Z))] [(.int (1 : Int32))])
      refine own_step (fun _ k => XS.iloadN X3.here hx rfl (hb hby at_35) rfl k) ?_
      show own_Wp p e below _ T3 (mkF m 36 #[.val (.int p0), .val (.int p1), .val (.int (0 : Int32)), .val (.int (0 : Int32)), .val (.ref (w0_IPV4 Z)), .val (.ref (w0_IPV4 Z))] [(.int (0 : Int32)), (.int (1 : Int32))])
      refine own_step (fun _ k => XS.iloadN X3.here hx rfl (hb hby at_36) rfl k) ?_
      show own_Wp p e below _ T3 (mkF m 37 #[.val (.int p0), .val (.int p1), .val (.int (0 : Int32)), .val (.int (0 : Int32)), .val (.ref (w0_IPV4 Z)), .val (.ref (w0_IPV4 Z))] [(.int (0 : Int32)), (.int (0 : Int32)), (.int (1 : Int32))])
      obtain ⟨_, T4, L4, X4, hQ4, st4⟩ := own_callS X3 hx hZ hown (hw _ (List.mem_of_getElem? (i := 17) rfl)) (hw _ (List.mem_of_getElem? (i := 18) rfl)) (hw _ (List.mem_of_getElem? (i := 3) rfl)) (hw _ (List.mem_of_getElem? (i := 19) rfl)) (by decide) (rm3_2 l Z a0 hw hA [] h0 n0 O0) (W := 1) (by decide) (by decide) [(.int (0 : Int32)), (.int (0 : Int32))] rfl (lenOf pd4 rfl) (Ls := #[.val (.int p0), .val (.int p1), .val (.int (0 : Int32)), .val (.int (0 : Int32)), .val (.ref (w0_IPV4 Z)), .val (.ref (w0_IPV4 Z))]) (by rw [hml]; rfl) (rest := [(.int (1 : Int32))]) (Nat.le_of_eq rfl) (hb hby at_37) e3 (by decide) (by decide)
      refine st4 _ ?_
      obtain ⟨rfl, N4q, e4⟩ := hQ4
      have N4 := Fr.app N3 N4q
      show own_Wp p e below _ T4 (mkF m 40 #[.val (.int p0), .val (.int p1), .val (.int (0 : Int32)), .val (.int (0 : Int32)), .val (.ref (w0_IPV4 Z)), .val (.ref (w0_IPV4 Z))] [(.int (1 : Int32)), (.int (1 : Int32))])
      refine own_step (fun _ k => XS.icmpNo X4.here hx rfl (hb hby at_40) rfl (by decide) k) ?_
      show own_Wp p e below _ T4 (mkF m 43 #[.val (.int p0), .val (.int p1), .val (.int (0 : Int32)), .val (.int (0 : Int32)), .val (.ref (w0_IPV4 Z)), .val (.ref (w0_IPV4 Z))] [])
      refine own_step (fun _ k => XS.iconst X4.here hx rfl (hb hby at_43) k) ?_
      show own_Wp p e below _ T4 (mkF m 44 #[.val (.int p0), .val (.int p1), .val (.int (0 : Int32)), .val (.int (0 : Int32)), .val (.ref (w0_IPV4 Z)), .val (.ref (w0_IPV4 Z))] [(.int (1 : Int32))])
      refine own_step (fun _ k => XS.goto X4.here hx rfl (pc0 := 44) (pc' := 48) rfl (hb hby at_44) (by decide) (by decide) k) ?_
      show own_Wp p e below _ T4 (mkF m 48 #[.val (.int p0), .val (.int p1), .val (.int (0 : Int32)), .val (.int (0 : Int32)), .val (.ref (w0_IPV4 Z)), .val (.ref (w0_IPV4 Z))] [(.int (1 : Int32))])
      exact own_retN X4 hx (t := .boolean) hret (by simp) hlk (hb hby at_48) (by decide) (by decide) ⟨rfl, N4⟩
    · skip
      rw [hm]
      show own_Wp p e below _ s₁ (mkF m 15 #[.val (.int p0), .val (.int p1), .val (.int (0 : Int32)), .unset, .unset, .unset] [(.int (1 : Int32))])
      refine own_step (fun _ k => XS.istoreN X0.here hx rfl (hb hby at_15) rfl (l' := #[.val (.int p0), .val (.int p1), .val (.int (0 : Int32)), .val (.int (1 : Int32)), .unset, .unset]) rfl k) ?_
      show own_Wp p e below _ s₁ (mkF m 16 #[.val (.int p0), .val (.int p1), .val (.int (0 : Int32)), .val (.int (1 : Int32)), .unset, .unset] [])
      refine own_step (fun _ k => XS.iloadN X0.here hx rfl (hb hby at_16) rfl k) ?_
      show own_Wp p e below _ s₁ (mkF m 17 #[.val (.int p0), .val (.int p1), .val (.int (0 : Int32)), .val (.int (1 : Int32)), .unset, .unset] [(.int (0 : Int32))])
      obtain ⟨_, T5, L5, X5, hQ5, st5⟩ := own_callS X0 hx hZ hown (hw _ (List.mem_of_getElem? (i := 1) rfl)) (hw _ (List.mem_of_getElem? (i := 2) rfl)) (hw _ (List.mem_of_getElem? (i := 3) rfl)) (hw _ (List.mem_of_getElem? (i := 4) rfl)) (by decide) (rm1_0 l Z a0 hw hA [] h0 n0 O0) (W := 0) (by decide) (by decide) [(.int (0 : Int32))] rfl (lenOf pd1 rfl) (Ls := #[.val (.int p0), .val (.int p1), .val (.int (0 : Int32)), .val (.int (1 : Int32)), .unset, .unset]) (by rw [hml]; rfl) (rest := []) (Nat.le_of_eq rfl) (hb hby at_17) e0 (by decide) (by decide)
      refine st5 _ ?_
      obtain ⟨rfl, N5q, e5⟩ := hQ5
      have N5 := Fr.app (Fr.nil n0) N5q
      show own_Wp p e below _ T5 (mkF m 20 #[.val (.int p0), .val (.int p1), .val (.int (0 : Int32)), .val (.int (1 : Int32)), .unset, .unset] [(.ref (w0_IPV4 Z))])
      refine own_step (fun _ k => XS.astore X5.here hx rfl (hb hby at_20) rfl rfl (l' := #[.val (.int p0), .val (.int p1), .val (.int (0 : Int32)), .val (.int (1 : Int32)), .val (.ref (w0_IPV4 Z)), .unset]) rfl k) ?_
      show own_Wp p e below _ T5 (mkF m 22 #[.val (.int p0), .val (.int p1), .val (.int (0 : Int32)), .val (.int (1 : Int32)), .val (.ref (w0_IPV4 Z)), .unset] [])
      refine own_step (fun _ k => XS.iloadN X5.here hx rfl (hb hby at_22) rfl k) ?_
      show own_Wp p e below _ T5 (mkF m 23 #[.val (.int p0), .val (.int p1), .val (.int (0 : Int32)), .val (.int (1 : Int32)), .val (.ref (w0_IPV4 Z)), .unset] [(.int (1 : Int32))])
      obtain ⟨_, T6, L6, X6, hQ6, st6⟩ := own_callS X5 hx hZ hown (hw _ (List.mem_of_getElem? (i := 1) rfl)) (hw _ (List.mem_of_getElem? (i := 2) rfl)) (hw _ (List.mem_of_getElem? (i := 3) rfl)) (hw _ (List.mem_of_getElem? (i := 4) rfl)) (by decide) (rm1_3 l Z a0 hw hA [] h0 n0 O0) (W := 0) (by decide) (by decide) [(.int (1 : Int32))] rfl (lenOf pd1 rfl) (Ls := #[.val (.int p0), .val (.int p1), .val (.int (0 : Int32)), .val (.int (1 : Int32)), .val (.ref (w0_IPV4 Z)), .unset]) (by rw [hml]; rfl) (rest := []) (Nat.le_of_eq rfl) (hb hby at_23) e5 (by decide) (by decide)
      refine st6 _ ?_
      obtain ⟨rfl, N6q, e6⟩ := hQ6
      have N6 := Fr.app N5 N6q
      show own_Wp p e below _ T6 (mkF m 26 #[.val (.int p0), .val (.int p1), .val (.int (0 : Int32)), .val (.int (1 : Int32)), .val (.ref (w0_IPV4 Z)), .unset] [(.ref (w3_IPV6 Z))])
      refine own_step (fun _ k => XS.astore X6.here hx rfl (hb hby at_26) rfl rfl (l' := #[.val (.int p0), .val (.int p1), .val (.int (0 : Int32)), .val (.int (1 : Int32)), .val (.ref (w0_IPV4 Z)), .val (.ref (w3_IPV6 Z))]) rfl k) ?_
      show own_Wp p e below _ T6 (mkF m 28 #[.val (.int p0), .val (.int p1), .val (.int (0 : Int32)), .val (.int (1 : Int32)), .val (.ref (w0_IPV4 Z)), .val (.ref (w3_IPV6 Z))] [])
      refine own_step (fun _ k => XS.aload X6.here hx rfl (hb hby at_28) rfl rfl k) ?_
      show own_Wp p e below _ T6 (mkF m 30 #[.val (.int p0), .val (.int p1), .val (.int (0 : Int32)), .val (.int (1 : Int32)), .val (.ref (w0_IPV4 Z)), .val (.ref (w3_IPV6 Z))] [(.ref (w0_IPV4 Z))])
      refine own_step (fun _ k => XS.aload X6.here hx rfl (hb hby at_30) rfl rfl k) ?_
      show own_Wp p e below _ T6 (mkF m 32 #[.val (.int p0), .val (.int p1), .val (.int (0 : Int32)), .val (.int (1 : Int32)), .val (.ref (w0_IPV4 Z)), .val (.ref (w3_IPV6 Z))] [(.ref (w3_IPV6 Z)), (.ref (w0_IPV4 Z))])
      obtain ⟨_, T7, L7, X7, hQ7, st7⟩ := own_callV X6 hx hZ hown (hw _ (List.mem_of_getElem? (i := 10) rfl)) (hw _ (List.mem_of_getElem? (i := 11) rfl)) (notFace_of_selects (args := #[]) (mvT hZ (hw _ (List.mem_of_getElem? (i := 13) rfl)))) (hw _ (List.mem_of_getElem? (i := 13) rfl)) (hw _ (List.mem_of_getElem? (i := 12) rfl)) (hw _ (List.mem_of_getElem? (i := 6) rfl)) (hw _ (List.mem_of_getElem? (i := 14) rfl)) (by decide) ((ex_w0_IPV4 hw hA).ext O0.2) (rm2_4 l Z a0 hw hA [] (w0_IPV4 Z) (w3_IPV6 Z) h0 n0 O0 (fl0 hw hA) (fl3 hw hA)) (W := 0) (by decide) (by decide) [(.ref (w3_IPV6 Z))] rfl (lenOf pd3 rfl) (Ls := #[.val (.int p0), .val (.int p1), .val (.int (0 : Int32)), .val (.int (1 : Int32)), .val (.ref (w0_IPV4 Z)), .val (.ref (w3_IPV6 Z))]) (by rw [hml]; rfl) (rest := []) (Nat.le_of_eq rfl) (hb hby at_32) e6 (by decide) (by decide)
      refine st7 _ ?_
      obtain ⟨rfl, N7q, e7⟩ := hQ7
      have N7 := Fr.app N6 N7q
      show own_Wp p e below _ T7 (mkF m 35 #[.val (.int p0), .val (.int p1), .val (.int (0 : Int32)), .val (.int (1 : Int32)), .val (.ref (w0_IPV4 Z)), .val (.ref (w3_IPV6 Z))] [(.int (0 : Int32))])
      refine own_step (fun _ k => XS.iloadN X7.here hx rfl (hb hby at_35) rfl k) ?_
      show own_Wp p e below _ T7 (mkF m 36 #[.val (.int p0), .val (.int p1), .val (.int (0 : Int32)), .val (.int (1 : Int32)), .val (.ref (w0_IPV4 Z)), .val (.ref (w3_IPV6 Z))] [(.int (0 : Int32)), (.int (0 : Int32))])
      refine own_step (fun _ k => XS.iloadN X7.here hx rfl (hb hby at_36) rfl k) ?_
      show own_Wp p e below _ T7 (mkF m 37 #[.val (.int p0), .val (.int p1), .val (.int (0 : Int32)), .val (.int (1 : Int32)), .val (.ref (w0_IPV4 Z)), .val (.ref (w3_IPV6 Z))] [(.int (1 : Int32)), (.int (0 : Int32)), (.int (0 : Int32))])
      obtain ⟨_, T8, L8, X8, hQ8, st8⟩ := own_callS X7 hx hZ hown (hw _ (List.mem_of_getElem? (i := 17) rfl)) (hw _ (List.mem_of_getElem? (i := 18) rfl)) (hw _ (List.mem_of_getElem? (i := 3) rfl)) (hw _ (List.mem_of_getElem? (i := 19) rfl)) (by decide) (rm3_7 l Z a0 hw hA [] h0 n0 O0) (W := 1) (by decide) (by decide) [(.int (0 : Int32)), (.int (1 : Int32))] rfl (lenOf pd4 rfl) (Ls := #[.val (.int p0), .val (.int p1), .val (.int (0 : Int32)), .val (.int (1 : Int32)), .val (.ref (w0_IPV4 Z)), .val (.ref (w3_IPV6 Z))]) (by rw [hml]; rfl) (rest := [(.int (0 : Int32))]) (Nat.le_of_eq rfl) (hb hby at_37) e7 (by decide) (by decide)
      refine st8 _ ?_
      obtain ⟨rfl, N8q, e8⟩ := hQ8
      have N8 := Fr.app N7 N8q
      show own_Wp p e below _ T8 (mkF m 40 #[.val (.int p0), .val (.int p1), .val (.int (0 : Int32)), .val (.int (1 : Int32)), .val (.ref (w0_IPV4 Z)), .val (.ref (w3_IPV6 Z))] [(.int (0 : Int32)), (.int (0 : Int32))])
      refine own_step (fun _ k => XS.icmpNo X8.here hx rfl (hb hby at_40) rfl (by decide) k) ?_
      show own_Wp p e below _ T8 (mkF m 43 #[.val (.int p0), .val (.int p1), .val (.int (0 : Int32)), .val (.int (1 : Int32)), .val (.ref (w0_IPV4 Z)), .val (.ref (w3_IPV6 Z))] [])
      refine own_step (fun _ k => XS.iconst X8.here hx rfl (hb hby at_43) k) ?_
      show own_Wp p e below _ T8 (mkF m 44 #[.val (.int p0), .val (.int p1), .val (.int (0 : Int32)), .val (.int (1 : Int32)), .val (.ref (w0_IPV4 Z)), .val (.ref (w3_IPV6 Z))] [(.int (1 : Int32))])
      refine own_step (fun _ k => XS.goto X8.here hx rfl (pc0 := 44) (pc' := 48) rfl (hb hby at_44) (by decide) (by decide) k) ?_
      show own_Wp p e below _ T8 (mkF m 48 #[.val (.int p0), .val (.int p1), .val (.int (0 : Int32)), .val (.int (1 : Int32)), .val (.ref (w0_IPV4 Z)), .val (.ref (w3_IPV6 Z))] [(.int (1 : Int32))])
      exact own_retN X8 hx (t := .boolean) hret (by simp) hlk (hb hby at_48) (by decide) (by decide) ⟨rfl, N8⟩
    · skip
      rw [hm]
      show own_Wp p e below _ s₁ (mkF m 15 #[.val (.int p0), .val (.int p1), .val (.int (0 : Int32)), .unset, .unset, .unset] [(.int (2 : Int32))])
      refine own_step (fun _ k => XS.istoreN X0.here hx rfl (hb hby at_15) rfl (l' := #[.val (.int p0), .val (.int p1), .val (.int (0 : Int32)), .val (.int (2 : Int32)), .unset, .unset]) rfl k) ?_
      show own_Wp p e below _ s₁ (mkF m 16 #[.val (.int p0), .val (.int p1), .val (.int (0 : Int32)), .val (.int (2 : Int32)), .unset, .unset] [])
      refine own_step (fun _ k => XS.iloadN X0.here hx rfl (hb hby at_16) rfl k) ?_
      show own_Wp p e below _ s₁ (mkF m 17 #[.val (.int p0), .val (.int p1), .val (.int (0 : Int32)), .val (.int (2 : Int32)), .unset, .unset] [(.int (0 : Int32))])
      obtain ⟨_, T9, L9, X9, hQ9, st9⟩ := own_callS X0 hx hZ hown (hw _ (List.mem_of_getElem? (i := 1) rfl)) (hw _ (List.mem_of_getElem? (i := 2) rfl)) (hw _ (List.mem_of_getElem? (i := 3) rfl)) (hw _ (List.mem_of_getElem? (i := 4) rfl)) (by decide) (rm1_0 l Z a0 hw hA [] h0 n0 O0) (W := 0) (by decide) (by decide) [(.int (0 : Int32))] rfl (lenOf pd1 rfl) (Ls := #[.val (.int p0), .val (.int p1), .val (.int (0 : Int32)), .val (.int (2 : Int32)), .unset, .unset]) (by rw [hml]; rfl) (rest := []) (Nat.le_of_eq rfl) (hb hby at_17) e0 (by decide) (by decide)
      refine st9 _ ?_
      obtain ⟨rfl, N9q, e9⟩ := hQ9
      have N9 := Fr.app (Fr.nil n0) N9q
      show own_Wp p e below _ T9 (mkF m 20 #[.val (.int p0), .val (.int p1), .val (.int (0 : Int32)), .val (.int (2 : Int32)), .unset, .unset] [(.ref (w0_IPV4 Z))])
      refine own_step (fun _ k => XS.astore X9.here hx rfl (hb hby at_20) rfl rfl (l' := #[.val (.int p0), .val (.int p1), .val (.int (0 : Int32)), .val (.int (2 : Int32)), .val (.ref (w0_IPV4 Z)), .unset]) rfl k) ?_
      show own_Wp p e below _ T9 (mkF m 22 #[.val (.int p0), .val (.int p1), .val (.int (0 : Int32)), .val (.int (2 : Int32)), .val (.ref (w0_IPV4 Z)), .unset] [])
      refine own_step (fun _ k => XS.iloadN X9.here hx rfl (hb hby at_22) rfl k) ?_
      show own_Wp p e below _ T9 (mkF m 23 #[.val (.int p0), .val (.int p1), .val (.int (0 : Int32)), .val (.int (2 : Int32)), .val (.ref (w0_IPV4 Z)), .unset] [(.int (2 : Int32))])
      obtain ⟨_, T10, L10, X10, hQ10, st10⟩ := own_callS X9 hx hZ hown (hw _ (List.mem_of_getElem? (i := 1) rfl)) (hw _ (List.mem_of_getElem? (i := 2) rfl)) (hw _ (List.mem_of_getElem? (i := 3) rfl)) (hw _ (List.mem_of_getElem? (i := 4) rfl)) (by decide) (rm1_8 l Z a0 hw hA [] h0 n0 O0) (W := 0) (by decide) (by decide) [(.int (2 : Int32))] rfl (lenOf pd1 rfl) (Ls := #[.val (.int p0), .val (.int p1), .val (.int (0 : Int32)), .val (.int (2 : Int32)), .val (.ref (w0_IPV4 Z)), .unset]) (by rw [hml]; rfl) (rest := []) (Nat.le_of_eq rfl) (hb hby at_23) e9 (by decide) (by decide)
      refine st10 _ ?_
      obtain ⟨rfl, N10q, e10⟩ := hQ10
      have N10 := Fr.app N9 N10q
      show own_Wp p e below _ T10 (mkF m 26 #[.val (.int p0), .val (.int p1), .val (.int (0 : Int32)), .val (.int (2 : Int32)), .val (.ref (w0_IPV4 Z)), .unset] [(.ref (w2_TCP Z))])
      refine own_step (fun _ k => XS.astore X10.here hx rfl (hb hby at_26) rfl rfl (l' := #[.val (.int p0), .val (.int p1), .val (.int (0 : Int32)), .val (.int (2 : Int32)), .val (.ref (w0_IPV4 Z)), .val (.ref (w2_TCP Z))]) rfl k) ?_
      show own_Wp p e below _ T10 (mkF m 28 #[.val (.int p0), .val (.int p1), .val (.int (0 : Int32)), .val (.int (2 : Int32)), .val (.ref (w0_IPV4 Z)), .val (.ref (w2_TCP Z))] [])
      refine own_step (fun _ k => XS.aload X10.here hx rfl (hb hby at_28) rfl rfl k) ?_
      show own_Wp p e below _ T10 (mkF m 30 #[.val (.int p0), .val (.int p1), .val (.int (0 : Int32)), .val (.int (2 : Int32)), .val (.ref (w0_IPV4 Z)), .val (.ref (w2_TCP Z))] [(.ref (w0_IPV4 Z))])
      refine own_step (fun _ k => XS.aload X10.here hx rfl (hb hby at_30) rfl rfl k) ?_
      show own_Wp p e below _ T10 (mkF m 32 #[.val (.int p0), .val (.int p1), .val (.int (0 : Int32)), .val (.int (2 : Int32)), .val (.ref (w0_IPV4 Z)), .val (.ref (w2_TCP Z))] [(.ref (w2_TCP Z)), (.ref (w0_IPV4 Z))])
      obtain ⟨_, T11, L11, X11, hQ11, st11⟩ := own_callV X10 hx hZ hown (hw _ (List.mem_of_getElem? (i := 10) rfl)) (hw _ (List.mem_of_getElem? (i := 11) rfl)) (notFace_of_selects (args := #[]) (mvT hZ (hw _ (List.mem_of_getElem? (i := 13) rfl)))) (hw _ (List.mem_of_getElem? (i := 13) rfl)) (hw _ (List.mem_of_getElem? (i := 12) rfl)) (hw _ (List.mem_of_getElem? (i := 6) rfl)) (hw _ (List.mem_of_getElem? (i := 14) rfl)) (by decide) ((ex_w0_IPV4 hw hA).ext O0.2) (rm2_9 l Z a0 hw hA [] (w0_IPV4 Z) (w2_TCP Z) h0 n0 O0 (fl0 hw hA) (fl2 hw hA) (Fld.ne (fl7 hw hA) (fl14 hw hA) (by decide)) (fl9 hw hA)) (W := 0) (by decide) (by decide) [(.ref (w2_TCP Z))] rfl (lenOf pd3 rfl) (Ls := #[.val (.int p0), .val (.int p1), .val (.int (0 : Int32)), .val (.int (2 : Int32)), .val (.ref (w0_IPV4 Z)), .val (.ref (w2_TCP Z))]) (by rw [hml]; rfl) (rest := []) (Nat.le_of_eq rfl) (hb hby at_32) e10 (by decide) (by decide)
      refine st11 _ ?_
      obtain ⟨rfl, N11q, e11⟩ := hQ11
      have N11 := Fr.app N10 N11q
      show own_Wp p e below _ T11 (mkF m 35 #[.val (.int p0), .val (.int p1), .val (.int (0 : Int32)), .val (.int (2 : Int32)), .val (.ref (w0_IPV4 Z)), .val (.ref (w2_TCP Z))] [(.int (1 : Int32))])
      refine own_step (fun _ k => XS.iloadN X11.here hx rfl (hb hby at_35) rfl k) ?_
      show own_Wp p e below _ T11 (mkF m 36 #[.val (.int p0), .val (.int p1), .val (.int (0 : Int32)), .val (.int (2 : Int32)), .val (.ref (w0_IPV4 Z)), .val (.ref (w2_TCP Z))] [(.int (0 : Int32)), (.int (1 : Int32))])
      refine own_step (fun _ k => XS.iloadN X11.here hx rfl (hb hby at_36) rfl k) ?_
      show own_Wp p e below _ T11 (mkF m 37 #[.val (.int p0), .val (.int p1), .val (.int (0 : Int32)), .val (.int (2 : Int32)), .val (.ref (w0_IPV4 Z)), .val (.ref (w2_TCP Z))] [(.int (2 : Int32)), (.int (0 : Int32)), (.int (1 : Int32))])
      obtain ⟨_, T12, L12, X12, hQ12, st12⟩ := own_callS X11 hx hZ hown (hw _ (List.mem_of_getElem? (i := 17) rfl)) (hw _ (List.mem_of_getElem? (i := 18) rfl)) (hw _ (List.mem_of_getElem? (i := 3) rfl)) (hw _ (List.mem_of_getElem? (i := 19) rfl)) (by decide) (rm3_12 l Z a0 hw hA [] h0 n0 O0) (W := 1) (by decide) (by decide) [(.int (0 : Int32)), (.int (2 : Int32))] rfl (lenOf pd4 rfl) (Ls := #[.val (.int p0), .val (.int p1), .val (.int (0 : Int32)), .val (.int (2 : Int32)), .val (.ref (w0_IPV4 Z)), .val (.ref (w2_TCP Z))]) (by rw [hml]; rfl) (rest := [(.int (1 : Int32))]) (Nat.le_of_eq rfl) (hb hby at_37) e11 (by decide) (by decide)
      refine st12 _ ?_
      obtain ⟨rfl, N12q, e12⟩ := hQ12
      have N12 := Fr.app N11 N12q
      show own_Wp p e below _ T12 (mkF m 40 #[.val (.int p0), .val (.int p1), .val (.int (0 : Int32)), .val (.int (2 : Int32)), .val (.ref (w0_IPV4 Z)), .val (.ref (w2_TCP Z))] [(.int (1 : Int32)), (.int (1 : Int32))])
      refine own_step (fun _ k => XS.icmpNo X12.here hx rfl (hb hby at_40) rfl (by decide) k) ?_
      show own_Wp p e below _ T12 (mkF m 43 #[.val (.int p0), .val (.int p1), .val (.int (0 : Int32)), .val (.int (2 : Int32)), .val (.ref (w0_IPV4 Z)), .val (.ref (w2_TCP Z))] [])
      refine own_step (fun _ k => XS.iconst X12.here hx rfl (hb hby at_43) k) ?_
      show own_Wp p e below _ T12 (mkF m 44 #[.val (.int p0), .val (.int p1), .val (.int (0 : Int32)), .val (.int (2 : Int32)), .val (.ref (w0_IPV4 Z)), .val (.ref (w2_TCP Z))] [(.int (1 : Int32))])
      refine own_step (fun _ k => XS.goto X12.here hx rfl (pc0 := 44) (pc' := 48) rfl (hb hby at_44) (by decide) (by decide) k) ?_
      show own_Wp p e below _ T12 (mkF m 48 #[.val (.int p0), .val (.int p1), .val (.int (0 : Int32)), .val (.int (2 : Int32)), .val (.ref (w0_IPV4 Z)), .val (.ref (w2_TCP Z))] [(.int (1 : Int32))])
      exact own_retN X12 hx (t := .boolean) hret (by simp) hlk (hb hby at_48) (by decide) (by decide) ⟨rfl, N12⟩
    · skip
      rw [hm]
      show own_Wp p e below _ s₁ (mkF m 15 #[.val (.int p0), .val (.int p1), .val (.int (0 : Int32)), .unset, .unset, .unset] [(.int (3 : Int32))])
      refine own_step (fun _ k => XS.istoreN X0.here hx rfl (hb hby at_15) rfl (l' := #[.val (.int p0), .val (.int p1), .val (.int (0 : Int32)), .val (.int (3 : Int32)), .unset, .unset]) rfl k) ?_
      show own_Wp p e below _ s₁ (mkF m 16 #[.val (.int p0), .val (.int p1), .val (.int (0 : Int32)), .val (.int (3 : Int32)), .unset, .unset] [])
      refine own_step (fun _ k => XS.iloadN X0.here hx rfl (hb hby at_16) rfl k) ?_
      show own_Wp p e below _ s₁ (mkF m 17 #[.val (.int p0), .val (.int p1), .val (.int (0 : Int32)), .val (.int (3 : Int32)), .unset, .unset] [(.int (0 : Int32))])
      obtain ⟨_, T13, L13, X13, hQ13, st13⟩ := own_callS X0 hx hZ hown (hw _ (List.mem_of_getElem? (i := 1) rfl)) (hw _ (List.mem_of_getElem? (i := 2) rfl)) (hw _ (List.mem_of_getElem? (i := 3) rfl)) (hw _ (List.mem_of_getElem? (i := 4) rfl)) (by decide) (rm1_0 l Z a0 hw hA [] h0 n0 O0) (W := 0) (by decide) (by decide) [(.int (0 : Int32))] rfl (lenOf pd1 rfl) (Ls := #[.val (.int p0), .val (.int p1), .val (.int (0 : Int32)), .val (.int (3 : Int32)), .unset, .unset]) (by rw [hml]; rfl) (rest := []) (Nat.le_of_eq rfl) (hb hby at_17) e0 (by decide) (by decide)
      refine st13 _ ?_
      obtain ⟨rfl, N13q, e13⟩ := hQ13
      have N13 := Fr.app (Fr.nil n0) N13q
      show own_Wp p e below _ T13 (mkF m 20 #[.val (.int p0), .val (.int p1), .val (.int (0 : Int32)), .val (.int (3 : Int32)), .unset, .unset] [(.ref (w0_IPV4 Z))])
      refine own_step (fun _ k => XS.astore X13.here hx rfl (hb hby at_20) rfl rfl (l' := #[.val (.int p0), .val (.int p1), .val (.int (0 : Int32)), .val (.int (3 : Int32)), .val (.ref (w0_IPV4 Z)), .unset]) rfl k) ?_
      show own_Wp p e below _ T13 (mkF m 22 #[.val (.int p0), .val (.int p1), .val (.int (0 : Int32)), .val (.int (3 : Int32)), .val (.ref (w0_IPV4 Z)), .unset] [])
      refine own_step (fun _ k => XS.iloadN X13.here hx rfl (hb hby at_22) rfl k) ?_
      show own_Wp p e below _ T13 (mkF m 23 #[.val (.int p0), .val (.int p1), .val (.int (0 : Int32)), .val (.int (3 : Int32)), .val (.ref (w0_IPV4 Z)), .unset] [(.int (3 : Int32))])
      obtain ⟨_, T14, L14, X14, hQ14, st14⟩ := own_callS X13 hx hZ hown (hw _ (List.mem_of_getElem? (i := 1) rfl)) (hw _ (List.mem_of_getElem? (i := 2) rfl)) (hw _ (List.mem_of_getElem? (i := 3) rfl)) (hw _ (List.mem_of_getElem? (i := 4) rfl)) (by decide) (rm1_13 l Z a0 hw hA [] h0 n0 O0) (W := 0) (by decide) (by decide) [(.int (3 : Int32))] rfl (lenOf pd1 rfl) (Ls := #[.val (.int p0), .val (.int p1), .val (.int (0 : Int32)), .val (.int (3 : Int32)), .val (.ref (w0_IPV4 Z)), .unset]) (by rw [hml]; rfl) (rest := []) (Nat.le_of_eq rfl) (hb hby at_23) e13 (by decide) (by decide)
      refine st14 _ ?_
      obtain ⟨rfl, N14q, e14⟩ := hQ14
      have N14 := Fr.app N13 N14q
      show own_Wp p e below _ T14 (mkF m 26 #[.val (.int p0), .val (.int p1), .val (.int (0 : Int32)), .val (.int (3 : Int32)), .val (.ref (w0_IPV4 Z)), .unset] [(.ref (w1_TCP6 Z))])
      refine own_step (fun _ k => XS.astore X14.here hx rfl (hb hby at_26) rfl rfl (l' := #[.val (.int p0), .val (.int p1), .val (.int (0 : Int32)), .val (.int (3 : Int32)), .val (.ref (w0_IPV4 Z)), .val (.ref (w1_TCP6 Z))]) rfl k) ?_
      show own_Wp p e below _ T14 (mkF m 28 #[.val (.int p0), .val (.int p1), .val (.int (0 : Int32)), .val (.int (3 : Int32)), .val (.ref (w0_IPV4 Z)), .val (.ref (w1_TCP6 Z))] [])
      refine own_step (fun _ k => XS.aload X14.here hx rfl (hb hby at_28) rfl rfl k) ?_
      show own_Wp p e below _ T14 (mkF m 30 #[.val (.int p0), .val (.int p1), .val (.int (0 : Int32)), .val (.int (3 : Int32)), .val (.ref (w0_IPV4 Z)), .val (.ref (w1_TCP6 Z))] [(.ref (w0_IPV4 Z))])
      refine own_step (fun _ k => XS.aload X14.here hx rfl (hb hby at_30) rfl rfl k) ?_
      show own_Wp p e below _ T14 (mkF m 32 #[.val (.int p0), .val (.int p1), .val (.int (0 : Int32)), .val (.int (3 : Int32)), .val (.ref (w0_IPV4 Z)), .val (.ref (w1_TCP6 Z))] [(.ref (w1_TCP6 Z)), (.ref (w0_IPV4 Z))])
      obtain ⟨_, T15, L15, X15, hQ15, st15⟩ := own_callV X14 hx hZ hown (hw _ (List.mem_of_getElem? (i := 10) rfl)) (hw _ (List.mem_of_getElem? (i := 11) rfl)) (notFace_of_selects (args := #[]) (mvT hZ (hw _ (List.mem_of_getElem? (i := 13) rfl)))) (hw _ (List.mem_of_getElem? (i := 13) rfl)) (hw _ (List.mem_of_getElem? (i := 12) rfl)) (hw _ (List.mem_of_getElem? (i := 6) rfl)) (hw _ (List.mem_of_getElem? (i := 14) rfl)) (by decide) ((ex_w0_IPV4 hw hA).ext O0.2) (rm2_4 l Z a0 hw hA [] (w0_IPV4 Z) (w1_TCP6 Z) h0 n0 O0 (fl0 hw hA) (fl1 hw hA)) (W := 0) (by decide) (by decide) [(.ref (w1_TCP6 Z))] rfl (lenOf pd3 rfl) (Ls := #[.val (.int p0), .val (.int p1), .val (.int (0 : Int32)), .val (.int (3 : Int32)), .val (.ref (w0_IPV4 Z)), .val (.ref (w1_TCP6 Z))]) (by rw [hml]; rfl) (rest := []) (Nat.le_of_eq rfl) (hb hby at_32) e14 (by decide) (by decide)
      refine st15 _ ?_
      obtain ⟨rfl, N15q, e15⟩ := hQ15
      have N15 := Fr.app N14 N15q
      show own_Wp p e below _ T15 (mkF m 35 #[.val (.int p0), .val (.int p1), .val (.int (0 : Int32)), .val (.int (3 : Int32)), .val (.ref (w0_IPV4 Z)), .val (.ref (w1_TCP6 Z))] [(.int (0 : Int32))])
      refine own_step (fun _ k => XS.iloadN X15.here hx rfl (hb hby at_35) rfl k) ?_
      show own_Wp p e below _ T15 (mkF m 36 #[.val (.int p0), .val (.int p1), .val (.int (0 : Int32)), .val (.int (3 : Int32)), .val (.ref (w0_IPV4 Z)), .val (.ref (w1_TCP6 Z))] [(.int (0 : Int32)), (.int (0 : Int32))])
      refine own_step (fun _ k => XS.iloadN X15.here hx rfl (hb hby at_36) rfl k) ?_
      show own_Wp p e below _ T15 (mkF m 37 #[.val (.int p0), .val (.int p1), .val (.int (0 : Int32)), .val (.int (3 : Int32)), .val (.ref (w0_IPV4 Z)), .val (.ref (w1_TCP6 Z))] [(.int (3 : Int32)), (.int (0 : Int32)), (.int (0 : Int32))])
      obtain ⟨_, T16, L16, X16, hQ16, st16⟩ := own_callS X15 hx hZ hown (hw _ (List.mem_of_getElem? (i := 17) rfl)) (hw _ (List.mem_of_getElem? (i := 18) rfl)) (hw _ (List.mem_of_getElem? (i := 3) rfl)) (hw _ (List.mem_of_getElem? (i := 19) rfl)) (by decide) (rm3_16 l Z a0 hw hA [] h0 n0 O0) (W := 1) (by decide) (by decide) [(.int (0 : Int32)), (.int (3 : Int32))] rfl (lenOf pd4 rfl) (Ls := #[.val (.int p0), .val (.int p1), .val (.int (0 : Int32)), .val (.int (3 : Int32)), .val (.ref (w0_IPV4 Z)), .val (.ref (w1_TCP6 Z))]) (by rw [hml]; rfl) (rest := [(.int (0 : Int32))]) (Nat.le_of_eq rfl) (hb hby at_37) e15 (by decide) (by decide)
      refine st16 _ ?_
      obtain ⟨rfl, N16q, e16⟩ := hQ16
      have N16 := Fr.app N15 N16q
      show own_Wp p e below _ T16 (mkF m 40 #[.val (.int p0), .val (.int p1), .val (.int (0 : Int32)), .val (.int (3 : Int32)), .val (.ref (w0_IPV4 Z)), .val (.ref (w1_TCP6 Z))] [(.int (0 : Int32)), (.int (0 : Int32))])
      refine own_step (fun _ k => XS.icmpNo X16.here hx rfl (hb hby at_40) rfl (by decide) k) ?_
      show own_Wp p e below _ T16 (mkF m 43 #[.val (.int p0), .val (.int p1), .val (.int (0 : Int32)), .val (.int (3 : Int32)), .val (.ref (w0_IPV4 Z)), .val (.ref (w1_TCP6 Z))] [])
      refine own_step (fun _ k => XS.iconst X16.here hx rfl (hb hby at_43) k) ?_
      show own_Wp p e below _ T16 (mkF m 44 #[.val (.int p0), .val (.int p1), .val (.int (0 : Int32)), .val (.int (3 : Int32)), .val (.ref (w0_IPV4 Z)), .val (.ref (w1_TCP6 Z))] [(.int (1 : Int32))])
      refine own_step (fun _ k => XS.goto X16.here hx rfl (pc0 := 44) (pc' := 48) rfl (hb hby at_44) (by decide) (by decide) k) ?_
      show own_Wp p e below _ T16 (mkF m 48 #[.val (.int p0), .val (.int p1), .val (.int (0 : Int32)), .val (.int (3 : Int32)), .val (.ref (w0_IPV4 Z)), .val (.ref (w1_TCP6 Z))] [(.int (1 : Int32))])
      exact own_retN X16 hx (t := .boolean) hret (by simp) hlk (hb hby at_48) (by decide) (by decide) ⟨rfl, N16⟩
    · skip
      rw [hm]
      show own_Wp p e below _ s₁ (mkF m 15 #[.val (.int p0), .val (.int p1), .val (.int (0 : Int32)), .unset, .unset, .unset] [(.int (4 : Int32))])
      refine own_step (fun _ k => XS.istoreN X0.here hx rfl (hb hby at_15) rfl (l' := #[.val (.int p0), .val (.int p1), .val (.int (0 : Int32)), .val (.int (4 : Int32)), .unset, .unset]) rfl k) ?_
      show own_Wp p e below _ s₁ (mkF m 16 #[.val (.int p0), .val (.int p1), .val (.int (0 : Int32)), .val (.int (4 : Int32)), .unset, .unset] [])
      refine own_step (fun _ k => XS.iloadN X0.here hx rfl (hb hby at_16) rfl k) ?_
      show own_Wp p e below _ s₁ (mkF m 17 #[.val (.int p0), .val (.int p1), .val (.int (0 : Int32)), .val (.int (4 : Int32)), .unset, .unset] [(.int (0 : Int32))])
      obtain ⟨_, T17, L17, X17, hQ17, st17⟩ := own_callS X0 hx hZ hown (hw _ (List.mem_of_getElem? (i := 1) rfl)) (hw _ (List.mem_of_getElem? (i := 2) rfl)) (hw _ (List.mem_of_getElem? (i := 3) rfl)) (hw _ (List.mem_of_getElem? (i := 4) rfl)) (by decide) (rm1_0 l Z a0 hw hA [] h0 n0 O0) (W := 0) (by decide) (by decide) [(.int (0 : Int32))] rfl (lenOf pd1 rfl) (Ls := #[.val (.int p0), .val (.int p1), .val (.int (0 : Int32)), .val (.int (4 : Int32)), .unset, .unset]) (by rw [hml]; rfl) (rest := []) (Nat.le_of_eq rfl) (hb hby at_17) e0 (by decide) (by decide)
      refine st17 _ ?_
      obtain ⟨rfl, N17q, e17⟩ := hQ17
      have N17 := Fr.app (Fr.nil n0) N17q
      show own_Wp p e below _ T17 (mkF m 20 #[.val (.int p0), .val (.int p1), .val (.int (0 : Int32)), .val (.int (4 : Int32)), .unset, .unset] [(.ref (w0_IPV4 Z))])
      refine own_step (fun _ k => XS.astore X17.here hx rfl (hb hby at_20) rfl rfl (l' := #[.val (.int p0), .val (.int p1), .val (.int (0 : Int32)), .val (.int (4 : Int32)), .val (.ref (w0_IPV4 Z)), .unset]) rfl k) ?_
      show own_Wp p e below _ T17 (mkF m 22 #[.val (.int p0), .val (.int p1), .val (.int (0 : Int32)), .val (.int (4 : Int32)), .val (.ref (w0_IPV4 Z)), .unset] [])
      refine own_step (fun _ k => XS.iloadN X17.here hx rfl (hb hby at_22) rfl k) ?_
      show own_Wp p e below _ T17 (mkF m 23 #[.val (.int p0), .val (.int p1), .val (.int (0 : Int32)), .val (.int (4 : Int32)), .val (.ref (w0_IPV4 Z)), .unset] [(.int (4 : Int32))])
      obtain ⟨_, T18, L18, X18, hQ18, st18⟩ := own_callS X17 hx hZ hown (hw _ (List.mem_of_getElem? (i := 1) rfl)) (hw _ (List.mem_of_getElem? (i := 2) rfl)) (hw _ (List.mem_of_getElem? (i := 3) rfl)) (hw _ (List.mem_of_getElem? (i := 4) rfl)) (by decide) (rm1_17 l Z a0 hw hA [] h0 n0 O0) (W := 0) (by decide) (by decide) [(.int (4 : Int32))] rfl (lenOf pd1 rfl) (Ls := #[.val (.int p0), .val (.int p1), .val (.int (0 : Int32)), .val (.int (4 : Int32)), .val (.ref (w0_IPV4 Z)), .unset]) (by rw [hml]; rfl) (rest := []) (Nat.le_of_eq rfl) (hb hby at_23) e17 (by decide) (by decide)
      refine st18 _ ?_
      obtain ⟨rfl, N18q, e18⟩ := hQ18
      have N18 := Fr.app N17 N18q
      show own_Wp p e below _ T18 (mkF m 26 #[.val (.int p0), .val (.int p1), .val (.int (0 : Int32)), .val (.int (4 : Int32)), .val (.ref (w0_IPV4 Z)), .unset] [(.ref (w5_UDP Z))])
      refine own_step (fun _ k => XS.astore X18.here hx rfl (hb hby at_26) rfl rfl (l' := #[.val (.int p0), .val (.int p1), .val (.int (0 : Int32)), .val (.int (4 : Int32)), .val (.ref (w0_IPV4 Z)), .val (.ref (w5_UDP Z))]) rfl k) ?_
      show own_Wp p e below _ T18 (mkF m 28 #[.val (.int p0), .val (.int p1), .val (.int (0 : Int32)), .val (.int (4 : Int32)), .val (.ref (w0_IPV4 Z)), .val (.ref (w5_UDP Z))] [])
      refine own_step (fun _ k => XS.aload X18.here hx rfl (hb hby at_28) rfl rfl k) ?_
      show own_Wp p e below _ T18 (mkF m 30 #[.val (.int p0), .val (.int p1), .val (.int (0 : Int32)), .val (.int (4 : Int32)), .val (.ref (w0_IPV4 Z)), .val (.ref (w5_UDP Z))] [(.ref (w0_IPV4 Z))])
      refine own_step (fun _ k => XS.aload X18.here hx rfl (hb hby at_30) rfl rfl k) ?_
      show own_Wp p e below _ T18 (mkF m 32 #[.val (.int p0), .val (.int p1), .val (.int (0 : Int32)), .val (.int (4 : Int32)), .val (.ref (w0_IPV4 Z)), .val (.ref (w5_UDP Z))] [(.ref (w5_UDP Z)), (.ref (w0_IPV4 Z))])
      obtain ⟨_, T19, L19, X19, hQ19, st19⟩ := own_callV X18 hx hZ hown (hw _ (List.mem_of_getElem? (i := 10) rfl)) (hw _ (List.mem_of_getElem? (i := 11) rfl)) (notFace_of_selects (args := #[]) (mvT hZ (hw _ (List.mem_of_getElem? (i := 13) rfl)))) (hw _ (List.mem_of_getElem? (i := 13) rfl)) (hw _ (List.mem_of_getElem? (i := 12) rfl)) (hw _ (List.mem_of_getElem? (i := 6) rfl)) (hw _ (List.mem_of_getElem? (i := 14) rfl)) (by decide) ((ex_w0_IPV4 hw hA).ext O0.2) (rm2_9 l Z a0 hw hA [] (w0_IPV4 Z) (w5_UDP Z) h0 n0 O0 (fl0 hw hA) (fl5 hw hA) (Fld.ne (fl7 hw hA) (fl6 hw hA) (by decide)) (fl9 hw hA)) (W := 0) (by decide) (by decide) [(.ref (w5_UDP Z))] rfl (lenOf pd3 rfl) (Ls := #[.val (.int p0), .val (.int p1), .val (.int (0 : Int32)), .val (.int (4 : Int32)), .val (.ref (w0_IPV4 Z)), .val (.ref (w5_UDP Z))]) (by rw [hml]; rfl) (rest := []) (Nat.le_of_eq rfl) (hb hby at_32) e18 (by decide) (by decide)
      refine st19 _ ?_
      obtain ⟨rfl, N19q, e19⟩ := hQ19
      have N19 := Fr.app N18 N19q
      show own_Wp p e below _ T19 (mkF m 35 #[.val (.int p0), .val (.int p1), .val (.int (0 : Int32)), .val (.int (4 : Int32)), .val (.ref (w0_IPV4 Z)), .val (.ref (w5_UDP Z))] [(.int (1 : Int32))])
      refine own_step (fun _ k => XS.iloadN X19.here hx rfl (hb hby at_35) rfl k) ?_
      show own_Wp p e below _ T19 (mkF m 36 #[.val (.int p0), .val (.int p1), .val (.int (0 : Int32)), .val (.int (4 : Int32)), .val (.ref (w0_IPV4 Z)), .val (.ref (w5_UDP Z))] [(.int (0 : Int32)), (.int (1 : Int32))])
      refine own_step (fun _ k => XS.iloadN X19.here hx rfl (hb hby at_36) rfl k) ?_
      show own_Wp p e below _ T19 (mkF m 37 #[.val (.int p0), .val (.int p1), .val (.int (0 : Int32)), .val (.int (4 : Int32)), .val (.ref (w0_IPV4 Z)), .val (.ref (w5_UDP Z))] [(.int (4 : Int32)), (.int (0 : Int32)), (.int (1 : Int32))])
      obtain ⟨_, T20, L20, X20, hQ20, st20⟩ := own_callS X19 hx hZ hown (hw _ (List.mem_of_getElem? (i := 17) rfl)) (hw _ (List.mem_of_getElem? (i := 18) rfl)) (hw _ (List.mem_of_getElem? (i := 3) rfl)) (hw _ (List.mem_of_getElem? (i := 19) rfl)) (by decide) (rm3_20 l Z a0 hw hA [] h0 n0 O0) (W := 1) (by decide) (by decide) [(.int (0 : Int32)), (.int (4 : Int32))] rfl (lenOf pd4 rfl) (Ls := #[.val (.int p0), .val (.int p1), .val (.int (0 : Int32)), .val (.int (4 : Int32)), .val (.ref (w0_IPV4 Z)), .val (.ref (w5_UDP Z))]) (by rw [hml]; rfl) (rest := [(.int (1 : Int32))]) (Nat.le_of_eq rfl) (hb hby at_37) e19 (by decide) (by decide)
      refine st20 _ ?_
      obtain ⟨rfl, N20q, e20⟩ := hQ20
      have N20 := Fr.app N19 N20q
      show own_Wp p e below _ T20 (mkF m 40 #[.val (.int p0), .val (.int p1), .val (.int (0 : Int32)), .val (.int (4 : Int32)), .val (.ref (w0_IPV4 Z)), .val (.ref (w5_UDP Z))] [(.int (1 : Int32)), (.int (1 : Int32))])
      refine own_step (fun _ k => XS.icmpNo X20.here hx rfl (hb hby at_40) rfl (by decide) k) ?_
      show own_Wp p e below _ T20 (mkF m 43 #[.val (.int p0), .val (.int p1), .val (.int (0 : Int32)), .val (.int (4 : Int32)), .val (.ref (w0_IPV4 Z)), .val (.ref (w5_UDP Z))] [])
      refine own_step (fun _ k => XS.iconst X20.here hx rfl (hb hby at_43) k) ?_
      show own_Wp p e below _ T20 (mkF m 44 #[.val (.int p0), .val (.int p1), .val (.int (0 : Int32)), .val (.int (4 : Int32)), .val (.ref (w0_IPV4 Z)), .val (.ref (w5_UDP Z))] [(.int (1 : Int32))])
      refine own_step (fun _ k => XS.goto X20.here hx rfl (pc0 := 44) (pc' := 48) rfl (hb hby at_44) (by decide) (by decide) k) ?_
      show own_Wp p e below _ T20 (mkF m 48 #[.val (.int p0), .val (.int p1), .val (.int (0 : Int32)), .val (.int (4 : Int32)), .val (.ref (w0_IPV4 Z)), .val (.ref (w5_UDP Z))] [(.int (1 : Int32))])
      exact own_retN X20 hx (t := .boolean) hret (by simp) hlk (hb hby at_48) (by decide) (by decide) ⟨rfl, N20⟩
    · skip
      rw [hm]
      show own_Wp p e below _ s₁ (mkF m 15 #[.val (.int p0), .val (.int p1), .val (.int (0 : Int32)), .unset, .unset, .unset] [(.int (5 : Int32))])
      refine own_step (fun _ k => XS.istoreN X0.here hx rfl (hb hby at_15) rfl (l' := #[.val (.int p0), .val (.int p1), .val (.int (0 : Int32)), .val (.int (5 : Int32)), .unset, .unset]) rfl k) ?_
      show own_Wp p e below _ s₁ (mkF m 16 #[.val (.int p0), .val (.int p1), .val (.int (0 : Int32)), .val (.int (5 : Int32)), .unset, .unset] [])
      refine own_step (fun _ k => XS.iloadN X0.here hx rfl (hb hby at_16) rfl k) ?_
      show own_Wp p e below _ s₁ (mkF m 17 #[.val (.int p0), .val (.int p1), .val (.int (0 : Int32)), .val (.int (5 : Int32)), .unset, .unset] [(.int (0 : Int32))])
      obtain ⟨_, T21, L21, X21, hQ21, st21⟩ := own_callS X0 hx hZ hown (hw _ (List.mem_of_getElem? (i := 1) rfl)) (hw _ (List.mem_of_getElem? (i := 2) rfl)) (hw _ (List.mem_of_getElem? (i := 3) rfl)) (hw _ (List.mem_of_getElem? (i := 4) rfl)) (by decide) (rm1_0 l Z a0 hw hA [] h0 n0 O0) (W := 0) (by decide) (by decide) [(.int (0 : Int32))] rfl (lenOf pd1 rfl) (Ls := #[.val (.int p0), .val (.int p1), .val (.int (0 : Int32)), .val (.int (5 : Int32)), .unset, .unset]) (by rw [hml]; rfl) (rest := []) (Nat.le_of_eq rfl) (hb hby at_17) e0 (by decide) (by decide)
      refine st21 _ ?_
      obtain ⟨rfl, N21q, e21⟩ := hQ21
      have N21 := Fr.app (Fr.nil n0) N21q
      show own_Wp p e below _ T21 (mkF m 20 #[.val (.int p0), .val (.int p1), .val (.int (0 : Int32)), .val (.int (5 : Int32)), .unset, .unset] [(.ref (w0_IPV4 Z))])
      refine own_step (fun _ k => XS.astore X21.here hx rfl (hb hby at_20) rfl rfl (l' := #[.val (.int p0), .val (.int p1), .val (.int (0 : Int32)), .val (.int (5 : Int32)), .val (.ref (w0_IPV4 Z)), .unset]) rfl k) ?_
      show own_Wp p e below _ T21 (mkF m 22 #[.val (.int p0), .val (.int p1), .val (.int (0 : Int32)), .val (.int (5 : Int32)), .val (.ref (w0_IPV4 Z)), .unset] [])
      refine own_step (fun _ k => XS.iloadN X21.here hx rfl (hb hby at_22) rfl k) ?_
      show own_Wp p e below _ T21 (mkF m 23 #[.val (.int p0), .val (.int p1), .val (.int (0 : Int32)), .val (.int (5 : Int32)), .val (.ref (w0_IPV4 Z)), .unset] [(.int (5 : Int32))])
      obtain ⟨_, T22, L22, X22, hQ22, st22⟩ := own_callS X21 hx hZ hown (hw _ (List.mem_of_getElem? (i := 1) rfl)) (hw _ (List.mem_of_getElem? (i := 2) rfl)) (hw _ (List.mem_of_getElem? (i := 3) rfl)) (hw _ (List.mem_of_getElem? (i := 4) rfl)) (by decide) (rm1_21 l Z a0 hw hA [] h0 n0 O0) (W := 0) (by decide) (by decide) [(.int (5 : Int32))] rfl (lenOf pd1 rfl) (Ls := #[.val (.int p0), .val (.int p1), .val (.int (0 : Int32)), .val (.int (5 : Int32)), .val (.ref (w0_IPV4 Z)), .unset]) (by rw [hml]; rfl) (rest := []) (Nat.le_of_eq rfl) (hb hby at_23) e21 (by decide) (by decide)
      refine st22 _ ?_
      obtain ⟨rfl, N22q, e22⟩ := hQ22
      have N22 := Fr.app N21 N22q
      show own_Wp p e below _ T22 (mkF m 26 #[.val (.int p0), .val (.int p1), .val (.int (0 : Int32)), .val (.int (5 : Int32)), .val (.ref (w0_IPV4 Z)), .unset] [(.ref (w4_UDP6 Z))])
      refine own_step (fun _ k => XS.astore X22.here hx rfl (hb hby at_26) rfl rfl (l' := #[.val (.int p0), .val (.int p1), .val (.int (0 : Int32)), .val (.int (5 : Int32)), .val (.ref (w0_IPV4 Z)), .val (.ref (w4_UDP6 Z))]) rfl k) ?_
      show own_Wp p e below _ T22 (mkF m 28 #[.val (.int p0), .val (.int p1), .val (.int (0 : Int32)), .val (.int (5 : Int32)), .val (.ref (w0_IPV4 Z)), .val (.ref (w4_UDP6 Z))] [])
      refine own_step (fun _ k => XS.aload X22.here hx rfl (hb hby at_28) rfl rfl k) ?_
      show own_Wp p e below _ T22 (mkF m 30 #[.val (.int p0), .val (.int p1), .val (.int (0 : Int32)), .val (.int (5 : Int32)), .val (.ref (w0_IPV4 Z)), .val (.ref (w4_UDP6 Z))] [(.ref (w0_IPV4 Z))])
      refine own_step (fun _ k => XS.aload X22.here hx rfl (hb hby at_30) rfl rfl k) ?_
      show own_Wp p e below _ T22 (mkF m 32 #[.val (.int p0), .val (.int p1), .val (.int (0 : Int32)), .val (.int (5 : Int32)), .val (.ref (w0_IPV4 Z)), .val (.ref (w4_UDP6 Z))] [(.ref (w4_UDP6 Z)), (.ref (w0_IPV4 Z))])
      obtain ⟨_, T23, L23, X23, hQ23, st23⟩ := own_callV X22 hx hZ hown (hw _ (List.mem_of_getElem? (i := 10) rfl)) (hw _ (List.mem_of_getElem? (i := 11) rfl)) (notFace_of_selects (args := #[]) (mvT hZ (hw _ (List.mem_of_getElem? (i := 13) rfl)))) (hw _ (List.mem_of_getElem? (i := 13) rfl)) (hw _ (List.mem_of_getElem? (i := 12) rfl)) (hw _ (List.mem_of_getElem? (i := 6) rfl)) (hw _ (List.mem_of_getElem? (i := 14) rfl)) (by decide) ((ex_w0_IPV4 hw hA).ext O0.2) (rm2_4 l Z a0 hw hA [] (w0_IPV4 Z) (w4_UDP6 Z) h0 n0 O0 (fl0 hw hA) (fl4 hw hA)) (W := 0) (by decide) (by decide) [(.ref (w4_UDP6 Z))] rfl (lenOf pd3 rfl) (Ls := #[.val (.int p0), .val (.int p1), .val (.int (0 : Int32)), .val (.int (5 : Int32)), .val (.ref (w0_IPV4 Z)), .val (.ref (w4_UDP6 Z))]) (by rw [hml]; rfl) (rest := []) (Nat.le_of_eq rfl) (hb hby at_32) e22 (by decide) (by decide)
      refine st23 _ ?_
      obtain ⟨rfl, N23q, e23⟩ := hQ23
      have N23 := Fr.app N22 N23q
      show own_Wp p e below _ T23 (mkF m 35 #[.val (.int p0), .val (.int p1), .val (.int (0 : Int32)), .val (.int (5 : Int32)), .val (.ref (w0_IPV4 Z)), .val (.ref (w4_UDP6 Z))] [(.int (0 : Int32))])
      refine own_step (fun _ k => XS.iloadN X23.here hx rfl (hb hby at_35) rfl k) ?_
      show own_Wp p e below _ T23 (mkF m 36 #[.val (.int p0), .val (.int p1), .val (.int (0 : Int32)), .val (.int (5 : Int32)), .val (.ref (w0_IPV4 Z)), .val (.ref (w4_UDP6 Z))] [(.int (0 : Int32)), (.int (0 : Int32))])
      refine own_step (fun _ k => XS.iloadN X23.here hx rfl (hb hby at_36) rfl k) ?_
      show own_Wp p e below _ T23 (mkF m 37 #[.val (.int p0), .val (.int p1), .val (.int (0 : Int32)), .val (.int (5 : Int32)), .val (.ref (w0_IPV4 Z)), .val (.ref (w4_UDP6 Z))] [(.int (5 : Int32)), (.int (0 : Int32)), (.int (0 : Int32))])
      obtain ⟨_, T24, L24, X24, hQ24, st24⟩ := own_callS X23 hx hZ hown (hw _ (List.mem_of_getElem? (i := 17) rfl)) (hw _ (List.mem_of_getElem? (i := 18) rfl)) (hw _ (List.mem_of_getElem? (i := 3) rfl)) (hw _ (List.mem_of_getElem? (i := 19) rfl)) (by decide) (rm3_24 l Z a0 hw hA [] h0 n0 O0) (W := 1) (by decide) (by decide) [(.int (0 : Int32)), (.int (5 : Int32))] rfl (lenOf pd4 rfl) (Ls := #[.val (.int p0), .val (.int p1), .val (.int (0 : Int32)), .val (.int (5 : Int32)), .val (.ref (w0_IPV4 Z)), .val (.ref (w4_UDP6 Z))]) (by rw [hml]; rfl) (rest := [(.int (0 : Int32))]) (Nat.le_of_eq rfl) (hb hby at_37) e23 (by decide) (by decide)
      refine st24 _ ?_
      obtain ⟨rfl, N24q, e24⟩ := hQ24
      have N24 := Fr.app N23 N24q
      show own_Wp p e below _ T24 (mkF m 40 #[.val (.int p0), .val (.int p1), .val (.int (0 : Int32)), .val (.int (5 : Int32)), .val (.ref (w0_IPV4 Z)), .val (.ref (w4_UDP6 Z))] [(.int (0 : Int32)), (.int (0 : Int32))])
      refine own_step (fun _ k => XS.icmpNo X24.here hx rfl (hb hby at_40) rfl (by decide) k) ?_
      show own_Wp p e below _ T24 (mkF m 43 #[.val (.int p0), .val (.int p1), .val (.int (0 : Int32)), .val (.int (5 : Int32)), .val (.ref (w0_IPV4 Z)), .val (.ref (w4_UDP6 Z))] [])
      refine own_step (fun _ k => XS.iconst X24.here hx rfl (hb hby at_43) k) ?_
      show own_Wp p e below _ T24 (mkF m 44 #[.val (.int p0), .val (.int p1), .val (.int (0 : Int32)), .val (.int (5 : Int32)), .val (.ref (w0_IPV4 Z)), .val (.ref (w4_UDP6 Z))] [(.int (1 : Int32))])
      refine own_step (fun _ k => XS.goto X24.here hx rfl (pc0 := 44) (pc' := 48) rfl (hb hby at_44) (by decide) (by decide) k) ?_
      show own_Wp p e below _ T24 (mkF m 48 #[.val (.int p0), .val (.int p1), .val (.int (0 : Int32)), .val (.int (5 : Int32)), .val (.ref (w0_IPV4 Z)), .val (.ref (w4_UDP6 Z))] [(.int (1 : Int32))])
      exact own_retN X24 hx (t := .boolean) hret (by simp) hlk (hb hby at_48) (by decide) (by decide) ⟨rfl, N24⟩
  · skip
    rw [hm]
    show own_Wp p e below _ s₁ (mkF m 7 #[.val (.int p0), .val (.int p1), .unset, .unset, .unset, .unset] [(.int (1 : Int32))])
    refine own_step (fun _ k => XS.istoreN X0.here hx rfl (hb hby at_7) rfl (l' := #[.val (.int p0), .val (.int p1), .val (.int (1 : Int32)), .unset, .unset, .unset]) rfl k) ?_
    show own_Wp p e below _ s₁ (mkF m 8 #[.val (.int p0), .val (.int p1), .val (.int (1 : Int32)), .unset, .unset, .unset] [])
    refine own_step (fun _ k => XS.iloadN X0.here hx rfl (hb hby at_8) rfl k) ?_
    show own_Wp p e below _ s₁ (mkF m 9 #[.val (.int p0), .val (.int p1), .val (.int (1 : Int32)), .unset, .unset, .unset] [(.int p1)])
    refine own_step (X0.ldcInt hx hown (mvT hZ (hw _ (List.mem_of_getElem? (i := 0) rfl))) (g := (mkF m 9 #[.val (.int p0), .val (.int p1), .val (.int (1 : Int32)), .unset, .unset, .unset] [(.int p1)])) rfl (hb hby at_9)) ?_
    show own_Wp p e below _ s₁ (mkF m 11 #[.val (.int p0), .val (.int p1), .val (.int (1 : Int32)), .unset, .unset, .unset] [(.int (2147483647 : Int32)), (.int p1)])
    refine own_step (fun _ k => XS.iand X0.here hx rfl (hb hby at_11) rfl k) ?_
    show own_Wp p e below _ s₁ (mkF m 12 #[.val (.int p0), .val (.int p1), .val (.int (1 : Int32)), .unset, .unset, .unset] [(.int (p1 &&& (2147483647 : Int32)))])
    refine own_step (fun _ k => XS.bipush X0.here hx rfl (hb hby at_12) k) ?_
    show own_Wp p e below _ s₁ (mkF m 14 #[.val (.int p0), .val (.int p1), .val (.int (1 : Int32)), .unset, .unset, .unset] [(.int (6 : Int32)), (.int (p1 &&& (2147483647 : Int32)))])
    refine own_step (fun _ k => iremM (g := (mkF m 14 #[.val (.int p0), .val (.int p1), .val (.int (1 : Int32)), .unset, .unset, .unset] [(.int (6 : Int32)), (.int (p1 &&& (2147483647 : Int32)))])) X0 hx rfl (hb hby at_14) rfl (by decide) k) ?_
    show own_Wp p e below _ s₁ (mkF m 15 #[.val (.int p0), .val (.int p1), .val (.int (1 : Int32)), .unset, .unset, .unset] [(.int ((p1 &&& (2147483647 : Int32)) % (6 : Int32)))])
    rcases own_mod6 p1 with hm | hm | hm | hm | hm | hm
    · skip
      rw [hm]
      show own_Wp p e below _ s₁ (mkF m 15 #[.val (.int p0), .val (.int p1), .val (.int (1 : Int32)), .unset, .unset, .unset] [(.int (0 : Int32))])
      refine own_step (fun _ k => XS.istoreN X0.here hx rfl (hb hby at_15) rfl (l' := #[.val (.int p0), .val (.int p1), .val (.int (1 : Int32)), .val (.int (0 : Int32)), .unset, .unset]) rfl k) ?_
      show own_Wp p e below _ s₁ (mkF m 16 #[.val (.int p0), .val (.int p1), .val (.int (1 : Int32)), .val (.int (0 : Int32)), .unset, .unset] [])
      refine own_step (fun _ k => XS.iloadN X0.here hx rfl (hb hby at_16) rfl k) ?_
      show own_Wp p e below _ s₁ (mkF m 17 #[.val (.int p0), .val (.int p1), .val (.int (1 : Int32)), .val (.int (0 : Int32)), .unset, .unset] [(.int (1 : Int32))])
      obtain ⟨_, T25, L25, X25, hQ25, st25⟩ := own_callS X0 hx hZ hown (hw _ (List.mem_of_getElem? (i := 1) rfl)) (hw _ (List.mem_of_getElem? (i := 2) rfl)) (hw _ (List.mem_of_getElem? (i := 3) rfl)) (hw _ (List.mem_of_getElem? (i := 4) rfl)) (by decide) (rm1_3 l Z a0 hw hA [] h0 n0 O0) (W := 0) (by decide) (by decide) [(.int (1 : Int32))] rfl (lenOf pd1 rfl) (Ls := #[.val (.int p0), .val (.int p1), .val (.int (1 : Int32)), .val (.int (0 : Int32)), .unset, .unset]) (by rw [hml]; rfl) (rest := []) (Nat.le_of_eq rfl) (hb hby at_17) e0 (by decide) (by decide)
      refine st25 _ ?_
      obtain ⟨rfl, N25q, e25⟩ := hQ25
      have N25 := Fr.app (Fr.nil n0) N25q
      show own_Wp p e below _ T25 (mkF m 20 #[.val (.int p0), .val (.int p1), .val (.int (1 : Int32)), .val (.int (0 : Int32)), .unset, .unset] [(.ref (w3_IPV6 Z))])
      refine own_step (fun _ k => XS.astore X25.here hx rfl (hb hby at_20) rfl rfl (l' := #[.val (.int p0), .val (.int p1), .val (.int (1 : Int32)), .val (.int (0 : Int32)), .val (.ref (w3_IPV6 Z)), .unset]) rfl k) ?_
      show own_Wp p e below _ T25 (mkF m 22 #[.val (.int p0), .val (.int p1), .val (.int (1 : Int32)), .val (.int (0 : Int32)), .val (.ref (w3_IPV6 Z)), .unset] [])
      refine own_step (fun _ k => XS.iloadN X25.here hx rfl (hb hby at_22) rfl k) ?_
      show own_Wp p e below _ T25 (mkF m 23 #[.val (.int p0), .val (.int p1), .val (.int (1 : Int32)), .val (.int (0 : Int32)), .val (.ref (w3_IPV6 Z)), .unset] [(.int (0 : Int32))])
      obtain ⟨_, T26, L26, X26, hQ26, st26⟩ := own_callS X25 hx hZ hown (hw _ (List.mem_of_getElem? (i := 1) rfl)) (hw _ (List.mem_of_getElem? (i := 2) rfl)) (hw _ (List.mem_of_getElem? (i := 3) rfl)) (hw _ (List.mem_of_getElem? (i := 4) rfl)) (by decide) (rm1_0 l Z a0 hw hA [] h0 n0 O0) (W := 0) (by decide) (by decide) [(.int (0 : Int32))] rfl (lenOf pd1 rfl) (Ls := #[.val (.int p0), .val (.int p1), .val (.int (1 : Int32)), .val (.int (0 : Int32)), .val (.ref (w3_IPV6 Z)), .unset]) (by rw [hml]; rfl) (rest := []) (Nat.le_of_eq rfl) (hb hby at_23) e25 (by decide) (by decide)
      refine st26 _ ?_
      obtain ⟨rfl, N26q, e26⟩ := hQ26
      have N26 := Fr.app N25 N26q
      show own_Wp p e below _ T26 (mkF m 26 #[.val (.int p0), .val (.int p1), .val (.int (1 : Int32)), .val (.int (0 : Int32)), .val (.ref (w3_IPV6 Z)), .unset] [(.ref (w0_IPV4 Z))])
      refine own_step (fun _ k => XS.astore X26.here hx rfl (hb hby at_26) rfl rfl (l' := #[.val (.int p0), .val (.int p1), .val (.int (1 : Int32)), .val (.int (0 : Int32)), .val (.ref (w3_IPV6 Z)), .val (.ref (w0_IPV4 Z))]) rfl k) ?_
      show own_Wp p e below _ T26 (mkF m 28 #[.val (.int p0), .val (.int p1), .val (.int (1 : Int32)), .val (.int (0 : Int32)), .val (.ref (w3_IPV6 Z)), .val (.ref (w0_IPV4 Z))] [])
      refine own_step (fun _ k => XS.aload X26.here hx rfl (hb hby at_28) rfl rfl k) ?_
      show own_Wp p e below _ T26 (mkF m 30 #[.val (.int p0), .val (.int p1), .val (.int (1 : Int32)), .val (.int (0 : Int32)), .val (.ref (w3_IPV6 Z)), .val (.ref (w0_IPV4 Z))] [(.ref (w3_IPV6 Z))])
      refine own_step (fun _ k => XS.aload X26.here hx rfl (hb hby at_30) rfl rfl k) ?_
      show own_Wp p e below _ T26 (mkF m 32 #[.val (.int p0), .val (.int p1), .val (.int (1 : Int32)), .val (.int (0 : Int32)), .val (.ref (w3_IPV6 Z)), .val (.ref (w0_IPV4 Z))] [(.ref (w0_IPV4 Z)), (.ref (w3_IPV6 Z))])
      obtain ⟨_, T27, L27, X27, hQ27, st27⟩ := own_callV X26 hx hZ hown (hw _ (List.mem_of_getElem? (i := 10) rfl)) (hw _ (List.mem_of_getElem? (i := 11) rfl)) (notFace_of_selects (args := #[]) (mvT hZ (hw _ (List.mem_of_getElem? (i := 13) rfl)))) (hw _ (List.mem_of_getElem? (i := 13) rfl)) (hw _ (List.mem_of_getElem? (i := 12) rfl)) (hw _ (List.mem_of_getElem? (i := 6) rfl)) (hw _ (List.mem_of_getElem? (i := 14) rfl)) (by decide) ((ex_w3_IPV6 hw hA).ext O0.2) (rm2_25 l Z a0 hw hA [] (w3_IPV6 Z) (w0_IPV4 Z) h0 n0 O0 (fl3 hw hA) (fl0 hw hA)) (W := 0) (by decide) (by decide) [(.ref (w0_IPV4 Z))] rfl (lenOf pd3 rfl) (Ls := #[.val (.int p0), .val (.int p1), .val (.int (1 : Int32)), .val (.int (0 : Int32)), .val (.ref (w3_IPV6 Z)), .val (.ref (w0_IPV4 Z))]) (by rw [hml]; rfl) (rest := []) (Nat.le_of_eq rfl) (hb hby at_32) e26 (by decide) (by decide)
      refine st27 _ ?_
      obtain ⟨rfl, N27q, e27⟩ := hQ27
      have N27 := Fr.app N26 N27q
      show own_Wp p e below _ T27 (mkF m 35 #[.val (.int p0), .val (.int p1), .val (.int (1 : Int32)), .val (.int (0 : Int32)), .val (.ref (w3_IPV6 Z)), .val (.ref (w0_IPV4 Z))] [(.int (0 : Int32))])
      refine own_step (fun _ k => XS.iloadN X27.here hx rfl (hb hby at_35) rfl k) ?_
      show own_Wp p e below _ T27 (mkF m 36 #[.val (.int p0), .val (.int p1), .val (.int (1 : Int32)), .val (.int (0 : Int32)), .val (.ref (w3_IPV6 Z)), .val (.ref (w0_IPV4 Z))] [(.int (1 : Int32)), (.int (0 : Int32))])
      refine own_step (fun _ k => XS.iloadN X27.here hx rfl (hb hby at_36) rfl k) ?_
      show own_Wp p e below _ T27 (mkF m 37 #[.val (.int p0), .val (.int p1), .val (.int (1 : Int32)), .val (.int (0 : Int32)), .val (.ref (w3_IPV6 Z)), .val (.ref (w0_IPV4 Z))] [(.int (0 : Int32)), (.int (1 : Int32)), (.int (0 : Int32))])
      obtain ⟨_, T28, L28, X28, hQ28, st28⟩ := own_callS X27 hx hZ hown (hw _ (List.mem_of_getElem? (i := 17) rfl)) (hw _ (List.mem_of_getElem? (i := 18) rfl)) (hw _ (List.mem_of_getElem? (i := 3) rfl)) (hw _ (List.mem_of_getElem? (i := 19) rfl)) (by decide) (rm3_28 l Z a0 hw hA [] h0 n0 O0) (W := 1) (by decide) (by decide) [(.int (1 : Int32)), (.int (0 : Int32))] rfl (lenOf pd4 rfl) (Ls := #[.val (.int p0), .val (.int p1), .val (.int (1 : Int32)), .val (.int (0 : Int32)), .val (.ref (w3_IPV6 Z)), .val (.ref (w0_IPV4 Z))]) (by rw [hml]; rfl) (rest := [(.int (0 : Int32))]) (Nat.le_of_eq rfl) (hb hby at_37) e27 (by decide) (by decide)
      refine st28 _ ?_
      obtain ⟨rfl, N28q, e28⟩ := hQ28
      have N28 := Fr.app N27 N28q
      show own_Wp p e below _ T28 (mkF m 40 #[.val (.int p0), .val (.int p1), .val (.int (1 : Int32)), .val (.int (0 : Int32)), .val (.ref (w3_IPV6 Z)), .val (.ref (w0_IPV4 Z))] [(.int (0 : Int32)), (.int (0 : Int32))])
      refine own_step (fun _ k => XS.icmpNo X28.here hx rfl (hb hby at_40) rfl (by decide) k) ?_
      show own_Wp p e below _ T28 (mkF m 43 #[.val (.int p0), .val (.int p1), .val (.int (1 : Int32)), .val (.int (0 : Int32)), .val (.ref (w3_IPV6 Z)), .val (.ref (w0_IPV4 Z))] [])
      refine own_step (fun _ k => XS.iconst X28.here hx rfl (hb hby at_43) k) ?_
      show own_Wp p e below _ T28 (mkF m 44 #[.val (.int p0), .val (.int p1), .val (.int (1 : Int32)), .val (.int (0 : Int32)), .val (.ref (w3_IPV6 Z)), .val (.ref (w0_IPV4 Z))] [(.int (1 : Int32))])
      refine own_step (fun _ k => XS.goto X28.here hx rfl (pc0 := 44) (pc' := 48) rfl (hb hby at_44) (by decide) (by decide) k) ?_
      show own_Wp p e below _ T28 (mkF m 48 #[.val (.int p0), .val (.int p1), .val (.int (1 : Int32)), .val (.int (0 : Int32)), .val (.ref (w3_IPV6 Z)), .val (.ref (w0_IPV4 Z))] [(.int (1 : Int32))])
      exact own_retN X28 hx (t := .boolean) hret (by simp) hlk (hb hby at_48) (by decide) (by decide) ⟨rfl, N28⟩
    · skip
      rw [hm]
      show own_Wp p e below _ s₁ (mkF m 15 #[.val (.int p0), .val (.int p1), .val (.int (1 : Int32)), .unset, .unset, .unset] [(.int (1 : Int32))])
      refine own_step (fun _ k => XS.istoreN X0.here hx rfl (hb hby at_15) rfl (l' := #[.val (.int p0), .val (.int p1), .val (.int (1 : Int32)), .val (.int (1 : Int32)), .unset, .unset]) rfl k) ?_
      show own_Wp p e below _ s₁ (mkF m 16 #[.val (.int p0), .val (.int p1), .val (.int (1 : Int32)), .val (.int (1 : Int32)), .unset, .unset] [])
      refine own_step (fun _ k => XS.iloadN X0.here hx rfl (hb hby at_16) rfl k) ?_
      show own_Wp p e below _ s₁ (mkF m 17 #[.val (.int p0), .val (.int p1), .val (.int (1 : Int32)), .val (.int (1 : Int32)), .unset, .unset] [(.int (1 : Int32))])
      obtain ⟨_, T29, L29, X29, hQ29, st29⟩ := own_callS X0 hx hZ hown (hw _ (List.mem_of_getElem? (i := 1) rfl)) (hw _ (List.mem_of_getElem? (i := 2) rfl)) (hw _ (List.mem_of_getElem? (i := 3) rfl)) (hw _ (List.mem_of_getElem? (i := 4) rfl)) (by decide) (rm1_3 l Z a0 hw hA [] h0 n0 O0) (W := 0) (by decide) (by decide) [(.int (1 : Int32))] rfl (lenOf pd1 rfl) (Ls := #[.val (.int p0), .val (.int p1), .val (.int (1 : Int32)), .val (.int (1 : Int32)), .unset, .unset]) (by rw [hml]; rfl) (rest := []) (Nat.le_of_eq rfl) (hb hby at_17) e0 (by decide) (by decide)
      refine st29 _ ?_
      obtain ⟨rfl, N29q, e29⟩ := hQ29
      have N29 := Fr.app (Fr.nil n0) N29q
      show own_Wp p e below _ T29 (mkF m 20 #[.val (.int p0), .val (.int p1), .val (.int (1 : Int32)), .val (.int (1 : Int32)), .unset, .unset] [(.ref (w3_IPV6 Z))])
      refine own_step (fun _ k => XS.astore X29.here hx rfl (hb hby at_20) rfl rfl (l' := #[.val (.int p0), .val (.int p1), .val (.int (1 : Int32)), .val (.int (1 : Int32)), .val (.ref (w3_IPV6 Z)), .unset]) rfl k) ?_
      show own_Wp p e below _ T29 (mkF m 22 #[.val (.int p0), .val (.int p1), .val (.int (1 : Int32)), .val (.int (1 : Int32)), .val (.ref (w3_IPV6 Z)), .unset] [])
      refine own_step (fun _ k => XS.iloadN X29.here hx rfl (hb hby at_22) rfl k) ?_
      show own_Wp p e below _ T29 (mkF m 23 #[.val (.int p0), .val (.int p1), .val (.int (1 : Int32)), .val (.int (1 : Int32)), .val (.ref (w3_IPV6 Z)), .unset] [(.int (1 : Int32))])
      obtain ⟨_, T30, L30, X30, hQ30, st30⟩ := own_callS X29 hx hZ hown (hw _ (List.mem_of_getElem? (i := 1) rfl)) (hw _ (List.mem_of_getElem? (i := 2) rfl)) (hw _ (List.mem_of_getElem? (i := 3) rfl)) (hw _ (List.mem_of_getElem? (i := 4) rfl)) (by decide) (rm1_3 l Z a0 hw hA [] h0 n0 O0) (W := 0) (by decide) (by decide) [(.int (1 : Int32))] rfl (lenOf pd1 rfl) (Ls := #[.val (.int p0), .val (.int p1), .val (.int (1 : Int32)), .val (.int (1 : Int32)), .val (.ref (w3_IPV6 Z)), .unset]) (by rw [hml]; rfl) (rest := []) (Nat.le_of_eq rfl) (hb hby at_23) e29 (by decide) (by decide)
      refine st30 _ ?_
      obtain ⟨rfl, N30q, e30⟩ := hQ30
      have N30 := Fr.app N29 N30q
      show own_Wp p e below _ T30 (mkF m 26 #[.val (.int p0), .val (.int p1), .val (.int (1 : Int32)), .val (.int (1 : Int32)), .val (.ref (w3_IPV6 Z)), .unset] [(.ref (w3_IPV6 Z))])
      refine own_step (fun _ k => XS.astore X30.here hx rfl (hb hby at_26) rfl rfl (l' := #[.val (.int p0), .val (.int p1), .val (.int (1 : Int32)), .val (.int (1 : Int32)), .val (.ref (w3_IPV6 Z)), .val (.ref (w3_IPV6 Z))]) rfl k) ?_
      show own_Wp p e below _ T30 (mkF m 28 #[.val (.int p0), .val (.int p1), .val (.int (1 : Int32)), .val (.int (1 : Int32)), .val (.ref (w3_IPV6 Z)), .val (.ref (w3_IPV6 Z))] [])
      refine own_step (fun _ k => XS.aload X30.here hx rfl (hb hby at_28) rfl rfl k) ?_
      show own_Wp p e below _ T30 (mkF m 30 #[.val (.int p0), .val (.int p1), .val (.int (1 : Int32)), .val (.int (1 : Int32)), .val (.ref (w3_IPV6 Z)), .val (.ref (w3_IPV6 Z))] [(.ref (w3_IPV6 Z))])
      refine own_step (fun _ k => XS.aload X30.here hx rfl (hb hby at_30) rfl rfl k) ?_
      show own_Wp p e below _ T30 (mkF m 32 #[.val (.int p0), .val (.int p1), .val (.int (1 : Int32)), .val (.int (1 : Int32)), .val (.ref (w3_IPV6 Z)), .val (.ref (w3_IPV6 Z))] [(.ref (w3_IPV6 Z)), (.ref (w3_IPV6 Z))])
      obtain ⟨_, T31, L31, X31, hQ31, st31⟩ := own_callV X30 hx hZ hown (hw _ (List.mem_of_getElem? (i := 10) rfl)) (hw _ (List.mem_of_getElem? (i := 11) rfl)) (notFace_of_selects (args := #[]) (mvT hZ (hw _ (List.mem_of_getElem? (i := 13) rfl)))) (hw _ (List.mem_of_getElem? (i := 13) rfl)) (hw _ (List.mem_of_getElem? (i := 12) rfl)) (hw _ (List.mem_of_getElem? (i := 6) rfl)) (hw _ (List.mem_of_getElem? (i := 14) rfl)) (by decide) ((ex_w3_IPV6 hw hA).ext O0.2) (rm2_29 l Z a0 hw hA [] (w3_IPV6 Z) h0 n0 O0 (fl3 hw hA)) (W := 0) (by decide) (by decide) [(.ref (w3_IPV6 Z))] rfl (lenOf pd3 rfl) (Ls := #[.val (.int p0), .val (.int p1), .val (.int (1 : Int32)), .val (.int (1 : Int32)), .val (.ref (w3_IPV6 Z)), .val (.ref (w3_IPV6 Z))]) (by rw [hml]; rfl) (rest := []) (Nat.le_of_eq rfl) (hb hby at_32) e30 (by decide) (by decide)
      refine st31 _ ?_
      obtain ⟨rfl, N31q, e31⟩ := hQ31
      have N31 := Fr.app N30 N31q
      show own_Wp p e below _ T31 (mkF m 35 #[.val (.int p0), .val (.int p1), .val (.int (1 : Int32)), .val (.int (1 : Int32)), .val (.ref (w3_IPV6 Z)), .val (.ref (w3_IPV6 Z))] [(.int (1 : Int32))])
      refine own_step (fun _ k => XS.iloadN X31.here hx rfl (hb hby at_35) rfl k) ?_
      show own_Wp p e below _ T31 (mkF m 36 #[.val (.int p0), .val (.int p1), .val (.int (1 : Int32)), .val (.int (1 : Int32)), .val (.ref (w3_IPV6 Z)), .val (.ref (w3_IPV6 Z))] [(.int (1 : Int32)), (.int (1 : Int32))])
      refine own_step (fun _ k => XS.iloadN X31.here hx rfl (hb hby at_36) rfl k) ?_
      show own_Wp p e below _ T31 (mkF m 37 #[.val (.int p0), .val (.int p1), .val (.int (1 : Int32)), .val (.int (1 : Int32)), .val (.ref (w3_IPV6 Z)), .val (.ref (w3_IPV6 Z))] [(.int (1 : Int32)), (.int (1 : Int32)), (.int (1 : Int32))])
      obtain ⟨_, T32, L32, X32, hQ32, st32⟩ := own_callS X31 hx hZ hown (hw _ (List.mem_of_getElem? (i := 17) rfl)) (hw _ (List.mem_of_getElem? (i := 18) rfl)) (hw _ (List.mem_of_getElem? (i := 3) rfl)) (hw _ (List.mem_of_getElem? (i := 19) rfl)) (by decide) (rm3_30 l Z a0 hw hA [] h0 n0 O0) (W := 1) (by decide) (by decide) [(.int (1 : Int32)), (.int (1 : Int32))] rfl (lenOf pd4 rfl) (Ls := #[.val (.int p0), .val (.int p1), .val (.int (1 : Int32)), .val (.int (1 : Int32)), .val (.ref (w3_IPV6 Z)), .val (.ref (w3_IPV6 Z))]) (by rw [hml]; rfl) (rest := [(.int (1 : Int32))]) (Nat.le_of_eq rfl) (hb hby at_37) e31 (by decide) (by decide)
      refine st32 _ ?_
      obtain ⟨rfl, N32q, e32⟩ := hQ32
      have N32 := Fr.app N31 N32q
      show own_Wp p e below _ T32 (mkF m 40 #[.val (.int p0), .val (.int p1), .val (.int (1 : Int32)), .val (.int (1 : Int32)), .val (.ref (w3_IPV6 Z)), .val (.ref (w3_IPV6 Z))] [(.int (1 : Int32)), (.int (1 : Int32))])
      refine own_step (fun _ k => XS.icmpNo X32.here hx rfl (hb hby at_40) rfl (by decide) k) ?_
      show own_Wp p e below _ T32 (mkF m 43 #[.val (.int p0), .val (.int p1), .val (.int (1 : Int32)), .val (.int (1 : Int32)), .val (.ref (w3_IPV6 Z)), .val (.ref (w3_IPV6 Z))] [])
      refine own_step (fun _ k => XS.iconst X32.here hx rfl (hb hby at_43) k) ?_
      show own_Wp p e below _ T32 (mkF m 44 #[.val (.int p0), .val (.int p1), .val (.int (1 : Int32)), .val (.int (1 : Int32)), .val (.ref (w3_IPV6 Z)), .val (.ref (w3_IPV6 Z))] [(.int (1 : Int32))])
      refine own_step (fun _ k => XS.goto X32.here hx rfl (pc0 := 44) (pc' := 48) rfl (hb hby at_44) (by decide) (by decide) k) ?_
      show own_Wp p e below _ T32 (mkF m 48 #[.val (.int p0), .val (.int p1), .val (.int (1 : Int32)), .val (.int (1 : Int32)), .val (.ref (w3_IPV6 Z)), .val (.ref (w3_IPV6 Z))] [(.int (1 : Int32))])
      exact own_retN X32 hx (t := .boolean) hret (by simp) hlk (hb hby at_48) (by decide) (by decide) ⟨rfl, N32⟩
    · skip
      rw [hm]
      show own_Wp p e below _ s₁ (mkF m 15 #[.val (.int p0), .val (.int p1), .val (.int (1 : Int32)), .unset, .unset, .unset] [(.int (2 : Int32))])
      refine own_step (fun _ k => XS.istoreN X0.here hx rfl (hb hby at_15) rfl (l' := #[.val (.int p0), .val (.int p1), .val (.int (1 : Int32)), .val (.int (2 : Int32)), .unset, .unset]) rfl k) ?_
      show own_Wp p e below _ s₁ (mkF m 16 #[.val (.int p0), .val (.int p1), .val (.int (1 : Int32)), .val (.int (2 : Int32)), .unset, .unset] [])
      refine own_step (fun _ k => XS.iloadN X0.here hx rfl (hb hby at_16) rfl k) ?_
      show own_Wp p e below _ s₁ (mkF m 17 #[.val (.int p0), .val (.int p1), .val (.int (1 : Int32)), .val (.int (2 : Int32)), .unset, .unset] [(.int (1 : Int32))])
      obtain ⟨_, T33, L33, X33, hQ33, st33⟩ := own_callS X0 hx hZ hown (hw _ (List.mem_of_getElem? (i := 1) rfl)) (hw _ (List.mem_of_getElem? (i := 2) rfl)) (hw _ (List.mem_of_getElem? (i := 3) rfl)) (hw _ (List.mem_of_getElem? (i := 4) rfl)) (by decide) (rm1_3 l Z a0 hw hA [] h0 n0 O0) (W := 0) (by decide) (by decide) [(.int (1 : Int32))] rfl (lenOf pd1 rfl) (Ls := #[.val (.int p0), .val (.int p1), .val (.int (1 : Int32)), .val (.int (2 : Int32)), .unset, .unset]) (by rw [hml]; rfl) (rest := []) (Nat.le_of_eq rfl) (hb hby at_17) e0 (by decide) (by decide)
      refine st33 _ ?_
      obtain ⟨rfl, N33q, e33⟩ := hQ33
      have N33 := Fr.app (Fr.nil n0) N33q
      show own_Wp p e below _ T33 (mkF m 20 #[.val (.int p0), .val (.int p1), .val (.int (1 : Int32)), .val (.int (2 : Int32)), .unset, .unset] [(.ref (w3_IPV6 Z))])
      refine own_step (fun _ k => XS.astore X33.here hx rfl (hb hby at_20) rfl rfl (l' := #[.val (.int p0), .val (.int p1), .val (.int (1 : Int32)), .val (.int (2 : Int32)), .val (.ref (w3_IPV6 Z)), .unset]) rfl k) ?_
      show own_Wp p e below _ T33 (mkF m 22 #[.val (.int p0), .val (.int p1), .val (.int (1 : Int32)), .val (.int (2 : Int32)), .val (.ref (w3_IPV6 Z)), .unset] [])
      refine own_step (fun _ k => XS.iloadN X33.here hx rfl (hb hby at_22) rfl k) ?_
      show own_Wp p e below _ T33 (mkF m 23 #[.val (.int p0), .val (.int p1), .val (.int (1 : Int32)), .val (.int (2 : Int32)), .val (.ref (w3_IPV6 Z)), .unset] [(.int (2 : Int32))])
      obtain ⟨_, T34, L34, X34, hQ34, st34⟩ := own_callS X33 hx hZ hown (hw _ (List.mem_of_getElem? (i := 1) rfl)) (hw _ (List.mem_of_getElem? (i := 2) rfl)) (hw _ (List.mem_of_getElem? (i := 3) rfl)) (hw _ (List.mem_of_getElem? (i := 4) rfl)) (by decide) (rm1_8 l Z a0 hw hA [] h0 n0 O0) (W := 0) (by decide) (by decide) [(.int (2 : Int32))] rfl (lenOf pd1 rfl) (Ls := #[.val (.int p0), .val (.int p1), .val (.int (1 : Int32)), .val (.int (2 : Int32)), .val (.ref (w3_IPV6 Z)), .unset]) (by rw [hml]; rfl) (rest := []) (Nat.le_of_eq rfl) (hb hby at_23) e33 (by decide) (by decide)
      refine st34 _ ?_
      obtain ⟨rfl, N34q, e34⟩ := hQ34
      have N34 := Fr.app N33 N34q
      show own_Wp p e below _ T34 (mkF m 26 #[.val (.int p0), .val (.int p1), .val (.int (1 : Int32)), .val (.int (2 : Int32)), .val (.ref (w3_IPV6 Z)), .unset] [(.ref (w2_TCP Z))])
      refine own_step (fun _ k => XS.astore X34.here hx rfl (hb hby at_26) rfl rfl (l' := #[.val (.int p0), .val (.int p1), .val (.int (1 : Int32)), .val (.int (2 : Int32)), .val (.ref (w3_IPV6 Z)), .val (.ref (w2_TCP Z))]) rfl k) ?_
      show own_Wp p e below _ T34 (mkF m 28 #[.val (.int p0), .val (.int p1), .val (.int (1 : Int32)), .val (.int (2 : Int32)), .val (.ref (w3_IPV6 Z)), .val (.ref (w2_TCP Z))] [])
      refine own_step (fun _ k => XS.aload X34.here hx rfl (hb hby at_28) rfl rfl k) ?_
      show own_Wp p e below _ T34 (mkF m 30 #[.val (.int p0), .val (.int p1), .val (.int (1 : Int32)), .val (.int (2 : Int32)), .val (.ref (w3_IPV6 Z)), .val (.ref (w2_TCP Z))] [(.ref (w3_IPV6 Z))])
      refine own_step (fun _ k => XS.aload X34.here hx rfl (hb hby at_30) rfl rfl k) ?_
      show own_Wp p e below _ T34 (mkF m 32 #[.val (.int p0), .val (.int p1), .val (.int (1 : Int32)), .val (.int (2 : Int32)), .val (.ref (w3_IPV6 Z)), .val (.ref (w2_TCP Z))] [(.ref (w2_TCP Z)), (.ref (w3_IPV6 Z))])
      obtain ⟨_, T35, L35, X35, hQ35, st35⟩ := own_callV X34 hx hZ hown (hw _ (List.mem_of_getElem? (i := 10) rfl)) (hw _ (List.mem_of_getElem? (i := 11) rfl)) (notFace_of_selects (args := #[]) (mvT hZ (hw _ (List.mem_of_getElem? (i := 13) rfl)))) (hw _ (List.mem_of_getElem? (i := 13) rfl)) (hw _ (List.mem_of_getElem? (i := 12) rfl)) (hw _ (List.mem_of_getElem? (i := 6) rfl)) (hw _ (List.mem_of_getElem? (i := 14) rfl)) (by decide) ((ex_w3_IPV6 hw hA).ext O0.2) (rm2_25 l Z a0 hw hA [] (w3_IPV6 Z) (w2_TCP Z) h0 n0 O0 (fl3 hw hA) (fl2 hw hA)) (W := 0) (by decide) (by decide) [(.ref (w2_TCP Z))] rfl (lenOf pd3 rfl) (Ls := #[.val (.int p0), .val (.int p1), .val (.int (1 : Int32)), .val (.int (2 : Int32)), .val (.ref (w3_IPV6 Z)), .val (.ref (w2_TCP Z))]) (by rw [hml]; rfl) (rest := []) (Nat.le_of_eq rfl) (hb hby at_32) e34 (by decide) (by decide)
      refine st35 _ ?_
      obtain ⟨rfl, N35q, e35⟩ := hQ35
      have N35 := Fr.app N34 N35q
      show own_Wp p e below _ T35 (mkF m 35 #[.val (.int p0), .val (.int p1), .val (.int (1 : Int32)), .val (.int (2 : Int32)), .val (.ref (w3_IPV6 Z)), .val (.ref (w2_TCP Z))] [(.int (0 : Int32))])
      refine own_step (fun _ k => XS.iloadN X35.here hx rfl (hb hby at_35) rfl k) ?_
      show own_Wp p e below _ T35 (mkF m 36 #[.val (.int p0), .val (.int p1), .val (.int (1 : Int32)), .val (.int (2 : Int32)), .val (.ref (w3_IPV6 Z)), .val (.ref (w2_TCP Z))] [(.int (1 : Int32)), (.int (0 : Int32))])
      refine own_step (fun _ k => XS.iloadN X35.here hx rfl (hb hby at_36) rfl k) ?_
      show own_Wp p e below _ T35 (mkF m 37 #[.val (.int p0), .val (.int p1), .val (.int (1 : Int32)), .val (.int (2 : Int32)), .val (.ref (w3_IPV6 Z)), .val (.ref (w2_TCP Z))] [(.int (2 : Int32)), (.int (1 : Int32)), (.int (0 : Int32))])
      obtain ⟨_, T36, L36, X36, hQ36, st36⟩ := own_callS X35 hx hZ hown (hw _ (List.mem_of_getElem? (i := 17) rfl)) (hw _ (List.mem_of_getElem? (i := 18) rfl)) (hw _ (List.mem_of_getElem? (i := 3) rfl)) (hw _ (List.mem_of_getElem? (i := 19) rfl)) (by decide) (rm3_33 l Z a0 hw hA [] h0 n0 O0) (W := 1) (by decide) (by decide) [(.int (1 : Int32)), (.int (2 : Int32))] rfl (lenOf pd4 rfl) (Ls := #[.val (.int p0), .val (.int p1), .val (.int (1 : Int32)), .val (.int (2 : Int32)), .val (.ref (w3_IPV6 Z)), .val (.ref (w2_TCP Z))]) (by rw [hml]; rfl) (rest := [(.int (0 : Int32))]) (Nat.le_of_eq rfl) (hb hby at_37) e35 (by decide) (by decide)
      refine st36 _ ?_
      obtain ⟨rfl, N36q, e36⟩ := hQ36
      have N36 := Fr.app N35 N36q
      show own_Wp p e below _ T36 (mkF m 40 #[.val (.int p0), .val (.int p1), .val (.int (1 : Int32)), .val (.int (2 : Int32)), .val (.ref (w3_IPV6 Z)), .val (.ref (w2_TCP Z))] [(.int (0 : Int32)), (.int (0 : Int32))])
      refine own_step (fun _ k => XS.icmpNo X36.here hx rfl (hb hby at_40) rfl (by decide) k) ?_
      show own_Wp p e below _ T36 (mkF m 43 #[.val (.int p0), .val (.int p1), .val (.int (1 : Int32)), .val (.int (2 : Int32)), .val (.ref (w3_IPV6 Z)), .val (.ref (w2_TCP Z))] [])
      refine own_step (fun _ k => XS.iconst X36.here hx rfl (hb hby at_43) k) ?_
      show own_Wp p e below _ T36 (mkF m 44 #[.val (.int p0), .val (.int p1), .val (.int (1 : Int32)), .val (.int (2 : Int32)), .val (.ref (w3_IPV6 Z)), .val (.ref (w2_TCP Z))] [(.int (1 : Int32))])
      refine own_step (fun _ k => XS.goto X36.here hx rfl (pc0 := 44) (pc' := 48) rfl (hb hby at_44) (by decide) (by decide) k) ?_
      show own_Wp p e below _ T36 (mkF m 48 #[.val (.int p0), .val (.int p1), .val (.int (1 : Int32)), .val (.int (2 : Int32)), .val (.ref (w3_IPV6 Z)), .val (.ref (w2_TCP Z))] [(.int (1 : Int32))])
      exact own_retN X36 hx (t := .boolean) hret (by simp) hlk (hb hby at_48) (by decide) (by decide) ⟨rfl, N36⟩
    · skip
      rw [hm]
      show own_Wp p e below _ s₁ (mkF m 15 #[.val (.int p0), .val (.int p1), .val (.int (1 : Int32)), .unset, .unset, .unset] [(.int (3 : Int32))])
      refine own_step (fun _ k => XS.istoreN X0.here hx rfl (hb hby at_15) rfl (l' := #[.val (.int p0), .val (.int p1), .val (.int (1 : Int32)), .val (.int (3 : Int32)), .unset, .unset]) rfl k) ?_
      show own_Wp p e below _ s₁ (mkF m 16 #[.val (.int p0), .val (.int p1), .val (.int (1 : Int32)), .val (.int (3 : Int32)), .unset, .unset] [])
      refine own_step (fun _ k => XS.iloadN X0.here hx rfl (hb hby at_16) rfl k) ?_
      show own_Wp p e below _ s₁ (mkF m 17 #[.val (.int p0), .val (.int p1), .val (.int (1 : Int32)), .val (.int (3 : Int32)), .unset, .unset] [(.int (1 : Int32))])
      obtain ⟨_, T37, L37, X37, hQ37, st37⟩ := own_callS X0 hx hZ hown (hw _ (List.mem_of_getElem? (i := 1) rfl)) (hw _ (List.mem_of_getElem? (i := 2) rfl)) (hw _ (List.mem_of_getElem? (i := 3) rfl)) (hw _ (List.mem_of_getElem? (i := 4) rfl)) (by decide) (rm1_3 l Z a0 hw hA [] h0 n0 O0) (W := 0) (by decide) (by decide) [(.int (1 : Int32))] rfl (lenOf pd1 rfl) (Ls := #[.val (.int p0), .val (.int p1), .val (.int (1 : Int32)), .val (.int (3 : Int32)), .unset, .unset]) (by rw [hml]; rfl) (rest := []) (Nat.le_of_eq rfl) (hb hby at_17) e0 (by decide) (by decide)
      refine st37 _ ?_
      obtain ⟨rfl, N37q, e37⟩ := hQ37
      have N37 := Fr.app (Fr.nil n0) N37q
      show own_Wp p e below _ T37 (mkF m 20 #[.val (.int p0), .val (.int p1), .val (.int (1 : Int32)), .val (.int (3 : Int32)), .unset, .unset] [(.ref (w3_IPV6 Z))])
      refine own_step (fun _ k => XS.astore X37.here hx rfl (hb hby at_20) rfl rfl (l' := #[.val (.int p0), .val (.int p1), .val (.int (1 : Int32)), .val (.int (3 : Int32)), .val (.ref (w3_IPV6 Z)), .unset]) rfl k) ?_
      show own_Wp p e below _ T37 (mkF m 22 #[.val (.int p0), .val (.int p1), .val (.int (1 : Int32)), .val (.int (3 : Int32)), .val (.ref (w3_IPV6 Z)), .unset] [])
      refine own_step (fun _ k => XS.iloadN X37.here hx rfl (hb hby at_22) rfl k) ?_
      show own_Wp p e below _ T37 (mkF m 23 #[.val (.int p0), .val (.int p1), .val (.int (1 : Int32)), .val (.int (3 : Int32)), .val (.ref (w3_IPV6 Z)), .unset] [(.int (3 : Int32))])
      obtain ⟨_, T38, L38, X38, hQ38, st38⟩ := own_callS X37 hx hZ hown (hw _ (List.mem_of_getElem? (i := 1) rfl)) (hw _ (List.mem_of_getElem? (i := 2) rfl)) (hw _ (List.mem_of_getElem? (i := 3) rfl)) (hw _ (List.mem_of_getElem? (i := 4) rfl)) (by decide) (rm1_13 l Z a0 hw hA [] h0 n0 O0) (W := 0) (by decide) (by decide) [(.int (3 : Int32))] rfl (lenOf pd1 rfl) (Ls := #[.val (.int p0), .val (.int p1), .val (.int (1 : Int32)), .val (.int (3 : Int32)), .val (.ref (w3_IPV6 Z)), .unset]) (by rw [hml]; rfl) (rest := []) (Nat.le_of_eq rfl) (hb hby at_23) e37 (by decide) (by decide)
      refine st38 _ ?_
      obtain ⟨rfl, N38q, e38⟩ := hQ38
      have N38 := Fr.app N37 N38q
      show own_Wp p e below _ T38 (mkF m 26 #[.val (.int p0), .val (.int p1), .val (.int (1 : Int32)), .val (.int (3 : Int32)), .val (.ref (w3_IPV6 Z)), .unset] [(.ref (w1_TCP6 Z))])
      refine own_step (fun _ k => XS.astore X38.here hx rfl (hb hby at_26) rfl rfl (l' := #[.val (.int p0), .val (.int p1), .val (.int (1 : Int32)), .val (.int (3 : Int32)), .val (.ref (w3_IPV6 Z)), .val (.ref (w1_TCP6 Z))]) rfl k) ?_
      show own_Wp p e below _ T38 (mkF m 28 #[.val (.int p0), .val (.int p1), .val (.int (1 : Int32)), .val (.int (3 : Int32)), .val (.ref (w3_IPV6 Z)), .val (.ref (w1_TCP6 Z))] [])
      refine own_step (fun _ k => XS.aload X38.here hx rfl (hb hby at_28) rfl rfl k) ?_
      show own_Wp p e below _ T38 (mkF m 30 #[.val (.int p0), .val (.int p1), .val (.int (1 : Int32)), .val (.int (3 : Int32)), .val (.ref (w3_IPV6 Z)), .val (.ref (w1_TCP6 Z))] [(.ref (w3_IPV6 Z))])
      refine own_step (fun _ k => XS.aload X38.here hx rfl (hb hby at_30) rfl rfl k) ?_
      show own_Wp p e below _ T38 (mkF m 32 #[.val (.int p0), .val (.int p1), .val (.int (1 : Int32)), .val (.int (3 : Int32)), .val (.ref (w3_IPV6 Z)), .val (.ref (w1_TCP6 Z))] [(.ref (w1_TCP6 Z)), (.ref (w3_IPV6 Z))])
      obtain ⟨_, T39, L39, X39, hQ39, st39⟩ := own_callV X38 hx hZ hown (hw _ (List.mem_of_getElem? (i := 10) rfl)) (hw _ (List.mem_of_getElem? (i := 11) rfl)) (notFace_of_selects (args := #[]) (mvT hZ (hw _ (List.mem_of_getElem? (i := 13) rfl)))) (hw _ (List.mem_of_getElem? (i := 13) rfl)) (hw _ (List.mem_of_getElem? (i := 12) rfl)) (hw _ (List.mem_of_getElem? (i := 6) rfl)) (hw _ (List.mem_of_getElem? (i := 14) rfl)) (by decide) ((ex_w3_IPV6 hw hA).ext O0.2) (rm2_34 l Z a0 hw hA [] (w3_IPV6 Z) (w1_TCP6 Z) h0 n0 O0 (fl3 hw hA) (fl1 hw hA) (Fld.ne (fl11 hw hA) (fl10 hw hA) (by decide)) (fl13 hw hA)) (W := 0) (by decide) (by decide) [(.ref (w1_TCP6 Z))] rfl (lenOf pd3 rfl) (Ls := #[.val (.int p0), .val (.int p1), .val (.int (1 : Int32)), .val (.int (3 : Int32)), .val (.ref (w3_IPV6 Z)), .val (.ref (w1_TCP6 Z))]) (by rw [hml]; rfl) (rest := []) (Nat.le_of_eq rfl) (hb hby at_32) e38 (by decide) (by decide)
      refine st39 _ ?_
      obtain ⟨rfl, N39q, e39⟩ := hQ39
      have N39 := Fr.app N38 N39q
      show own_Wp p e below _ T39 (mkF m 35 #[.val (.int p0), .val (.int p1), .val (.int (1 : Int32)), .val (.int (3 : Int32)), .val (.ref (w3_IPV6 Z)), .val (.ref (w1_TCP6 Z))] [(.int (1 : Int32))])
      refine own_step (fun _ k => XS.iloadN X39.here hx rfl (hb hby at_35) rfl k) ?_
      show own_Wp p e below _ T39 (mkF m 36 #[.val (.int p0), .val (.int p1), .val (.int (1 : Int32)), .val (.int (3 : Int32)), .val (.ref (w3_IPV6 Z)), .val (.ref (w1_TCP6 Z))] [(.int (1 : Int32)), (.int (1 : Int32))])
      refine own_step (fun _ k => XS.iloadN X39.here hx rfl (hb hby at_36) rfl k) ?_
      show own_Wp p e below _ T39 (mkF m 37 #[.val (.int p0), .val (.int p1), .val (.int (1 : Int32)), .val (.int (3 : Int32)), .val (.ref (w3_IPV6 Z)), .val (.ref (w1_TCP6 Z))] [(.int (3 : Int32)), (.int (1 : Int32)), (.int (1 : Int32))])
      obtain ⟨_, T40, L40, X40, hQ40, st40⟩ := own_callS X39 hx hZ hown (hw _ (List.mem_of_getElem? (i := 17) rfl)) (hw _ (List.mem_of_getElem? (i := 18) rfl)) (hw _ (List.mem_of_getElem? (i := 3) rfl)) (hw _ (List.mem_of_getElem? (i := 19) rfl)) (by decide) (rm3_37 l Z a0 hw hA [] h0 n0 O0) (W := 1) (by decide) (by decide) [(.int (1 : Int32)), (.int (3 : Int32))] rfl (lenOf pd4 rfl) (Ls := #[.val (.int p0), .val (.int p1), .val (.int (1 : Int32)), .val (.int (3 : Int32)), .val (.ref (w3_IPV6 Z)), .val (.ref (w1_TCP6 Z))]) (by rw [hml]; rfl) (rest := [(.int (1 : Int32))]) (Nat.le_of_eq rfl) (hb hby at_37) e39 (by decide) (by decide)
      refine st40 _ ?_
      obtain ⟨rfl, N40q, e40⟩ := hQ40
      have N40 := Fr.app N39 N40q
      show own_Wp p e below _ T40 (mkF m 40 #[.val (.int p0), .val (.int p1), .val (.int (1 : Int32)), .val (.int (3 : Int32)), .val (.ref (w3_IPV6 Z)), .val (.ref (w1_TCP6 Z))] [(.int (1 : Int32)), (.int (1 : Int32))])
      refine own_step (fun _ k => XS.icmpNo X40.here hx rfl (hb hby at_40) rfl (by decide) k) ?_
      show own_Wp p e below _ T40 (mkF m 43 #[.val (.int p0), .val (.int p1), .val (.int (1 : Int32)), .val (.int (3 : Int32)), .val (.ref (w3_IPV6 Z)), .val (.ref (w1_TCP6 Z))] [])
      refine own_step (fun _ k => XS.iconst X40.here hx rfl (hb hby at_43) k) ?_
      show own_Wp p e below _ T40 (mkF m 44 #[.val (.int p0), .val (.int p1), .val (.int (1 : Int32)), .val (.int (3 : Int32)), .val (.ref (w3_IPV6 Z)), .val (.ref (w1_TCP6 Z))] [(.int (1 : Int32))])
      refine own_step (fun _ k => XS.goto X40.here hx rfl (pc0 := 44) (pc' := 48) rfl (hb hby at_44) (by decide) (by decide) k) ?_
      show own_Wp p e below _ T40 (mkF m 48 #[.val (.int p0), .val (.int p1), .val (.int (1 : Int32)), .val (.int (3 : Int32)), .val (.ref (w3_IPV6 Z)), .val (.ref (w1_TCP6 Z))] [(.int (1 : Int32))])
      exact own_retN X40 hx (t := .boolean) hret (by simp) hlk (hb hby at_48) (by decide) (by decide) ⟨rfl, N40⟩
    · skip
      rw [hm]
      show own_Wp p e below _ s₁ (mkF m 15 #[.val (.int p0), .val (.int p1), .val (.int (1 : Int32)), .unset, .unset, .unset] [(.int (4 : Int32))])
      refine own_step (fun _ k => XS.istoreN X0.here hx rfl (hb hby at_15) rfl (l' := #[.val (.int p0), .val (.int p1), .val (.int (1 : Int32)), .val (.int (4 : Int32)), .unset, .unset]) rfl k) ?_
      show own_Wp p e below _ s₁ (mkF m 16 #[.val (.int p0), .val (.int p1), .val (.int (1 : Int32)), .val (.int (4 : Int32)), .unset, .unset] [])
      refine own_step (fun _ k => XS.iloadN X0.here hx rfl (hb hby at_16) rfl k) ?_
      show own_Wp p e below _ s₁ (mkF m 17 #[.val (.int p0), .val (.int p1), .val (.int (1 : Int32)), .val (.int (4 : Int32)), .unset, .unset] [(.int (1 : Int32))])
      obtain ⟨_, T41, L41, X41, hQ41, st41⟩ := own_callS X0 hx hZ hown (hw _ (List.mem_of_getElem? (i := 1) rfl)) (hw _ (List.mem_of_getElem? (i := 2) rfl)) (hw _ (List.mem_of_getElem? (i := 3) rfl)) (hw _ (List.mem_of_getElem? (i := 4) rfl)) (by decide) (rm1_3 l Z a0 hw hA [] h0 n0 O0) (W := 0) (by decide) (by decide) [(.int (1 : Int32))] rfl (lenOf pd1 rfl) (Ls := #[.val (.int p0), .val (.int p1), .val (.int (1 : Int32)), .val (.int (4 : Int32)), .unset, .unset]) (by rw [hml]; rfl) (rest := []) (Nat.le_of_eq rfl) (hb hby at_17) e0 (by decide) (by decide)
      refine st41 _ ?_
      obtain ⟨rfl, N41q, e41⟩ := hQ41
      have N41 := Fr.app (Fr.nil n0) N41q
      show own_Wp p e below _ T41 (mkF m 20 #[.val (.int p0), .val (.int p1), .val (.int (1 : Int32)), .val (.int (4 : Int32)), .unset, .unset] [(.ref (w3_IPV6 Z))])
      refine own_step (fun _ k => XS.astore X41.here hx rfl (hb hby at_20) rfl rfl (l' := #[.val (.int p0), .val (.int p1), .val (.int (1 : Int32)), .val (.int (4 : Int32)), .val (.ref (w3_IPV6 Z)), .unset]) rfl k) ?_
      show own_Wp p e below _ T41 (mkF m 22 #[.val (.int p0), .val (.int p1), .val (.int (1 : Int32)), .val (.int (4 : Int32)), .val (.ref (w3_IPV6 Z)), .unset] [])
      refine own_step (fun _ k => XS.iloadN X41.here hx rfl (hb hby at_22) rfl k) ?_
      show own_Wp p e below _ T41 (mkF m 23 #[.val (.int p0), .val (.int p1), .val (.int (1 : Int32)), .val (.int (4 : Int32)), .val (.ref (w3_IPV6 Z)), .unset] [(.int (4 : Int32))])
      obtain ⟨_, T42, L42, X42, hQ42, st42⟩ := own_callS X41 hx hZ hown (hw _ (List.mem_of_getElem? (i := 1) rfl)) (hw _ (List.mem_of_getElem? (i := 2) rfl)) (hw _ (List.mem_of_getElem? (i := 3) rfl)) (hw _ (List.mem_of_getElem? (i := 4) rfl)) (by decide) (rm1_17 l Z a0 hw hA [] h0 n0 O0) (W := 0) (by decide) (by decide) [(.int (4 : Int32))] rfl (lenOf pd1 rfl) (Ls := #[.val (.int p0), .val (.int p1), .val (.int (1 : Int32)), .val (.int (4 : Int32)), .val (.ref (w3_IPV6 Z)), .unset]) (by rw [hml]; rfl) (rest := []) (Nat.le_of_eq rfl) (hb hby at_23) e41 (by decide) (by decide)
      refine st42 _ ?_
      obtain ⟨rfl, N42q, e42⟩ := hQ42
      have N42 := Fr.app N41 N42q
      show own_Wp p e below _ T42 (mkF m 26 #[.val (.int p0), .val (.int p1), .val (.int (1 : Int32)), .val (.int (4 : Int32)), .val (.ref (w3_IPV6 Z)), .unset] [(.ref (w5_UDP Z))])
      refine own_step (fun _ k => XS.astore X42.here hx rfl (hb hby at_26) rfl rfl (l' := #[.val (.int p0), .val (.int p1), .val (.int (1 : Int32)), .val (.int (4 : Int32)), .val (.ref (w3_IPV6 Z)), .val (.ref (w5_UDP Z))]) rfl k) ?_
      show own_Wp p e below _ T42 (mkF m 28 #[.val (.int p0), .val (.int p1), .val (.int (1 : Int32)), .val (.int (4 : Int32)), .val (.ref (w3_IPV6 Z)), .val (.ref (w5_UDP Z))] [])
      refine own_step (fun _ k => XS.aload X42.here hx rfl (hb hby at_28) rfl rfl k) ?_
      show own_Wp p e below _ T42 (mkF m 30 #[.val (.int p0), .val (.int p1), .val (.int (1 : Int32)), .val (.int (4 : Int32)), .val (.ref (w3_IPV6 Z)), .val (.ref (w5_UDP Z))] [(.ref (w3_IPV6 Z))])
      refine own_step (fun _ k => XS.aload X42.here hx rfl (hb hby at_30) rfl rfl k) ?_
      show own_Wp p e below _ T42 (mkF m 32 #[.val (.int p0), .val (.int p1), .val (.int (1 : Int32)), .val (.int (4 : Int32)), .val (.ref (w3_IPV6 Z)), .val (.ref (w5_UDP Z))] [(.ref (w5_UDP Z)), (.ref (w3_IPV6 Z))])
      obtain ⟨_, T43, L43, X43, hQ43, st43⟩ := own_callV X42 hx hZ hown (hw _ (List.mem_of_getElem? (i := 10) rfl)) (hw _ (List.mem_of_getElem? (i := 11) rfl)) (notFace_of_selects (args := #[]) (mvT hZ (hw _ (List.mem_of_getElem? (i := 13) rfl)))) (hw _ (List.mem_of_getElem? (i := 13) rfl)) (hw _ (List.mem_of_getElem? (i := 12) rfl)) (hw _ (List.mem_of_getElem? (i := 6) rfl)) (hw _ (List.mem_of_getElem? (i := 14) rfl)) (by decide) ((ex_w3_IPV6 hw hA).ext O0.2) (rm2_25 l Z a0 hw hA [] (w3_IPV6 Z) (w5_UDP Z) h0 n0 O0 (fl3 hw hA) (fl5 hw hA)) (W := 0) (by decide) (by decide) [(.ref (w5_UDP Z))] rfl (lenOf pd3 rfl) (Ls := #[.val (.int p0), .val (.int p1), .val (.int (1 : Int32)), .val (.int (4 : Int32)), .val (.ref (w3_IPV6 Z)), .val (.ref (w5_UDP Z))]) (by rw [hml]; rfl) (rest := []) (Nat.le_of_eq rfl) (hb hby at_32) e42 (by decide) (by decide)
      refine st43 _ ?_
      obtain ⟨rfl, N43q, e43⟩ := hQ43
      have N43 := Fr.app N42 N43q
      show own_Wp p e below _ T43 (mkF m 35 #[.val (.int p0), .val (.int p1), .val (.int (1 : Int32)), .val (.int (4 : Int32)), .val (.ref (w3_IPV6 Z)), .val (.ref (w5_UDP Z))] [(.int (0 : Int32))])
      refine own_step (fun _ k => XS.iloadN X43.here hx rfl (hb hby at_35) rfl k) ?_
      show own_Wp p e below _ T43 (mkF m 36 #[.val (.int p0), .val (.int p1), .val (.int (1 : Int32)), .val (.int (4 : Int32)), .val (.ref (w3_IPV6 Z)), .val (.ref (w5_UDP Z))] [(.int (1 : Int32)), (.int (0 : Int32))])
      refine own_step (fun _ k => XS.iloadN X43.here hx rfl (hb hby at_36) rfl k) ?_
      show own_Wp p e below _ T43 (mkF m 37 #[.val (.int p0), .val (.int p1), .val (.int (1 : Int32)), .val (.int (4 : Int32)), .val (.ref (w3_IPV6 Z)), .val (.ref (w5_UDP Z))] [(.int (4 : Int32)), (.int (1 : Int32)), (.int (0 : Int32))])
      obtain ⟨_, T44, L44, X44, hQ44, st44⟩ := own_callS X43 hx hZ hown (hw _ (List.mem_of_getElem? (i := 17) rfl)) (hw _ (List.mem_of_getElem? (i := 18) rfl)) (hw _ (List.mem_of_getElem? (i := 3) rfl)) (hw _ (List.mem_of_getElem? (i := 19) rfl)) (by decide) (rm3_40 l Z a0 hw hA [] h0 n0 O0) (W := 1) (by decide) (by decide) [(.int (1 : Int32)), (.int (4 : Int32))] rfl (lenOf pd4 rfl) (Ls := #[.val (.int p0), .val (.int p1), .val (.int (1 : Int32)), .val (.int (4 : Int32)), .val (.ref (w3_IPV6 Z)), .val (.ref (w5_UDP Z))]) (by rw [hml]; rfl) (rest := [(.int (0 : Int32))]) (Nat.le_of_eq rfl) (hb hby at_37) e43 (by decide) (by decide)
      refine st44 _ ?_
      obtain ⟨rfl, N44q, e44⟩ := hQ44
      have N44 := Fr.app N43 N44q
      show own_Wp p e below _ T44 (mkF m 40 #[.val (.int p0), .val (.int p1), .val (.int (1 : Int32)), .val (.int (4 : Int32)), .val (.ref (w3_IPV6 Z)), .val (.ref (w5_UDP Z))] [(.int (0 : Int32)), (.int (0 : Int32))])
      refine own_step (fun _ k => XS.icmpNo X44.here hx rfl (hb hby at_40) rfl (by decide) k) ?_
      show own_Wp p e below _ T44 (mkF m 43 #[.val (.int p0), .val (.int p1), .val (.int (1 : Int32)), .val (.int (4 : Int32)), .val (.ref (w3_IPV6 Z)), .val (.ref (w5_UDP Z))] [])
      refine own_step (fun _ k => XS.iconst X44.here hx rfl (hb hby at_43) k) ?_
      show own_Wp p e below _ T44 (mkF m 44 #[.val (.int p0), .val (.int p1), .val (.int (1 : Int32)), .val (.int (4 : Int32)), .val (.ref (w3_IPV6 Z)), .val (.ref (w5_UDP Z))] [(.int (1 : Int32))])
      refine own_step (fun _ k => XS.goto X44.here hx rfl (pc0 := 44) (pc' := 48) rfl (hb hby at_44) (by decide) (by decide) k) ?_
      show own_Wp p e below _ T44 (mkF m 48 #[.val (.int p0), .val (.int p1), .val (.int (1 : Int32)), .val (.int (4 : Int32)), .val (.ref (w3_IPV6 Z)), .val (.ref (w5_UDP Z))] [(.int (1 : Int32))])
      exact own_retN X44 hx (t := .boolean) hret (by simp) hlk (hb hby at_48) (by decide) (by decide) ⟨rfl, N44⟩
    · skip
      rw [hm]
      show own_Wp p e below _ s₁ (mkF m 15 #[.val (.int p0), .val (.int p1), .val (.int (1 : Int32)), .unset, .unset, .unset] [(.int (5 : Int32))])
      refine own_step (fun _ k => XS.istoreN X0.here hx rfl (hb hby at_15) rfl (l' := #[.val (.int p0), .val (.int p1), .val (.int (1 : Int32)), .val (.int (5 : Int32)), .unset, .unset]) rfl k) ?_
      show own_Wp p e below _ s₁ (mkF m 16 #[.val (.int p0), .val (.int p1), .val (.int (1 : Int32)), .val (.int (5 : Int32)), .unset, .unset] [])
      refine own_step (fun _ k => XS.iloadN X0.here hx rfl (hb hby at_16) rfl k) ?_
      show own_Wp p e below _ s₁ (mkF m 17 #[.val (.int p0), .val (.int p1), .val (.int (1 : Int32)), .val (.int (5 : Int32)), .unset, .unset] [(.int (1 : Int32))])
      obtain ⟨_, T45, L45, X45, hQ45, st45⟩ := own_callS X0 hx hZ hown (hw _ (List.mem_of_getElem? (i := 1) rfl)) (hw _ (List.mem_of_getElem? (i := 2) rfl)) (hw _ (List.mem_of_getElem? (i := 3) rfl)) (hw _ (List.mem_of_getElem? (i := 4) rfl)) (by decide) (rm1_3 l Z a0 hw hA [] h0 n0 O0) (W := 0) (by decide) (by decide) [(.int (1 : Int32))] rfl (lenOf pd1 rfl) (Ls := #[.val (.int p0), .val (.int p1), .val (.int (1 : Int32)), .val (.int (5 : Int32)), .unset, .unset]) (by rw [hml]; rfl) (rest := []) (Nat.le_of_eq rfl) (hb hby at_17) e0 (by decide) (by decide)
      refine st45 _ ?_
      obtain ⟨rfl, N45q, e45⟩ := hQ45
      have N45 := Fr.app (Fr.nil n0) N45q
      show own_Wp p e below _ T45 (mkF m 20 #[.val (.int p0), .val (.int p1), .val (.int (1 : Int32)), .val (.int (5 : Int32)), .unset, .unset] [(.ref (w3_IPV6 Z))])
      refine own_step (fun _ k => XS.astore X45.here hx rfl (hb hby at_20) rfl rfl (l' := #[.val (.int p0), .val (.int p1), .val (.int (1 : Int32)), .val (.int (5 : Int32)), .val (.ref (w3_IPV6 Z)), .unset]) rfl k) ?_
      show own_Wp p e below _ T45 (mkF m 22 #[.val (.int p0), .val (.int p1), .val (.int (1 : Int32)), .val (.int (5 : Int32)), .val (.ref (w3_IPV6 Z)), .unset] [])
      refine own_step (fun _ k => XS.iloadN X45.here hx rfl (hb hby at_22) rfl k) ?_
      show own_Wp p e below _ T45 (mkF m 23 #[.val (.int p0), .val (.int p1), .val (.int (1 : Int32)), .val (.int (5 : Int32)), .val (.ref (w3_IPV6 Z)), .unset] [(.int (5 : Int32))])
      obtain ⟨_, T46, L46, X46, hQ46, st46⟩ := own_callS X45 hx hZ hown (hw _ (List.mem_of_getElem? (i := 1) rfl)) (hw _ (List.mem_of_getElem? (i := 2) rfl)) (hw _ (List.mem_of_getElem? (i := 3) rfl)) (hw _ (List.mem_of_getElem? (i := 4) rfl)) (by decide) (rm1_21 l Z a0 hw hA [] h0 n0 O0) (W := 0) (by decide) (by decide) [(.int (5 : Int32))] rfl (lenOf pd1 rfl) (Ls := #[.val (.int p0), .val (.int p1), .val (.int (1 : Int32)), .val (.int (5 : Int32)), .val (.ref (w3_IPV6 Z)), .unset]) (by rw [hml]; rfl) (rest := []) (Nat.le_of_eq rfl) (hb hby at_23) e45 (by decide) (by decide)
      refine st46 _ ?_
      obtain ⟨rfl, N46q, e46⟩ := hQ46
      have N46 := Fr.app N45 N46q
      show own_Wp p e below _ T46 (mkF m 26 #[.val (.int p0), .val (.int p1), .val (.int (1 : Int32)), .val (.int (5 : Int32)), .val (.ref (w3_IPV6 Z)), .unset] [(.ref (w4_UDP6 Z))])
      refine own_step (fun _ k => XS.astore X46.here hx rfl (hb hby at_26) rfl rfl (l' := #[.val (.int p0), .val (.int p1), .val (.int (1 : Int32)), .val (.int (5 : Int32)), .val (.ref (w3_IPV6 Z)), .val (.ref (w4_UDP6 Z))]) rfl k) ?_
      show own_Wp p e below _ T46 (mkF m 28 #[.val (.int p0), .val (.int p1), .val (.int (1 : Int32)), .val (.int (5 : Int32)), .val (.ref (w3_IPV6 Z)), .val (.ref (w4_UDP6 Z))] [])
      refine own_step (fun _ k => XS.aload X46.here hx rfl (hb hby at_28) rfl rfl k) ?_
      show own_Wp p e below _ T46 (mkF m 30 #[.val (.int p0), .val (.int p1), .val (.int (1 : Int32)), .val (.int (5 : Int32)), .val (.ref (w3_IPV6 Z)), .val (.ref (w4_UDP6 Z))] [(.ref (w3_IPV6 Z))])
      refine own_step (fun _ k => XS.aload X46.here hx rfl (hb hby at_30) rfl rfl k) ?_
      show own_Wp p e below _ T46 (mkF m 32 #[.val (.int p0), .val (.int p1), .val (.int (1 : Int32)), .val (.int (5 : Int32)), .val (.ref (w3_IPV6 Z)), .val (.ref (w4_UDP6 Z))] [(.ref (w4_UDP6 Z)), (.ref (w3_IPV6 Z))])
      obtain ⟨_, T47, L47, X47, hQ47, st47⟩ := own_callV X46 hx hZ hown (hw _ (List.mem_of_getElem? (i := 10) rfl)) (hw _ (List.mem_of_getElem? (i := 11) rfl)) (notFace_of_selects (args := #[]) (mvT hZ (hw _ (List.mem_of_getElem? (i := 13) rfl)))) (hw _ (List.mem_of_getElem? (i := 13) rfl)) (hw _ (List.mem_of_getElem? (i := 12) rfl)) (hw _ (List.mem_of_getElem? (i := 6) rfl)) (hw _ (List.mem_of_getElem? (i := 14) rfl)) (by decide) ((ex_w3_IPV6 hw hA).ext O0.2) (rm2_34 l Z a0 hw hA [] (w3_IPV6 Z) (w4_UDP6 Z) h0 n0 O0 (fl3 hw hA) (fl4 hw hA) (Fld.ne (fl11 hw hA) (fl15 hw hA) (by decide)) (fl13 hw hA)) (W := 0) (by decide) (by decide) [(.ref (w4_UDP6 Z))] rfl (lenOf pd3 rfl) (Ls := #[.val (.int p0), .val (.int p1), .val (.int (1 : Int32)), .val (.int (5 : Int32)), .val (.ref (w3_IPV6 Z)), .val (.ref (w4_UDP6 Z))]) (by rw [hml]; rfl) (rest := []) (Nat.le_of_eq rfl) (hb hby at_32) e46 (by decide) (by decide)
      refine st47 _ ?_
      obtain ⟨rfl, N47q, e47⟩ := hQ47
      have N47 := Fr.app N46 N47q
      show own_Wp p e below _ T47 (mkF m 35 #[.val (.int p0), .val (.int p1), .val (.int (1 : Int32)), .val (.int (5 : Int32)), .val (.ref (w3_IPV6 Z)), .val (.ref (w4_UDP6 Z))] [(.int (1 : Int32))])
      refine own_step (fun _ k => XS.iloadN X47.here hx rfl (hb hby at_35) rfl k) ?_
      show own_Wp p e below _ T47 (mkF m 36 #[.val (.int p0), .val (.int p1), .val (.int (1 : Int32)), .val (.int (5 : Int32)), .val (.ref (w3_IPV6 Z)), .val (.ref (w4_UDP6 Z))] [(.int (1 : Int32)), (.int (1 : Int32))])
      refine own_step (fun _ k => XS.iloadN X47.here hx rfl (hb hby at_36) rfl k) ?_
      show own_Wp p e below _ T47 (mkF m 37 #[.val (.int p0), .val (.int p1), .val (.int (1 : Int32)), .val (.int (5 : Int32)), .val (.ref (w3_IPV6 Z)), .val (.ref (w4_UDP6 Z))] [(.int (5 : Int32)), (.int (1 : Int32)), (.int (1 : Int32))])
      obtain ⟨_, T48, L48, X48, hQ48, st48⟩ := own_callS X47 hx hZ hown (hw _ (List.mem_of_getElem? (i := 17) rfl)) (hw _ (List.mem_of_getElem? (i := 18) rfl)) (hw _ (List.mem_of_getElem? (i := 3) rfl)) (hw _ (List.mem_of_getElem? (i := 19) rfl)) (by decide) (rm3_43 l Z a0 hw hA [] h0 n0 O0) (W := 1) (by decide) (by decide) [(.int (1 : Int32)), (.int (5 : Int32))] rfl (lenOf pd4 rfl) (Ls := #[.val (.int p0), .val (.int p1), .val (.int (1 : Int32)), .val (.int (5 : Int32)), .val (.ref (w3_IPV6 Z)), .val (.ref (w4_UDP6 Z))]) (by rw [hml]; rfl) (rest := [(.int (1 : Int32))]) (Nat.le_of_eq rfl) (hb hby at_37) e47 (by decide) (by decide)
      refine st48 _ ?_
      obtain ⟨rfl, N48q, e48⟩ := hQ48
      have N48 := Fr.app N47 N48q
      show own_Wp p e below _ T48 (mkF m 40 #[.val (.int p0), .val (.int p1), .val (.int (1 : Int32)), .val (.int (5 : Int32)), .val (.ref (w3_IPV6 Z)), .val (.ref (w4_UDP6 Z))] [(.int (1 : Int32)), (.int (1 : Int32))])
      refine own_step (fun _ k => XS.icmpNo X48.here hx rfl (hb hby at_40) rfl (by decide) k) ?_
      show own_Wp p e below _ T48 (mkF m 43 #[.val (.int p0), .val (.int p1), .val (.int (1 : Int32)), .val (.int (5 : Int32)), .val (.ref (w3_IPV6 Z)), .val (.ref (w4_UDP6 Z))] [])
      refine own_step (fun _ k => XS.iconst X48.here hx rfl (hb hby at_43) k) ?_
      show own_Wp p e below _ T48 (mkF m 44 #[.val (.int p0), .val (.int p1), .val (.int (1 : Int32)), .val (.int (5 : Int32)), .val (.ref (w3_IPV6 Z)), .val (.ref (w4_UDP6 Z))] [(.int (1 : Int32))])
      refine own_step (fun _ k => XS.goto X48.here hx rfl (pc0 := 44) (pc' := 48) rfl (hb hby at_44) (by decide) (by decide) k) ?_
      show own_Wp p e below _ T48 (mkF m 48 #[.val (.int p0), .val (.int p1), .val (.int (1 : Int32)), .val (.int (5 : Int32)), .val (.ref (w3_IPV6 Z)), .val (.ref (w4_UDP6 Z))] [(.int (1 : Int32))])
      exact own_retN X48 hx (t := .boolean) hret (by simp) hlk (hb hby at_48) (by decide) (by decide) ⟨rfl, N48⟩
  · skip
    rw [hm]
    show own_Wp p e below _ s₁ (mkF m 7 #[.val (.int p0), .val (.int p1), .unset, .unset, .unset, .unset] [(.int (2 : Int32))])
    refine own_step (fun _ k => XS.istoreN X0.here hx rfl (hb hby at_7) rfl (l' := #[.val (.int p0), .val (.int p1), .val (.int (2 : Int32)), .unset, .unset, .unset]) rfl k) ?_
    show own_Wp p e below _ s₁ (mkF m 8 #[.val (.int p0), .val (.int p1), .val (.int (2 : Int32)), .unset, .unset, .unset] [])
    refine own_step (fun _ k => XS.iloadN X0.here hx rfl (hb hby at_8) rfl k) ?_
    show own_Wp p e below _ s₁ (mkF m 9 #[.val (.int p0), .val (.int p1), .val (.int (2 : Int32)), .unset, .unset, .unset] [(.int p1)])
    refine own_step (X0.ldcInt hx hown (mvT hZ (hw _ (List.mem_of_getElem? (i := 0) rfl))) (g := (mkF m 9 #[.val (.int p0), .val (.int p1), .val (.int (2 : Int32)), .unset, .unset, .unset] [(.int p1)])) rfl (hb hby at_9)) ?_
    show own_Wp p e below _ s₁ (mkF m 11 #[.val (.int p0), .val (.int p1), .val (.int (2 : Int32)), .unset, .unset, .unset] [(.int (2147483647 : Int32)), (.int p1)])
    refine own_step (fun _ k => XS.iand X0.here hx rfl (hb hby at_11) rfl k) ?_
    show own_Wp p e below _ s₁ (mkF m 12 #[.val (.int p0), .val (.int p1), .val (.int (2 : Int32)), .unset, .unset, .unset] [(.int (p1 &&& (2147483647 : Int32)))])
    refine own_step (fun _ k => XS.bipush X0.here hx rfl (hb hby at_12) k) ?_
    show own_Wp p e below _ s₁ (mkF m 14 #[.val (.int p0), .val (.int p1), .val (.int (2 : Int32)), .unset, .unset, .unset] [(.int (6 : Int32)), (.int (p1 &&& (2147483647 : Int32)))])
    refine own_step (fun _ k => iremM (g := (mkF m 14 #[.val (.int p0), .val (.int p1), .val (.int (2 : Int32)), .unset, .unset, .unset] [(.int (6 : Int32)), (.int (p1 &&& (2147483647 : Int32)))])) X0 hx rfl (hb hby at_14) rfl (by decide) k) ?_
    show own_Wp p e below _ s₁ (mkF m 15 #[.val (.int p0), .val (.int p1), .val (.int (2 : Int32)), .unset, .unset, .unset] [(.int ((p1 &&& (2147483647 : Int32)) % (6 : Int32)))])
    rcases own_mod6 p1 with hm | hm | hm | hm | hm | hm
    · skip
      rw [hm]
      show own_Wp p e below _ s₁ (mkF m 15 #[.val (.int p0), .val (.int p1), .val (.int (2 : Int32)), .unset, .unset, .unset] [(.int (0 : Int32))])
      refine own_step (fun _ k => XS.istoreN X0.here hx rfl (hb hby at_15) rfl (l' := #[.val (.int p0), .val (.int p1), .val (.int (2 : Int32)), .val (.int (0 : Int32)), .unset, .unset]) rfl k) ?_
      show own_Wp p e below _ s₁ (mkF m 16 #[.val (.int p0), .val (.int p1), .val (.int (2 : Int32)), .val (.int (0 : Int32)), .unset, .unset] [])
      refine own_step (fun _ k => XS.iloadN X0.here hx rfl (hb hby at_16) rfl k) ?_
      show own_Wp p e below _ s₁ (mkF m 17 #[.val (.int p0), .val (.int p1), .val (.int (2 : Int32)), .val (.int (0 : Int32)), .unset, .unset] [(.int (2 : Int32))])
      obtain ⟨_, T49, L49, X49, hQ49, st49⟩ := own_callS X0 hx hZ hown (hw _ (List.mem_of_getElem? (i := 1) rfl)) (hw _ (List.mem_of_getElem? (i := 2) rfl)) (hw _ (List.mem_of_getElem? (i := 3) rfl)) (hw _ (List.mem_of_getElem? (i := 4) rfl)) (by decide) (rm1_8 l Z a0 hw hA [] h0 n0 O0) (W := 0) (by decide) (by decide) [(.int (2 : Int32))] rfl (lenOf pd1 rfl) (Ls := #[.val (.int p0), .val (.int p1), .val (.int (2 : Int32)), .val (.int (0 : Int32)), .unset, .unset]) (by rw [hml]; rfl) (rest := []) (Nat.le_of_eq rfl) (hb hby at_17) e0 (by decide) (by decide)
      refine st49 _ ?_
      obtain ⟨rfl, N49q, e49⟩ := hQ49
      have N49 := Fr.app (Fr.nil n0) N49q
      show own_Wp p e below _ T49 (mkF m 20 #[.val (.int p0), .val (.int p1), .val (.int (2 : Int32)), .val (.int (0 : Int32)), .unset, .unset] [(.ref (w2_TCP Z))])
      refine own_step (fun _ k => XS.astore X49.here hx rfl (hb hby at_20) rfl rfl (l' := #[.val (.int p0), .val (.int p1), .val (.int (2 : Int32)), .val (.int (0 : Int32)), .val (.ref (w2_TCP Z)), .unset]) rfl k) ?_
      show own_Wp p e below _ T49 (mkF m 22 #[.val (.int p0), .val (.int p1), .val (.int (2 : Int32)), .val (.int (0 : Int32)), .val (.ref (w2_TCP Z)), .unset] [])
      refine own_step (fun _ k => XS.iloadN X49.here hx rfl (hb hby at_22) rfl k) ?_
      show own_Wp p e below _ T49 (mkF m 23 #[.val (.int p0), .val (.int p1), .val (.int (2 : Int32)), .val (.int (0 : Int32)), .val (.ref (w2_TCP Z)), .unset] [(.int (0 : Int32))])
      obtain ⟨_, T50, L50, X50, hQ50, st50⟩ := own_callS X49 hx hZ hown (hw _ (List.mem_of_getElem? (i := 1) rfl)) (hw _ (List.mem_of_getElem? (i := 2) rfl)) (hw _ (List.mem_of_getElem? (i := 3) rfl)) (hw _ (List.mem_of_getElem? (i := 4) rfl)) (by decide) (rm1_0 l Z a0 hw hA [] h0 n0 O0) (W := 0) (by decide) (by decide) [(.int (0 : Int32))] rfl (lenOf pd1 rfl) (Ls := #[.val (.int p0), .val (.int p1), .val (.int (2 : Int32)), .val (.int (0 : Int32)), .val (.ref (w2_TCP Z)), .unset]) (by rw [hml]; rfl) (rest := []) (Nat.le_of_eq rfl) (hb hby at_23) e49 (by decide) (by decide)
      refine st50 _ ?_
      obtain ⟨rfl, N50q, e50⟩ := hQ50
      have N50 := Fr.app N49 N50q
      show own_Wp p e below _ T50 (mkF m 26 #[.val (.int p0), .val (.int p1), .val (.int (2 : Int32)), .val (.int (0 : Int32)), .val (.ref (w2_TCP Z)), .unset] [(.ref (w0_IPV4 Z))])
      refine own_step (fun _ k => XS.astore X50.here hx rfl (hb hby at_26) rfl rfl (l' := #[.val (.int p0), .val (.int p1), .val (.int (2 : Int32)), .val (.int (0 : Int32)), .val (.ref (w2_TCP Z)), .val (.ref (w0_IPV4 Z))]) rfl k) ?_
      show own_Wp p e below _ T50 (mkF m 28 #[.val (.int p0), .val (.int p1), .val (.int (2 : Int32)), .val (.int (0 : Int32)), .val (.ref (w2_TCP Z)), .val (.ref (w0_IPV4 Z))] [])
      refine own_step (fun _ k => XS.aload X50.here hx rfl (hb hby at_28) rfl rfl k) ?_
      show own_Wp p e below _ T50 (mkF m 30 #[.val (.int p0), .val (.int p1), .val (.int (2 : Int32)), .val (.int (0 : Int32)), .val (.ref (w2_TCP Z)), .val (.ref (w0_IPV4 Z))] [(.ref (w2_TCP Z))])
      refine own_step (fun _ k => XS.aload X50.here hx rfl (hb hby at_30) rfl rfl k) ?_
      show own_Wp p e below _ T50 (mkF m 32 #[.val (.int p0), .val (.int p1), .val (.int (2 : Int32)), .val (.int (0 : Int32)), .val (.ref (w2_TCP Z)), .val (.ref (w0_IPV4 Z))] [(.ref (w0_IPV4 Z)), (.ref (w2_TCP Z))])
      obtain ⟨_, T51, L51, X51, hQ51, st51⟩ := own_callV X50 hx hZ hown (hw _ (List.mem_of_getElem? (i := 10) rfl)) (hw _ (List.mem_of_getElem? (i := 11) rfl)) (notFace_of_selects (args := #[]) (mvT hZ (hw _ (List.mem_of_getElem? (i := 13) rfl)))) (hw _ (List.mem_of_getElem? (i := 13) rfl)) (hw _ (List.mem_of_getElem? (i := 12) rfl)) (hw _ (List.mem_of_getElem? (i := 6) rfl)) (hw _ (List.mem_of_getElem? (i := 14) rfl)) (by decide) ((ex_w2_TCP hw hA).ext O0.2) (rm2_44 l Z a0 hw hA [] (w2_TCP Z) (w0_IPV4 Z) h0 n0 O0 (fl2 hw hA) (fl0 hw hA) (Fld.ne (fl14 hw hA) (fl7 hw hA) (by decide)) (fl16 hw hA) (fl9 hw hA)) (W := 0) (by decide) (by decide) [(.ref (w0_IPV4 Z))] rfl (lenOf pd3 rfl) (Ls := #[.val (.int p0), .val (.int p1), .val (.int (2 : Int32)), .val (.int (0 : Int32)), .val (.ref (w2_TCP Z)), .val (.ref (w0_IPV4 Z))]) (by rw [hml]; rfl) (rest := []) (Nat.le_of_eq rfl) (hb hby at_32) e50 (by decide) (by decide)
      refine st51 _ ?_
      obtain ⟨rfl, N51q, e51⟩ := hQ51
      have N51 := Fr.app N50 N51q
      show own_Wp p e below _ T51 (mkF m 35 #[.val (.int p0), .val (.int p1), .val (.int (2 : Int32)), .val (.int (0 : Int32)), .val (.ref (w2_TCP Z)), .val (.ref (w0_IPV4 Z))] [(.int (1 : Int32))])
      refine own_step (fun _ k => XS.iloadN X51.here hx rfl (hb hby at_35) rfl k) ?_
      show own_Wp p e below _ T51 (mkF m 36 #[.val (.int p0), .val (.int p1), .val (.int (2 : Int32)), .val (.int (0 : Int32)), .val (.ref (w2_TCP Z)), .val (.ref (w0_IPV4 Z))] [(.int (2 : Int32)), (.int (1 : Int32))])
      refine own_step (fun _ k => XS.iloadN X51.here hx rfl (hb hby at_36) rfl k) ?_
      show own_Wp p e below _ T51 (mkF m 37 #[.val (.int p0), .val (.int p1), .val (.int (2 : Int32)), .val (.int (0 : Int32)), .val (.ref (w2_TCP Z)), .val (.ref (w0_IPV4 Z))] [(.int (0 : Int32)), (.int (2 : Int32)), (.int (1 : Int32))])
      obtain ⟨_, T52, L52, X52, hQ52, st52⟩ := own_callS X51 hx hZ hown (hw _ (List.mem_of_getElem? (i := 17) rfl)) (hw _ (List.mem_of_getElem? (i := 18) rfl)) (hw _ (List.mem_of_getElem? (i := 3) rfl)) (hw _ (List.mem_of_getElem? (i := 19) rfl)) (by decide) (rm3_47 l Z a0 hw hA [] h0 n0 O0) (W := 1) (by decide) (by decide) [(.int (2 : Int32)), (.int (0 : Int32))] rfl (lenOf pd4 rfl) (Ls := #[.val (.int p0), .val (.int p1), .val (.int (2 : Int32)), .val (.int (0 : Int32)), .val (.ref (w2_TCP Z)), .val (.ref (w0_IPV4 Z))]) (by rw [hml]; rfl) (rest := [(.int (1 : Int32))]) (Nat.le_of_eq rfl) (hb hby at_37) e51 (by decide) (by decide)
      refine st52 _ ?_
      obtain ⟨rfl, N52q, e52⟩ := hQ52
      have N52 := Fr.app N51 N52q
      show own_Wp p e below _ T52 (mkF m 40 #[.val (.int p0), .val (.int p1), .val (.int (2 : Int32)), .val (.int (0 : Int32)), .val (.ref (w2_TCP Z)), .val (.ref (w0_IPV4 Z))] [(.int (1 : Int32)), (.int (1 : Int32))])
      refine own_step (fun _ k => XS.icmpNo X52.here hx rfl (hb hby at_40) rfl (by decide) k) ?_
      show own_Wp p e below _ T52 (mkF m 43 #[.val (.int p0), .val (.int p1), .val (.int (2 : Int32)), .val (.int (0 : Int32)), .val (.ref (w2_TCP Z)), .val (.ref (w0_IPV4 Z))] [])
      refine own_step (fun _ k => XS.iconst X52.here hx rfl (hb hby at_43) k) ?_
      show own_Wp p e below _ T52 (mkF m 44 #[.val (.int p0), .val (.int p1), .val (.int (2 : Int32)), .val (.int (0 : Int32)), .val (.ref (w2_TCP Z)), .val (.ref (w0_IPV4 Z))] [(.int (1 : Int32))])
      refine own_step (fun _ k => XS.goto X52.here hx rfl (pc0 := 44) (pc' := 48) rfl (hb hby at_44) (by decide) (by decide) k) ?_
      show own_Wp p e below _ T52 (mkF m 48 #[.val (.int p0), .val (.int p1), .val (.int (2 : Int32)), .val (.int (0 : Int32)), .val (.ref (w2_TCP Z)), .val (.ref (w0_IPV4 Z))] [(.int (1 : Int32))])
      exact own_retN X52 hx (t := .boolean) hret (by simp) hlk (hb hby at_48) (by decide) (by decide) ⟨rfl, N52⟩
    · skip
      rw [hm]
      show own_Wp p e below _ s₁ (mkF m 15 #[.val (.int p0), .val (.int p1), .val (.int (2 : Int32)), .unset, .unset, .unset] [(.int (1 : Int32))])
      refine own_step (fun _ k => XS.istoreN X0.here hx rfl (hb hby at_15) rfl (l' := #[.val (.int p0), .val (.int p1), .val (.int (2 : Int32)), .val (.int (1 : Int32)), .unset, .unset]) rfl k) ?_
      show own_Wp p e below _ s₁ (mkF m 16 #[.val (.int p0), .val (.int p1), .val (.int (2 : Int32)), .val (.int (1 : Int32)), .unset, .unset] [])
      refine own_step (fun _ k => XS.iloadN X0.here hx rfl (hb hby at_16) rfl k) ?_
      show own_Wp p e below _ s₁ (mkF m 17 #[.val (.int p0), .val (.int p1), .val (.int (2 : Int32)), .val (.int (1 : Int32)), .unset, .unset] [(.int (2 : Int32))])
      obtain ⟨_, T53, L53, X53, hQ53, st53⟩ := own_callS X0 hx hZ hown (hw _ (List.mem_of_getElem? (i := 1) rfl)) (hw _ (List.mem_of_getElem? (i := 2) rfl)) (hw _ (List.mem_of_getElem? (i := 3) rfl)) (hw _ (List.mem_of_getElem? (i := 4) rfl)) (by decide) (rm1_8 l Z a0 hw hA [] h0 n0 O0) (W := 0) (by decide) (by decide) [(.int (2 : Int32))] rfl (lenOf pd1 rfl) (Ls := #[.val (.int p0), .val (.int p1), .val (.int (2 : Int32)), .val (.int (1 : Int32)), .unset, .unset]) (by rw [hml]; rfl) (rest := []) (Nat.le_of_eq rfl) (hb hby at_17) e0 (by decide) (by decide)
      refine st53 _ ?_
      obtain ⟨rfl, N53q, e53⟩ := hQ53
      have N53 := Fr.app (Fr.nil n0) N53q
      show own_Wp p e below _ T53 (mkF m 20 #[.val (.int p0), .val (.int p1), .val (.int (2 : Int32)), .val (.int (1 : Int32)), .unset, .unset] [(.ref (w2_TCP Z))])
      refine own_step (fun _ k => XS.astore X53.here hx rfl (hb hby at_20) rfl rfl (l' := #[.val (.int p0), .val (.int p1), .val (.int (2 : Int32)), .val (.int (1 : Int32)), .val (.ref (w2_TCP Z)), .unset]) rfl k) ?_
      show own_Wp p e below _ T53 (mkF m 22 #[.val (.int p0), .val (.int p1), .val (.int (2 : Int32)), .val (.int (1 : Int32)), .val (.ref (w2_TCP Z)), .unset] [])
      refine own_step (fun _ k => XS.iloadN X53.here hx rfl (hb hby at_22) rfl k) ?_
      show own_Wp p e below _ T53 (mkF m 23 #[.val (.int p0), .val (.int p1), .val (.int (2 : Int32)), .val (.int (1 : Int32)), .val (.ref (w2_TCP Z)), .unset] [(.int (1 : Int32))])
      obtain ⟨_, T54, L54, X54, hQ54, st54⟩ := own_callS X53 hx hZ hown (hw _ (List.mem_of_getElem? (i := 1) rfl)) (hw _ (List.mem_of_getElem? (i := 2) rfl)) (hw _ (List.mem_of_getElem? (i := 3) rfl)) (hw _ (List.mem_of_getElem? (i := 4) rfl)) (by decide) (rm1_3 l Z a0 hw hA [] h0 n0 O0) (W := 0) (by decide) (by decide) [(.int (1 : Int32))] rfl (lenOf pd1 rfl) (Ls := #[.val (.int p0), .val (.int p1), .val (.int (2 : Int32)), .val (.int (1 : Int32)), .val (.ref (w2_TCP Z)), .unset]) (by rw [hml]; rfl) (rest := []) (Nat.le_of_eq rfl) (hb hby at_23) e53 (by decide) (by decide)
      refine st54 _ ?_
      obtain ⟨rfl, N54q, e54⟩ := hQ54
      have N54 := Fr.app N53 N54q
      show own_Wp p e below _ T54 (mkF m 26 #[.val (.int p0), .val (.int p1), .val (.int (2 : Int32)), .val (.int (1 : Int32)), .val (.ref (w2_TCP Z)), .unset] [(.ref (w3_IPV6 Z))])
      refine own_step (fun _ k => XS.astore X54.here hx rfl (hb hby at_26) rfl rfl (l' := #[.val (.int p0), .val (.int p1), .val (.int (2 : Int32)), .val (.int (1 : Int32)), .val (.ref (w2_TCP Z)), .val (.ref (w3_IPV6 Z))]) rfl k) ?_
      show own_Wp p e below _ T54 (mkF m 28 #[.val (.int p0), .val (.int p1), .val (.int (2 : Int32)), .val (.int (1 : Int32)), .val (.ref (w2_TCP Z)), .val (.ref (w3_IPV6 Z))] [])
      refine own_step (fun _ k => XS.aload X54.here hx rfl (hb hby at_28) rfl rfl k) ?_
      show own_Wp p e below _ T54 (mkF m 30 #[.val (.int p0), .val (.int p1), .val (.int (2 : Int32)), .val (.int (1 : Int32)), .val (.ref (w2_TCP Z)), .val (.ref (w3_IPV6 Z))] [(.ref (w2_TCP Z))])
      refine own_step (fun _ k => XS.aload X54.here hx rfl (hb hby at_30) rfl rfl k) ?_
      show own_Wp p e below _ T54 (mkF m 32 #[.val (.int p0), .val (.int p1), .val (.int (2 : Int32)), .val (.int (1 : Int32)), .val (.ref (w2_TCP Z)), .val (.ref (w3_IPV6 Z))] [(.ref (w3_IPV6 Z)), (.ref (w2_TCP Z))])
      obtain ⟨_, T55, L55, X55, hQ55, st55⟩ := own_callV X54 hx hZ hown (hw _ (List.mem_of_getElem? (i := 10) rfl)) (hw _ (List.mem_of_getElem? (i := 11) rfl)) (notFace_of_selects (args := #[]) (mvT hZ (hw _ (List.mem_of_getElem? (i := 13) rfl)))) (hw _ (List.mem_of_getElem? (i := 13) rfl)) (hw _ (List.mem_of_getElem? (i := 12) rfl)) (hw _ (List.mem_of_getElem? (i := 6) rfl)) (hw _ (List.mem_of_getElem? (i := 14) rfl)) (by decide) ((ex_w2_TCP hw hA).ext O0.2) (rm2_4 l Z a0 hw hA [] (w2_TCP Z) (w3_IPV6 Z) h0 n0 O0 (fl2 hw hA) (fl3 hw hA)) (W := 0) (by decide) (by decide) [(.ref (w3_IPV6 Z))] rfl (lenOf pd3 rfl) (Ls := #[.val (.int p0), .val (.int p1), .val (.int (2 : Int32)), .val (.int (1 : Int32)), .val (.ref (w2_TCP Z)), .val (.ref (w3_IPV6 Z))]) (by rw [hml]; rfl) (rest := []) (Nat.le_of_eq rfl) (hb hby at_32) e54 (by decide) (by decide)
      refine st55 _ ?_
      obtain ⟨rfl, N55q, e55⟩ := hQ55
      have N55 := Fr.app N54 N55q
      show own_Wp p e below _ T55 (mkF m 35 #[.val (.int p0), .val (.int p1), .val (.int (2 : Int32)), .val (.int (1 : Int32)), .val (.ref (w2_TCP Z)), .val (.ref (w3_IPV6 Z))] [(.int (0 : Int32))])
      refine own_step (fun _ k => XS.iloadN X55.here hx rfl (hb hby at_35) rfl k) ?_
      show own_Wp p e below _ T55 (mkF m 36 #[.val (.int p0), .val (.int p1), .val (.int (2 : Int32)), .val (.int (1 : Int32)), .val (.ref (w2_TCP Z)), .val (.ref (w3_IPV6 Z))] [(.int (2 : Int32)), (.int (0 : Int32))])
      refine own_step (fun _ k => XS.iloadN X55.here hx rfl (hb hby at_36) rfl k) ?_
      show own_Wp p e below _ T55 (mkF m 37 #[.val (.int p0), .val (.int p1), .val (.int (2 : Int32)), .val (.int (1 : Int32)), .val (.ref (w2_TCP Z)), .val (.ref (w3_IPV6 Z))] [(.int (1 : Int32)), (.int (2 : Int32)), (.int (0 : Int32))])
      obtain ⟨_, T56, L56, X56, hQ56, st56⟩ := own_callS X55 hx hZ hown (hw _ (List.mem_of_getElem? (i := 17) rfl)) (hw _ (List.mem_of_getElem? (i := 18) rfl)) (hw _ (List.mem_of_getElem? (i := 3) rfl)) (hw _ (List.mem_of_getElem? (i := 19) rfl)) (by decide) (rm3_50 l Z a0 hw hA [] h0 n0 O0) (W := 1) (by decide) (by decide) [(.int (2 : Int32)), (.int (1 : Int32))] rfl (lenOf pd4 rfl) (Ls := #[.val (.int p0), .val (.int p1), .val (.int (2 : Int32)), .val (.int (1 : Int32)), .val (.ref (w2_TCP Z)), .val (.ref (w3_IPV6 Z))]) (by rw [hml]; rfl) (rest := [(.int (0 : Int32))]) (Nat.le_of_eq rfl) (hb hby at_37) e55 (by decide) (by decide)
      refine st56 _ ?_
      obtain ⟨rfl, N56q, e56⟩ := hQ56
      have N56 := Fr.app N55 N56q
      show own_Wp p e below _ T56 (mkF m 40 #[.val (.int p0), .val (.int p1), .val (.int (2 : Int32)), .val (.int (1 : Int32)), .val (.ref (w2_TCP Z)), .val (.ref (w3_IPV6 Z))] [(.int (0 : Int32)), (.int (0 : Int32))])
      refine own_step (fun _ k => XS.icmpNo X56.here hx rfl (hb hby at_40) rfl (by decide) k) ?_
      show own_Wp p e below _ T56 (mkF m 43 #[.val (.int p0), .val (.int p1), .val (.int (2 : Int32)), .val (.int (1 : Int32)), .val (.ref (w2_TCP Z)), .val (.ref (w3_IPV6 Z))] [])
      refine own_step (fun _ k => XS.iconst X56.here hx rfl (hb hby at_43) k) ?_
      show own_Wp p e below _ T56 (mkF m 44 #[.val (.int p0), .val (.int p1), .val (.int (2 : Int32)), .val (.int (1 : Int32)), .val (.ref (w2_TCP Z)), .val (.ref (w3_IPV6 Z))] [(.int (1 : Int32))])
      refine own_step (fun _ k => XS.goto X56.here hx rfl (pc0 := 44) (pc' := 48) rfl (hb hby at_44) (by decide) (by decide) k) ?_
      show own_Wp p e below _ T56 (mkF m 48 #[.val (.int p0), .val (.int p1), .val (.int (2 : Int32)), .val (.int (1 : Int32)), .val (.ref (w2_TCP Z)), .val (.ref (w3_IPV6 Z))] [(.int (1 : Int32))])
      exact own_retN X56 hx (t := .boolean) hret (by simp) hlk (hb hby at_48) (by decide) (by decide) ⟨rfl, N56⟩
    · skip
      rw [hm]
      show own_Wp p e below _ s₁ (mkF m 15 #[.val (.int p0), .val (.int p1), .val (.int (2 : Int32)), .unset, .unset, .unset] [(.int (2 : Int32))])
      refine own_step (fun _ k => XS.istoreN X0.here hx rfl (hb hby at_15) rfl (l' := #[.val (.int p0), .val (.int p1), .val (.int (2 : Int32)), .val (.int (2 : Int32)), .unset, .unset]) rfl k) ?_
      show own_Wp p e below _ s₁ (mkF m 16 #[.val (.int p0), .val (.int p1), .val (.int (2 : Int32)), .val (.int (2 : Int32)), .unset, .unset] [])
      refine own_step (fun _ k => XS.iloadN X0.here hx rfl (hb hby at_16) rfl k) ?_
      show own_Wp p e below _ s₁ (mkF m 17 #[.val (.int p0), .val (.int p1), .val (.int (2 : Int32)), .val (.int (2 : Int32)), .unset, .unset] [(.int (2 : Int32))])
      obtain ⟨_, T57, L57, X57, hQ57, st57⟩ := own_callS X0 hx hZ hown (hw _ (List.mem_of_getElem? (i := 1) rfl)) (hw _ (List.mem_of_getElem? (i := 2) rfl)) (hw _ (List.mem_of_getElem? (i := 3) rfl)) (hw _ (List.mem_of_getElem? (i := 4) rfl)) (by decide) (rm1_8 l Z a0 hw hA [] h0 n0 O0) (W := 0) (by decide) (by decide) [(.int (2 : Int32))] rfl (lenOf pd1 rfl) (Ls := #[.val (.int p0), .val (.int p1), .val (.int (2 : Int32)), .val (.int (2 : Int32)), .unset, .unset]) (by rw [hml]; rfl) (rest := []) (Nat.le_of_eq rfl) (hb hby at_17) e0 (by decide) (by decide)
      refine st57 _ ?_
      obtain ⟨rfl, N57q, e57⟩ := hQ57
      have N57 := Fr.app (Fr.nil n0) N57q
      show own_Wp p e below _ T57 (mkF m 20 #[.val (.int p0), .val (.int p1), .val (.int (2 : Int32)), .val (.int (2 : Int32)), .unset, .unset] [(.ref (w2_TCP Z))])
      refine own_step (fun _ k => XS.astore X57.here hx rfl (hb hby at_20) rfl rfl (l' := #[.val (.int p0), .val (.int p1), .val (.int (2 : Int32)), .val (.int (2 : Int32)), .val (.ref (w2_TCP Z)), .unset]) rfl k) ?_
      show own_Wp p e below _ T57 (mkF m 22 #[.val (.int p0), .val (.int p1), .val (.int (2 : Int32)), .val (.int (2 : Int32)), .val (.ref (w2_TCP Z)), .unset] [])
      refine own_step (fun _ k => XS.iloadN X57.here hx rfl (hb hby at_22) rfl k) ?_
      show own_Wp p e below _ T57 (mkF m 23 #[.val (.int p0), .val (.int p1), .val (.int (2 : Int32)), .val (.int (2 : Int32)), .val (.ref (w2_TCP Z)), .unset] [(.int (2 : Int32))])
      obtain ⟨_, T58, L58, X58, hQ58, st58⟩ := own_callS X57 hx hZ hown (hw _ (List.mem_of_getElem? (i := 1) rfl)) (hw _ (List.mem_of_getElem? (i := 2) rfl)) (hw _ (List.mem_of_getElem? (i := 3) rfl)) (hw _ (List.mem_of_getElem? (i := 4) rfl)) (by decide) (rm1_8 l Z a0 hw hA [] h0 n0 O0) (W := 0) (by decide) (by decide) [(.int (2 : Int32))] rfl (lenOf pd1 rfl) (Ls := #[.val (.int p0), .val (.int p1), .val (.int (2 : Int32)), .val (.int (2 : Int32)), .val (.ref (w2_TCP Z)), .unset]) (by rw [hml]; rfl) (rest := []) (Nat.le_of_eq rfl) (hb hby at_23) e57 (by decide) (by decide)
      refine st58 _ ?_
      obtain ⟨rfl, N58q, e58⟩ := hQ58
      have N58 := Fr.app N57 N58q
      show own_Wp p e below _ T58 (mkF m 26 #[.val (.int p0), .val (.int p1), .val (.int (2 : Int32)), .val (.int (2 : Int32)), .val (.ref (w2_TCP Z)), .unset] [(.ref (w2_TCP Z))])
      refine own_step (fun _ k => XS.astore X58.here hx rfl (hb hby at_26) rfl rfl (l' := #[.val (.int p0), .val (.int p1), .val (.int (2 : Int32)), .val (.int (2 : Int32)), .val (.ref (w2_TCP Z)), .val (.ref (w2_TCP Z))]) rfl k) ?_
      show own_Wp p e below _ T58 (mkF m 28 #[.val (.int p0), .val (.int p1), .val (.int (2 : Int32)), .val (.int (2 : Int32)), .val (.ref (w2_TCP Z)), .val (.ref (w2_TCP Z))] [])
      refine own_step (fun _ k => XS.aload X58.here hx rfl (hb hby at_28) rfl rfl k) ?_
      show own_Wp p e below _ T58 (mkF m 30 #[.val (.int p0), .val (.int p1), .val (.int (2 : Int32)), .val (.int (2 : Int32)), .val (.ref (w2_TCP Z)), .val (.ref (w2_TCP Z))] [(.ref (w2_TCP Z))])
      refine own_step (fun _ k => XS.aload X58.here hx rfl (hb hby at_30) rfl rfl k) ?_
      show own_Wp p e below _ T58 (mkF m 32 #[.val (.int p0), .val (.int p1), .val (.int (2 : Int32)), .val (.int (2 : Int32)), .val (.ref (w2_TCP Z)), .val (.ref (w2_TCP Z))] [(.ref (w2_TCP Z)), (.ref (w2_TCP Z))])
      obtain ⟨_, T59, L59, X59, hQ59, st59⟩ := own_callV X58 hx hZ hown (hw _ (List.mem_of_getElem? (i := 10) rfl)) (hw _ (List.mem_of_getElem? (i := 11) rfl)) (notFace_of_selects (args := #[]) (mvT hZ (hw _ (List.mem_of_getElem? (i := 13) rfl)))) (hw _ (List.mem_of_getElem? (i := 13) rfl)) (hw _ (List.mem_of_getElem? (i := 12) rfl)) (hw _ (List.mem_of_getElem? (i := 6) rfl)) (hw _ (List.mem_of_getElem? (i := 14) rfl)) (by decide) ((ex_w2_TCP hw hA).ext O0.2) (rm2_1 l Z a0 hw hA [] (w2_TCP Z) h0 n0 O0 (fl2 hw hA)) (W := 0) (by decide) (by decide) [(.ref (w2_TCP Z))] rfl (lenOf pd3 rfl) (Ls := #[.val (.int p0), .val (.int p1), .val (.int (2 : Int32)), .val (.int (2 : Int32)), .val (.ref (w2_TCP Z)), .val (.ref (w2_TCP Z))]) (by rw [hml]; rfl) (rest := []) (Nat.le_of_eq rfl) (hb hby at_32) e58 (by decide) (by decide)
      refine st59 _ ?_
      obtain ⟨rfl, N59q, e59⟩ := hQ59
      have N59 := Fr.app N58 N59q
      show own_Wp p e below _ T59 (mkF m 35 #[.val (.int p0), .val (.int p1), .val (.int (2 : Int32)), .val (.int (2 : Int32)), .val (.ref (w2_TCP Z)), .val (.ref (w2_TCP Z))] [(.int (1 : Int32))])
      refine own_step (fun _ k => XS.iloadN X59.here hx rfl (hb hby at_35) rfl k) ?_
      show own_Wp p e below _ T59 (mkF m 36 #[.val (.int p0), .val (.int p1), .val (.int (2 : Int32)), .val (.int (2 : Int32)), .val (.ref (w2_TCP Z)), .val (.ref (w2_TCP Z))] [(.int (2 : Int32)), (.int (1 : Int32))])
      refine own_step (fun _ k => XS.iloadN X59.here hx rfl (hb hby at_36) rfl k) ?_
      show own_Wp p e below _ T59 (mkF m 37 #[.val (.int p0), .val (.int p1), .val (.int (2 : Int32)), .val (.int (2 : Int32)), .val (.ref (w2_TCP Z)), .val (.ref (w2_TCP Z))] [(.int (2 : Int32)), (.int (2 : Int32)), (.int (1 : Int32))])
      obtain ⟨_, T60, L60, X60, hQ60, st60⟩ := own_callS X59 hx hZ hown (hw _ (List.mem_of_getElem? (i := 17) rfl)) (hw _ (List.mem_of_getElem? (i := 18) rfl)) (hw _ (List.mem_of_getElem? (i := 3) rfl)) (hw _ (List.mem_of_getElem? (i := 19) rfl)) (by decide) (rm3_51 l Z a0 hw hA [] h0 n0 O0) (W := 1) (by decide) (by decide) [(.int (2 : Int32)), (.int (2 : Int32))] rfl (lenOf pd4 rfl) (Ls := #[.val (.int p0), .val (.int p1), .val (.int (2 : Int32)), .val (.int (2 : Int32)), .val (.ref (w2_TCP Z)), .val (.ref (w2_TCP Z))]) (by rw [hml]; rfl) (rest := [(.int (1 : Int32))]) (Nat.le_of_eq rfl) (hb hby at_37) e59 (by decide) (by decide)
      refine st60 _ ?_
      obtain ⟨rfl, N60q, e60⟩ := hQ60
      have N60 := Fr.app N59 N60q
      show own_Wp p e below _ T60 (mkF m 40 #[.val (.int p0), .val (.int p1), .val (.int (2 : Int32)), .val (.int (2 : Int32)), .val (.ref (w2_TCP Z)), .val (.ref (w2_TCP Z))] [(.int (1 : Int32)), (.int (1 : Int32))])
      refine own_step (fun _ k => XS.icmpNo X60.here hx rfl (hb hby at_40) rfl (by decide) k) ?_
      show own_Wp p e below _ T60 (mkF m 43 #[.val (.int p0), .val (.int p1), .val (.int (2 : Int32)), .val (.int (2 : Int32)), .val (.ref (w2_TCP Z)), .val (.ref (w2_TCP Z))] [])
      refine own_step (fun _ k => XS.iconst X60.here hx rfl (hb hby at_43) k) ?_
      show own_Wp p e below _ T60 (mkF m 44 #[.val (.int p0), .val (.int p1), .val (.int (2 : Int32)), .val (.int (2 : Int32)), .val (.ref (w2_TCP Z)), .val (.ref (w2_TCP Z))] [(.int (1 : Int32))])
      refine own_step (fun _ k => XS.goto X60.here hx rfl (pc0 := 44) (pc' := 48) rfl (hb hby at_44) (by decide) (by decide) k) ?_
      show own_Wp p e below _ T60 (mkF m 48 #[.val (.int p0), .val (.int p1), .val (.int (2 : Int32)), .val (.int (2 : Int32)), .val (.ref (w2_TCP Z)), .val (.ref (w2_TCP Z))] [(.int (1 : Int32))])
      exact own_retN X60 hx (t := .boolean) hret (by simp) hlk (hb hby at_48) (by decide) (by decide) ⟨rfl, N60⟩
    · skip
      rw [hm]
      show own_Wp p e below _ s₁ (mkF m 15 #[.val (.int p0), .val (.int p1), .val (.int (2 : Int32)), .unset, .unset, .unset] [(.int (3 : Int32))])
      refine own_step (fun _ k => XS.istoreN X0.here hx rfl (hb hby at_15) rfl (l' := #[.val (.int p0), .val (.int p1), .val (.int (2 : Int32)), .val (.int (3 : Int32)), .unset, .unset]) rfl k) ?_
      show own_Wp p e below _ s₁ (mkF m 16 #[.val (.int p0), .val (.int p1), .val (.int (2 : Int32)), .val (.int (3 : Int32)), .unset, .unset] [])
      refine own_step (fun _ k => XS.iloadN X0.here hx rfl (hb hby at_16) rfl k) ?_
      show own_Wp p e below _ s₁ (mkF m 17 #[.val (.int p0), .val (.int p1), .val (.int (2 : Int32)), .val (.int (3 : Int32)), .unset, .unset] [(.int (2 : Int32))])
      obtain ⟨_, T61, L61, X61, hQ61, st61⟩ := own_callS X0 hx hZ hown (hw _ (List.mem_of_getElem? (i := 1) rfl)) (hw _ (List.mem_of_getElem? (i := 2) rfl)) (hw _ (List.mem_of_getElem? (i := 3) rfl)) (hw _ (List.mem_of_getElem? (i := 4) rfl)) (by decide) (rm1_8 l Z a0 hw hA [] h0 n0 O0) (W := 0) (by decide) (by decide) [(.int (2 : Int32))] rfl (lenOf pd1 rfl) (Ls := #[.val (.int p0), .val (.int p1), .val (.int (2 : Int32)), .val (.int (3 : Int32)), .unset, .unset]) (by rw [hml]; rfl) (rest := []) (Nat.le_of_eq rfl) (hb hby at_17) e0 (by decide) (by decide)
      refine st61 _ ?_
      obtain ⟨rfl, N61q, e61⟩ := hQ61
      have N61 := Fr.app (Fr.nil n0) N61q
      show own_Wp p e below _ T61 (mkF m 20 #[.val (.int p0), .val (.int p1), .val (.int (2 : Int32)), .val (.int (3 : Int32)), .unset, .unset] [(.ref (w2_TCP Z))])
      refine own_step (fun _ k => XS.astore X61.here hx rfl (hb hby at_20) rfl rfl (l' := #[.val (.int p0), .val (.int p1), .val (.int (2 : Int32)), .val (.int (3 : Int32)), .val (.ref (w2_TCP Z)), .unset]) rfl k) ?_
      show own_Wp p e below _ T61 (mkF m 22 #[.val (.int p0), .val (.int p1), .val (.int (2 : Int32)), .val (.int (3 : Int32)), .val (.ref (w2_TCP Z)), .unset] [])
      refine own_step (fun _ k => XS.iloadN X61.here hx rfl (hb hby at_22) rfl k) ?_
      show own_Wp p e below _ T61 (mkF m 23 #[.val (.int p0), .val (.int p1), .val (.int (2 : Int32)), .val (.int (3 : Int32)), .val (.ref (w2_TCP Z)), .unset] [(.int (3 : Int32))])
      obtain ⟨_, T62, L62, X62, hQ62, st62⟩ := own_callS X61 hx hZ hown (hw _ (List.mem_of_getElem? (i := 1) rfl)) (hw _ (List.mem_of_getElem? (i := 2) rfl)) (hw _ (List.mem_of_getElem? (i := 3) rfl)) (hw _ (List.mem_of_getElem? (i := 4) rfl)) (by decide) (rm1_13 l Z a0 hw hA [] h0 n0 O0) (W := 0) (by decide) (by decide) [(.int (3 : Int32))] rfl (lenOf pd1 rfl) (Ls := #[.val (.int p0), .val (.int p1), .val (.int (2 : Int32)), .val (.int (3 : Int32)), .val (.ref (w2_TCP Z)), .unset]) (by rw [hml]; rfl) (rest := []) (Nat.le_of_eq rfl) (hb hby at_23) e61 (by decide) (by decide)
      refine st62 _ ?_
      obtain ⟨rfl, N62q, e62⟩ := hQ62
      have N62 := Fr.app N61 N62q
      show own_Wp p e below _ T62 (mkF m 26 #[.val (.int p0), .val (.int p1), .val (.int (2 : Int32)), .val (.int (3 : Int32)), .val (.ref (w2_TCP Z)), .unset] [(.ref (w1_TCP6 Z))])
      refine own_step (fun _ k => XS.astore X62.here hx rfl (hb hby at_26) rfl rfl (l' := #[.val (.int p0), .val (.int p1), .val (.int (2 : Int32)), .val (.int (3 : Int32)), .val (.ref (w2_TCP Z)), .val (.ref (w1_TCP6 Z))]) rfl k) ?_
      show own_Wp p e below _ T62 (mkF m 28 #[.val (.int p0), .val (.int p1), .val (.int (2 : Int32)), .val (.int (3 : Int32)), .val (.ref (w2_TCP Z)), .val (.ref (w1_TCP6 Z))] [])
      refine own_step (fun _ k => XS.aload X62.here hx rfl (hb hby at_28) rfl rfl k) ?_
      show own_Wp p e below _ T62 (mkF m 30 #[.val (.int p0), .val (.int p1), .val (.int (2 : Int32)), .val (.int (3 : Int32)), .val (.ref (w2_TCP Z)), .val (.ref (w1_TCP6 Z))] [(.ref (w2_TCP Z))])
      refine own_step (fun _ k => XS.aload X62.here hx rfl (hb hby at_30) rfl rfl k) ?_
      show own_Wp p e below _ T62 (mkF m 32 #[.val (.int p0), .val (.int p1), .val (.int (2 : Int32)), .val (.int (3 : Int32)), .val (.ref (w2_TCP Z)), .val (.ref (w1_TCP6 Z))] [(.ref (w1_TCP6 Z)), (.ref (w2_TCP Z))])
      obtain ⟨_, T63, L63, X63, hQ63, st63⟩ := own_callV X62 hx hZ hown (hw _ (List.mem_of_getElem? (i := 10) rfl)) (hw _ (List.mem_of_getElem? (i := 11) rfl)) (notFace_of_selects (args := #[]) (mvT hZ (hw _ (List.mem_of_getElem? (i := 13) rfl)))) (hw _ (List.mem_of_getElem? (i := 13) rfl)) (hw _ (List.mem_of_getElem? (i := 12) rfl)) (hw _ (List.mem_of_getElem? (i := 6) rfl)) (hw _ (List.mem_of_getElem? (i := 14) rfl)) (by decide) ((ex_w2_TCP hw hA).ext O0.2) (rm2_4 l Z a0 hw hA [] (w2_TCP Z) (w1_TCP6 Z) h0 n0 O0 (fl2 hw hA) (fl1 hw hA)) (W := 0) (by decide) (by decide) [(.ref (w1_TCP6 Z))] rfl (lenOf pd3 rfl) (Ls := #[.val (.int p0), .val (.int p1), .val (.int (2 : Int32)), .val (.int (3 : Int32)), .val (.ref (w2_TCP Z)), .val (.ref (w1_TCP6 Z))]) (by rw [hml]; rfl) (rest := []) (Nat.le_of_eq rfl) (hb hby at_32) e62 (by decide) (by decide)
      refine st63 _ ?_
      obtain ⟨rfl, N63q, e63⟩ := hQ63
      have N63 := Fr.app N62 N63q
      show own_Wp p e below _ T63 (mkF m 35 #[.val (.int p0), .val (.int p1), .val (.int (2 : Int32)), .val (.int (3 : Int32)), .val (.ref (w2_TCP Z)), .val (.ref (w1_TCP6 Z))] [(.int (0 : Int32))])
      refine own_step (fun _ k => XS.iloadN X63.here hx rfl (hb hby at_35) rfl k) ?_
      show own_Wp p e below _ T63 (mkF m 36 #[.val (.int p0), .val (.int p1), .val (.int (2 : Int32)), .val (.int (3 : Int32)), .val (.ref (w2_TCP Z)), .val (.ref (w1_TCP6 Z))] [(.int (2 : Int32)), (.int (0 : Int32))])
      refine own_step (fun _ k => XS.iloadN X63.here hx rfl (hb hby at_36) rfl k) ?_
      show own_Wp p e below _ T63 (mkF m 37 #[.val (.int p0), .val (.int p1), .val (.int (2 : Int32)), .val (.int (3 : Int32)), .val (.ref (w2_TCP Z)), .val (.ref (w1_TCP6 Z))] [(.int (3 : Int32)), (.int (2 : Int32)), (.int (0 : Int32))])
      obtain ⟨_, T64, L64, X64, hQ64, st64⟩ := own_callS X63 hx hZ hown (hw _ (List.mem_of_getElem? (i := 17) rfl)) (hw _ (List.mem_of_getElem? (i := 18) rfl)) (hw _ (List.mem_of_getElem? (i := 3) rfl)) (hw _ (List.mem_of_getElem? (i := 19) rfl)) (by decide) (rm3_54 l Z a0 hw hA [] h0 n0 O0) (W := 1) (by decide) (by decide) [(.int (2 : Int32)), (.int (3 : Int32))] rfl (lenOf pd4 rfl) (Ls := #[.val (.int p0), .val (.int p1), .val (.int (2 : Int32)), .val (.int (3 : Int32)), .val (.ref (w2_TCP Z)), .val (.ref (w1_TCP6 Z))]) (by rw [hml]; rfl) (rest := [(.int (0 : Int32))]) (Nat.le_of_eq rfl) (hb hby at_37) e63 (by decide) (by decide)
      refine st64 _ ?_
      obtain ⟨rfl, N64q, e64⟩ := hQ64
      have N64 := Fr.app N63 N64q
      show own_Wp p e below _ T64 (mkF m 40 #[.val (.int p0), .val (.int p1), .val (.int (2 : Int32)), .val (.int (3 : Int32)), .val (.ref (w2_TCP Z)), .val (.ref (w1_TCP6 Z))] [(.int (0 : Int32)), (.int (0 : Int32))])
      refine own_step (fun _ k => XS.icmpNo X64.here hx rfl (hb hby at_40) rfl (by decide) k) ?_
      show own_Wp p e below _ T64 (mkF m 43 #[.val (.int p0), .val (.int p1), .val (.int (2 : Int32)), .val (.int (3 : Int32)), .val (.ref (w2_TCP Z)), .val (.ref (w1_TCP6 Z))] [])
      refine own_step (fun _ k => XS.iconst X64.here hx rfl (hb hby at_43) k) ?_
      show own_Wp p e below _ T64 (mkF m 44 #[.val (.int p0), .val (.int p1), .val (.int (2 : Int32)), .val (.int (3 : Int32)), .val (.ref (w2_TCP Z)), .val (.ref (w1_TCP6 Z))] [(.int (1 : Int32))])
      refine own_step (fun _ k => XS.goto X64.here hx rfl (pc0 := 44) (pc' := 48) rfl (hb hby at_44) (by decide) (by decide) k) ?_
      show own_Wp p e below _ T64 (mkF m 48 #[.val (.int p0), .val (.int p1), .val (.int (2 : Int32)), .val (.int (3 : Int32)), .val (.ref (w2_TCP Z)), .val (.ref (w1_TCP6 Z))] [(.int (1 : Int32))])
      exact own_retN X64 hx (t := .boolean) hret (by simp) hlk (hb hby at_48) (by decide) (by decide) ⟨rfl, N64⟩
    · skip
      rw [hm]
      show own_Wp p e below _ s₁ (mkF m 15 #[.val (.int p0), .val (.int p1), .val (.int (2 : Int32)), .unset, .unset, .unset] [(.int (4 : Int32))])
      refine own_step (fun _ k => XS.istoreN X0.here hx rfl (hb hby at_15) rfl (l' := #[.val (.int p0), .val (.int p1), .val (.int (2 : Int32)), .val (.int (4 : Int32)), .unset, .unset]) rfl k) ?_
      show own_Wp p e below _ s₁ (mkF m 16 #[.val (.int p0), .val (.int p1), .val (.int (2 : Int32)), .val (.int (4 : Int32)), .unset, .unset] [])
      refine own_step (fun _ k => XS.iloadN X0.here hx rfl (hb hby at_16) rfl k) ?_
      show own_Wp p e below _ s₁ (mkF m 17 #[.val (.int p0), .val (.int p1), .val (.int (2 : Int32)), .val (.int (4 : Int32)), .unset, .unset] [(.int (2 : Int32))])
      obtain ⟨_, T65, L65, X65, hQ65, st65⟩ := own_callS X0 hx hZ hown (hw _ (List.mem_of_getElem? (i := 1) rfl)) (hw _ (List.mem_of_getElem? (i := 2) rfl)) (hw _ (List.mem_of_getElem? (i := 3) rfl)) (hw _ (List.mem_of_getElem? (i := 4) rfl)) (by decide) (rm1_8 l Z a0 hw hA [] h0 n0 O0) (W := 0) (by decide) (by decide) [(.int (2 : Int32))] rfl (lenOf pd1 rfl) (Ls := #[.val (.int p0), .val (.int p1), .val (.int (2 : Int32)), .val (.int (4 : Int32)), .unset, .unset]) (by rw [hml]; rfl) (rest := []) (Nat.le_of_eq rfl) (hb hby at_17) e0 (by decide) (by decide)
      refine st65 _ ?_
      obtain ⟨rfl, N65q, e65⟩ := hQ65
      have N65 := Fr.app (Fr.nil n0) N65q
      show own_Wp p e below _ T65 (mkF m 20 #[.val (.int p0), .val (.int p1), .val (.int (2 : Int32)), .val (.int (4 : Int32)), .unset, .unset] [(.ref (w2_TCP Z))])
      refine own_step (fun _ k => XS.astore X65.here hx rfl (hb hby at_20) rfl rfl (l' := #[.val (.int p0), .val (.int p1), .val (.int (2 : Int32)), .val (.int (4 : Int32)), .val (.ref (w2_TCP Z)), .unset]) rfl k) ?_
      show own_Wp p e below _ T65 (mkF m 22 #[.val (.int p0), .val (.int p1), .val (.int (2 : Int32)), .val (.int (4 : Int32)), .val (.ref (w2_TCP Z)), .unset] [])
      refine own_step (fun _ k => XS.iloadN X65.here hx rfl (hb hby at_22) rfl k) ?_
      show own_Wp p e below _ T65 (mkF m 23 #[.val (.int p0), .val (.int p1), .val (.int (2 : Int32)), .val (.int (4 : Int32)), .val (.ref (w2_TCP Z)), .unset] [(.int (4 : Int32))])
      obtain ⟨_, T66, L66, X66, hQ66, st66⟩ := own_callS X65 hx hZ hown (hw _ (List.mem_of_getElem? (i := 1) rfl)) (hw _ (List.mem_of_getElem? (i := 2) rfl)) (hw _ (List.mem_of_getElem? (i := 3) rfl)) (hw _ (List.mem_of_getElem? (i := 4) rfl)) (by decide) (rm1_17 l Z a0 hw hA [] h0 n0 O0) (W := 0) (by decide) (by decide) [(.int (4 : Int32))] rfl (lenOf pd1 rfl) (Ls := #[.val (.int p0), .val (.int p1), .val (.int (2 : Int32)), .val (.int (4 : Int32)), .val (.ref (w2_TCP Z)), .unset]) (by rw [hml]; rfl) (rest := []) (Nat.le_of_eq rfl) (hb hby at_23) e65 (by decide) (by decide)
      refine st66 _ ?_
      obtain ⟨rfl, N66q, e66⟩ := hQ66
      have N66 := Fr.app N65 N66q
      show own_Wp p e below _ T66 (mkF m 26 #[.val (.int p0), .val (.int p1), .val (.int (2 : Int32)), .val (.int (4 : Int32)), .val (.ref (w2_TCP Z)), .unset] [(.ref (w5_UDP Z))])
      refine own_step (fun _ k => XS.astore X66.here hx rfl (hb hby at_26) rfl rfl (l' := #[.val (.int p0), .val (.int p1), .val (.int (2 : Int32)), .val (.int (4 : Int32)), .val (.ref (w2_TCP Z)), .val (.ref (w5_UDP Z))]) rfl k) ?_
      show own_Wp p e below _ T66 (mkF m 28 #[.val (.int p0), .val (.int p1), .val (.int (2 : Int32)), .val (.int (4 : Int32)), .val (.ref (w2_TCP Z)), .val (.ref (w5_UDP Z))] [])
      refine own_step (fun _ k => XS.aload X66.here hx rfl (hb hby at_28) rfl rfl k) ?_
      show own_Wp p e below _ T66 (mkF m 30 #[.val (.int p0), .val (.int p1), .val (.int (2 : Int32)), .val (.int (4 : Int32)), .val (.ref (w2_TCP Z)), .val (.ref (w5_UDP Z))] [(.ref (w2_TCP Z))])
      refine own_step (fun _ k => XS.aload X66.here hx rfl (hb hby at_30) rfl rfl k) ?_
      show own_Wp p e below _ T66 (mkF m 32 #[.val (.int p0), .val (.int p1), .val (.int (2 : Int32)), .val (.int (4 : Int32)), .val (.ref (w2_TCP Z)), .val (.ref (w5_UDP Z))] [(.ref (w5_UDP Z)), (.ref (w2_TCP Z))])
      obtain ⟨_, T67, L67, X67, hQ67, st67⟩ := own_callV X66 hx hZ hown (hw _ (List.mem_of_getElem? (i := 10) rfl)) (hw _ (List.mem_of_getElem? (i := 11) rfl)) (notFace_of_selects (args := #[]) (mvT hZ (hw _ (List.mem_of_getElem? (i := 13) rfl)))) (hw _ (List.mem_of_getElem? (i := 13) rfl)) (hw _ (List.mem_of_getElem? (i := 12) rfl)) (hw _ (List.mem_of_getElem? (i := 6) rfl)) (hw _ (List.mem_of_getElem? (i := 14) rfl)) (by decide) ((ex_w2_TCP hw hA).ext O0.2) (rm2_55 l Z a0 hw hA [] (w2_TCP Z) (w5_UDP Z) h0 n0 O0 (fl2 hw hA) (fl5 hw hA) (Fld.ne (fl14 hw hA) (fl6 hw hA) (by decide)) (fl16 hw hA) (fl8 hw hA)) (W := 0) (by decide) (by decide) [(.ref (w5_UDP Z))] rfl (lenOf pd3 rfl) (Ls := #[.val (.int p0), .val (.int p1), .val (.int (2 : Int32)), .val (.int (4 : Int32)), .val (.ref (w2_TCP Z)), .val (.ref (w5_UDP Z))]) (by rw [hml]; rfl) (rest := []) (Nat.le_of_eq rfl) (hb hby at_32) e66 (by decide) (by decide)
      refine st67 _ ?_
      obtain ⟨rfl, N67q, e67⟩ := hQ67
      have N67 := Fr.app N66 N67q
      show own_Wp p e below _ T67 (mkF m 35 #[.val (.int p0), .val (.int p1), .val (.int (2 : Int32)), .val (.int (4 : Int32)), .val (.ref (w2_TCP Z)), .val (.ref (w5_UDP Z))] [(.int (0 : Int32))])
      refine own_step (fun _ k => XS.iloadN X67.here hx rfl (hb hby at_35) rfl k) ?_
      show own_Wp p e below _ T67 (mkF m 36 #[.val (.int p0), .val (.int p1), .val (.int (2 : Int32)), .val (.int (4 : Int32)), .val (.ref (w2_TCP Z)), .val (.ref (w5_UDP Z))] [(.int (2 : Int32)), (.int (0 : Int32))])
      refine own_step (fun _ k => XS.iloadN X67.here hx rfl (hb hby at_36) rfl k) ?_
      show own_Wp p e below _ T67 (mkF m 37 #[.val (.int p0), .val (.int p1), .val (.int (2 : Int32)), .val (.int (4 : Int32)), .val (.ref (w2_TCP Z)), .val (.ref (w5_UDP Z))] [(.int (4 : Int32)), (.int (2 : Int32)), (.int (0 : Int32))])
      obtain ⟨_, T68, L68, X68, hQ68, st68⟩ := own_callS X67 hx hZ hown (hw _ (List.mem_of_getElem? (i := 17) rfl)) (hw _ (List.mem_of_getElem? (i := 18) rfl)) (hw _ (List.mem_of_getElem? (i := 3) rfl)) (hw _ (List.mem_of_getElem? (i := 19) rfl)) (by decide) (rm3_58 l Z a0 hw hA [] h0 n0 O0) (W := 1) (by decide) (by decide) [(.int (2 : Int32)), (.int (4 : Int32))] rfl (lenOf pd4 rfl) (Ls := #[.val (.int p0), .val (.int p1), .val (.int (2 : Int32)), .val (.int (4 : Int32)), .val (.ref (w2_TCP Z)), .val (.ref (w5_UDP Z))]) (by rw [hml]; rfl) (rest := [(.int (0 : Int32))]) (Nat.le_of_eq rfl) (hb hby at_37) e67 (by decide) (by decide)
      refine st68 _ ?_
      obtain ⟨rfl, N68q, e68⟩ := hQ68
      have N68 := Fr.app N67 N68q
      show own_Wp p e below _ T68 (mkF m 40 #[.val (.int p0), .val (.int p1), .val (.int (2 : Int32)), .val (.int (4 : Int32)), .val (.ref (w2_TCP Z)), .val (.ref (w5_UDP Z))] [(.int (0 : Int32)), (.int (0 : Int32))])
      refine own_step (fun _ k => XS.icmpNo X68.here hx rfl (hb hby at_40) rfl (by decide) k) ?_
      show own_Wp p e below _ T68 (mkF m 43 #[.val (.int p0), .val (.int p1), .val (.int (2 : Int32)), .val (.int (4 : Int32)), .val (.ref (w2_TCP Z)), .val (.ref (w5_UDP Z))] [])
      refine own_step (fun _ k => XS.iconst X68.here hx rfl (hb hby at_43) k) ?_
      show own_Wp p e below _ T68 (mkF m 44 #[.val (.int p0), .val (.int p1), .val (.int (2 : Int32)), .val (.int (4 : Int32)), .val (.ref (w2_TCP Z)), .val (.ref (w5_UDP Z))] [(.int (1 : Int32))])
      refine own_step (fun _ k => XS.goto X68.here hx rfl (pc0 := 44) (pc' := 48) rfl (hb hby at_44) (by decide) (by decide) k) ?_
      show own_Wp p e below _ T68 (mkF m 48 #[.val (.int p0), .val (.int p1), .val (.int (2 : Int32)), .val (.int (4 : Int32)), .val (.ref (w2_TCP Z)), .val (.ref (w5_UDP Z))] [(.int (1 : Int32))])
      exact own_retN X68 hx (t := .boolean) hret (by simp) hlk (hb hby at_48) (by decide) (by decide) ⟨rfl, N68⟩
    · skip
      rw [hm]
      show own_Wp p e below _ s₁ (mkF m 15 #[.val (.int p0), .val (.int p1), .val (.int (2 : Int32)), .unset, .unset, .unset] [(.int (5 : Int32))])
      refine own_step (fun _ k => XS.istoreN X0.here hx rfl (hb hby at_15) rfl (l' := #[.val (.int p0), .val (.int p1), .val (.int (2 : Int32)), .val (.int (5 : Int32)), .unset, .unset]) rfl k) ?_
      show own_Wp p e below _ s₁ (mkF m 16 #[.val (.int p0), .val (.int p1), .val (.int (2 : Int32)), .val (.int (5 : Int32)), .unset, .unset] [])
      refine own_step (fun _ k => XS.iloadN X0.here hx rfl (hb hby at_16) rfl k) ?_
      show own_Wp p e below _ s₁ (mkF m 17 #[.val (.int p0), .val (.int p1), .val (.int (2 : Int32)), .val (.int (5 : Int32)), .unset, .unset] [(.int (2 : Int32))])
      obtain ⟨_, T69, L69, X69, hQ69, st69⟩ := own_callS X0 hx hZ hown (hw _ (List.mem_of_getElem? (i := 1) rfl)) (hw _ (List.mem_of_getElem? (i := 2) rfl)) (hw _ (List.mem_of_getElem? (i := 3) rfl)) (hw _ (List.mem_of_getElem? (i := 4) rfl)) (by decide) (rm1_8 l Z a0 hw hA [] h0 n0 O0) (W := 0) (by decide) (by decide) [(.int (2 : Int32))] rfl (lenOf pd1 rfl) (Ls := #[.val (.int p0), .val (.int p1), .val (.int (2 : Int32)), .val (.int (5 : Int32)), .unset, .unset]) (by rw [hml]; rfl) (rest := []) (Nat.le_of_eq rfl) (hb hby at_17) e0 (by decide) (by decide)
      refine st69 _ ?_
      obtain ⟨rfl, N69q, e69⟩ := hQ69
      have N69 := Fr.app (Fr.nil n0) N69q
      show own_Wp p e below _ T69 (mkF m 20 #[.val (.int p0), .val (.int p1), .val (.int (2 : Int32)), .val (.int (5 : Int32)), .unset, .unset] [(.ref (w2_TCP Z))])
      refine own_step (fun _ k => XS.astore X69.here hx rfl (hb hby at_20) rfl rfl (l' := #[.val (.int p0), .val (.int p1), .val (.int (2 : Int32)), .val (.int (5 : Int32)), .val (.ref (w2_TCP Z)), .unset]) rfl k) ?_
      show own_Wp p e below _ T69 (mkF m 22 #[.val (.int p0), .val (.int p1), .val (.int (2 : Int32)), .val (.int (5 : Int32)), .val (.ref (w2_TCP Z)), .unset] [])
      refine own_step (fun _ k => XS.iloadN X69.here hx rfl (hb hby at_22) rfl k) ?_
      show own_Wp p e below _ T69 (mkF m 23 #[.val (.int p0), .val (.int p1), .val (.int (2 : Int32)), .val (.int (5 : Int32)), .val (.ref (w2_TCP Z)), .unset] [(.int (5 : Int32))])
      obtain ⟨_, T70, L70, X70, hQ70, st70⟩ := own_callS X69 hx hZ hown (hw _ (List.mem_of_getElem? (i := 1) rfl)) (hw _ (List.mem_of_getElem? (i := 2) rfl)) (hw _ (List.mem_of_getElem? (i := 3) rfl)) (hw _ (List.mem_of_getElem? (i := 4) rfl)) (by decide) (rm1_21 l Z a0 hw hA [] h0 n0 O0) (W := 0) (by decide) (by decide) [(.int (5 : Int32))] rfl (lenOf pd1 rfl) (Ls := #[.val (.int p0), .val (.int p1), .val (.int (2 : Int32)), .val (.int (5 : Int32)), .val (.ref (w2_TCP Z)), .unset]) (by rw [hml]; rfl) (rest := []) (Nat.le_of_eq rfl) (hb hby at_23) e69 (by decide) (by decide)
      refine st70 _ ?_
      obtain ⟨rfl, N70q, e70⟩ := hQ70
      have N70 := Fr.app N69 N70q
      show own_Wp p e below _ T70 (mkF m 26 #[.val (.int p0), .val (.int p1), .val (.int (2 : Int32)), .val (.int (5 : Int32)), .val (.ref (w2_TCP Z)), .unset] [(.ref (w4_UDP6 Z))])
      refine own_step (fun _ k => XS.astore X70.here hx rfl (hb hby at_26) rfl rfl (l' := #[.val (.int p0), .val (.int p1), .val (.int (2 : Int32)), .val (.int (5 : Int32)), .val (.ref (w2_TCP Z)), .val (.ref (w4_UDP6 Z))]) rfl k) ?_
      show own_Wp p e below _ T70 (mkF m 28 #[.val (.int p0), .val (.int p1), .val (.int (2 : Int32)), .val (.int (5 : Int32)), .val (.ref (w2_TCP Z)), .val (.ref (w4_UDP6 Z))] [])
      refine own_step (fun _ k => XS.aload X70.here hx rfl (hb hby at_28) rfl rfl k) ?_
      show own_Wp p e below _ T70 (mkF m 30 #[.val (.int p0), .val (.int p1), .val (.int (2 : Int32)), .val (.int (5 : Int32)), .val (.ref (w2_TCP Z)), .val (.ref (w4_UDP6 Z))] [(.ref (w2_TCP Z))])
      refine own_step (fun _ k => XS.aload X70.here hx rfl (hb hby at_30) rfl rfl k) ?_
      show own_Wp p e below _ T70 (mkF m 32 #[.val (.int p0), .val (.int p1), .val (.int (2 : Int32)), .val (.int (5 : Int32)), .val (.ref (w2_TCP Z)), .val (.ref (w4_UDP6 Z))] [(.ref (w4_UDP6 Z)), (.ref (w2_TCP Z))])
      obtain ⟨_, T71, L71, X71, hQ71, st71⟩ := own_callV X70 hx hZ hown (hw _ (List.mem_of_getElem? (i := 10) rfl)) (hw _ (List.mem_of_getElem? (i := 11) rfl)) (notFace_of_selects (args := #[]) (mvT hZ (hw _ (List.mem_of_getElem? (i := 13) rfl)))) (hw _ (List.mem_of_getElem? (i := 13) rfl)) (hw _ (List.mem_of_getElem? (i := 12) rfl)) (hw _ (List.mem_of_getElem? (i := 6) rfl)) (hw _ (List.mem_of_getElem? (i := 14) rfl)) (by decide) ((ex_w2_TCP hw hA).ext O0.2) (rm2_4 l Z a0 hw hA [] (w2_TCP Z) (w4_UDP6 Z) h0 n0 O0 (fl2 hw hA) (fl4 hw hA)) (W := 0) (by decide) (by decide) [(.ref (w4_UDP6 Z))] rfl (lenOf pd3 rfl) (Ls := #[.val (.int p0), .val (.int p1), .val (.int (2 : Int32)), .val (.int (5 : Int32)), .val (.ref (w2_TCP Z)), .val (.ref (w4_UDP6 Z))]) (by rw [hml]; rfl) (rest := []) (Nat.le_of_eq rfl) (hb hby at_32) e70 (by decide) (by decide)
      refine st71 _ ?_
      obtain ⟨rfl, N71q, e71⟩ := hQ71
      have N71 := Fr.app N70 N71q
      show own_Wp p e below _ T71 (mkF m 35 #[.val (.int p0), .val (.int p1), .val (.int (2 : Int32)), .val (.int (5 : Int32)), .val (.ref (w2_TCP Z)), .val (.ref (w4_UDP6 Z))] [(.int (0 : Int32))])
      refine own_step (fun _ k => XS.iloadN X71.here hx rfl (hb hby at_35) rfl k) ?_
      show own_Wp p e below _ T71 (mkF m 36 #[.val (.int p0), .val (.int p1), .val (.int (2 : Int32)), .val (.int (5 : Int32)), .val (.ref (w2_TCP Z)), .val (.ref (w4_UDP6 Z))] [(.int (2 : Int32)), (.int (0 : Int32))])
      refine own_step (fun _ k => XS.iloadN X71.here hx rfl (hb hby at_36) rfl k) ?_
      show own_Wp p e below _ T71 (mkF m 37 #[.val (.int p0), .val (.int p1), .val (.int (2 : Int32)), .val (.int (5 : Int32)), .val (.ref (w2_TCP Z)), .val (.ref (w4_UDP6 Z))] [(.int (5 : Int32)), (.int (2 : Int32)), (.int (0 : Int32))])
      obtain ⟨_, T72, L72, X72, hQ72, st72⟩ := own_callS X71 hx hZ hown (hw _ (List.mem_of_getElem? (i := 17) rfl)) (hw _ (List.mem_of_getElem? (i := 18) rfl)) (hw _ (List.mem_of_getElem? (i := 3) rfl)) (hw _ (List.mem_of_getElem? (i := 19) rfl)) (by decide) (rm3_61 l Z a0 hw hA [] h0 n0 O0) (W := 1) (by decide) (by decide) [(.int (2 : Int32)), (.int (5 : Int32))] rfl (lenOf pd4 rfl) (Ls := #[.val (.int p0), .val (.int p1), .val (.int (2 : Int32)), .val (.int (5 : Int32)), .val (.ref (w2_TCP Z)), .val (.ref (w4_UDP6 Z))]) (by rw [hml]; rfl) (rest := [(.int (0 : Int32))]) (Nat.le_of_eq rfl) (hb hby at_37) e71 (by decide) (by decide)
      refine st72 _ ?_
      obtain ⟨rfl, N72q, e72⟩ := hQ72
      have N72 := Fr.app N71 N72q
      show own_Wp p e below _ T72 (mkF m 40 #[.val (.int p0), .val (.int p1), .val (.int (2 : Int32)), .val (.int (5 : Int32)), .val (.ref (w2_TCP Z)), .val (.ref (w4_UDP6 Z))] [(.int (0 : Int32)), (.int (0 : Int32))])
      refine own_step (fun _ k => XS.icmpNo X72.here hx rfl (hb hby at_40) rfl (by decide) k) ?_
      show own_Wp p e below _ T72 (mkF m 43 #[.val (.int p0), .val (.int p1), .val (.int (2 : Int32)), .val (.int (5 : Int32)), .val (.ref (w2_TCP Z)), .val (.ref (w4_UDP6 Z))] [])
      refine own_step (fun _ k => XS.iconst X72.here hx rfl (hb hby at_43) k) ?_
      show own_Wp p e below _ T72 (mkF m 44 #[.val (.int p0), .val (.int p1), .val (.int (2 : Int32)), .val (.int (5 : Int32)), .val (.ref (w2_TCP Z)), .val (.ref (w4_UDP6 Z))] [(.int (1 : Int32))])
      refine own_step (fun _ k => XS.goto X72.here hx rfl (pc0 := 44) (pc' := 48) rfl (hb hby at_44) (by decide) (by decide) k) ?_
      show own_Wp p e below _ T72 (mkF m 48 #[.val (.int p0), .val (.int p1), .val (.int (2 : Int32)), .val (.int (5 : Int32)), .val (.ref (w2_TCP Z)), .val (.ref (w4_UDP6 Z))] [(.int (1 : Int32))])
      exact own_retN X72 hx (t := .boolean) hret (by simp) hlk (hb hby at_48) (by decide) (by decide) ⟨rfl, N72⟩
  · skip
    rw [hm]
    show own_Wp p e below _ s₁ (mkF m 7 #[.val (.int p0), .val (.int p1), .unset, .unset, .unset, .unset] [(.int (3 : Int32))])
    refine own_step (fun _ k => XS.istoreN X0.here hx rfl (hb hby at_7) rfl (l' := #[.val (.int p0), .val (.int p1), .val (.int (3 : Int32)), .unset, .unset, .unset]) rfl k) ?_
    show own_Wp p e below _ s₁ (mkF m 8 #[.val (.int p0), .val (.int p1), .val (.int (3 : Int32)), .unset, .unset, .unset] [])
    refine own_step (fun _ k => XS.iloadN X0.here hx rfl (hb hby at_8) rfl k) ?_
    show own_Wp p e below _ s₁ (mkF m 9 #[.val (.int p0), .val (.int p1), .val (.int (3 : Int32)), .unset, .unset, .unset] [(.int p1)])
    refine own_step (X0.ldcInt hx hown (mvT hZ (hw _ (List.mem_of_getElem? (i := 0) rfl))) (g := (mkF m 9 #[.val (.int p0), .val (.int p1), .val (.int (3 : Int32)), .unset, .unset, .unset] [(.int p1)])) rfl (hb hby at_9)) ?_
    show own_Wp p e below _ s₁ (mkF m 11 #[.val (.int p0), .val (.int p1), .val (.int (3 : Int32)), .unset, .unset, .unset] [(.int (2147483647 : Int32)), (.int p1)])
    refine own_step (fun _ k => XS.iand X0.here hx rfl (hb hby at_11) rfl k) ?_
    show own_Wp p e below _ s₁ (mkF m 12 #[.val (.int p0), .val (.int p1), .val (.int (3 : Int32)), .unset, .unset, .unset] [(.int (p1 &&& (2147483647 : Int32)))])
    refine own_step (fun _ k => XS.bipush X0.here hx rfl (hb hby at_12) k) ?_
    show own_Wp p e below _ s₁ (mkF m 14 #[.val (.int p0), .val (.int p1), .val (.int (3 : Int32)), .unset, .unset, .unset] [(.int (6 : Int32)), (.int (p1 &&& (2147483647 : Int32)))])
    refine own_step (fun _ k => iremM (g := (mkF m 14 #[.val (.int p0), .val (.int p1), .val (.int (3 : Int32)), .unset, .unset, .unset] [(.int (6 : Int32)), (.int (p1 &&& (2147483647 : Int32)))])) X0 hx rfl (hb hby at_14) rfl (by decide) k) ?_
    show own_Wp p e below _ s₁ (mkF m 15 #[.val (.int p0), .val (.int p1), .val (.int (3 : Int32)), .unset, .unset, .unset] [(.int ((p1 &&& (2147483647 : Int32)) % (6 : Int32)))])
    rcases own_mod6 p1 with hm | hm | hm | hm | hm | hm
    · skip
      rw [hm]
      show own_Wp p e below _ s₁ (mkF m 15 #[.val (.int p0), .val (.int p1), .val (.int (3 : Int32)), .unset, .unset, .unset] [(.int (0 : Int32))])
      refine own_step (fun _ k => XS.istoreN X0.here hx rfl (hb hby at_15) rfl (l' := #[.val (.int p0), .val (.int p1), .val (.int (3 : Int32)), .val (.int (0 : Int32)), .unset, .unset]) rfl k) ?_
      show own_Wp p e below _ s₁ (mkF m 16 #[.val (.int p0), .val (.int p1), .val (.int (3 : Int32)), .val (.int (0 : Int32)), .unset, .unset] [])
      refine own_step (fun _ k => XS.iloadN X0.here hx rfl (hb hby at_16) rfl k) ?_
      show own_Wp p e below _ s₁ (mkF m 17 #[.val (.int p0), .val (.int p1), .val (.int (3 : Int32)), .val (.int (0 : Int32)), .unset, .unset] [(.int (3 : Int32))])
      obtain ⟨_, T73, L73, X73, hQ73, st73⟩ := own_callS X0 hx hZ hown (hw _ (List.mem_of_getElem? (i := 1) rfl)) (hw _ (List.mem_of_getElem? (i := 2) rfl)) (hw _ (List.mem_of_getElem? (i := 3) rfl)) (hw _ (List.mem_of_getElem? (i := 4) rfl)) (by decide) (rm1_13 l Z a0 hw hA [] h0 n0 O0) (W := 0) (by decide) (by decide) [(.int (3 : Int32))] rfl (lenOf pd1 rfl) (Ls := #[.val (.int p0), .val (.int p1), .val (.int (3 : Int32)), .val (.int (0 : Int32)), .unset, .unset]) (by rw [hml]; rfl) (rest := []) (Nat.le_of_eq rfl) (hb hby at_17) e0 (by decide) (by decide)
      refine st73 _ ?_
      obtain ⟨rfl, N73q, e73⟩ := hQ73
      have N73 := Fr.app (Fr.nil n0) N73q
      show own_Wp p e below _ T73 (mkF m 20 #[.val (.int p0), .val (.int p1), .val (.int (3 : Int32)), .val (.int (0 : Int32)), .unset, .unset] [(.ref (w1_TCP6 Z))])
      refine own_step (fun _ k => XS.astore X73.here hx rfl (hb hby at_20) rfl rfl (l' := #[.val (.int p0), .val (.int p1), .val (.int (3 : Int32)), .val (.int (0 : Int32)), .val (.ref (w1_TCP6 Z)), .unset]) rfl k) ?_
      show own_Wp p e below _ T73 (mkF m 22 #[.val (.int p0), .val (.int p1), .val (.int (3 : Int32)), .val (.int (0 : Int32)), .val (.ref (w1_TCP6 Z)), .unset] [])
      refine own_step (fun _ k => XS.iloadN X73.here hx rfl (hb hby at_22) rfl k) ?_
      show own_Wp p e below _ T73 (mkF m 23 #[.val (.int p0), .val (.int p1), .val (.int (3 : Int32)), .val (.int (0 : Int32)), .val (.ref (w1_TCP6 Z)), .unset] [(.int (0 : Int32))])
      obtain ⟨_, T74, L74, X74, hQ74, st74⟩ := own_callS X73 hx hZ hown (hw _ (List.mem_of_getElem? (i := 1) rfl)) (hw _ (List.mem_of_getElem? (i := 2) rfl)) (hw _ (List.mem_of_getElem? (i := 3) rfl)) (hw _ (List.mem_of_getElem? (i := 4) rfl)) (by decide) (rm1_0 l Z a0 hw hA [] h0 n0 O0) (W := 0) (by decide) (by decide) [(.int (0 : Int32))] rfl (lenOf pd1 rfl) (Ls := #[.val (.int p0), .val (.int p1), .val (.int (3 : Int32)), .val (.int (0 : Int32)), .val (.ref (w1_TCP6 Z)), .unset]) (by rw [hml]; rfl) (rest := []) (Nat.le_of_eq rfl) (hb hby at_23) e73 (by decide) (by decide)
      refine st74 _ ?_
      obtain ⟨rfl, N74q, e74⟩ := hQ74
      have N74 := Fr.app N73 N74q
      show own_Wp p e below _ T74 (mkF m 26 #[.val (.int p0), .val (.int p1), .val (.int (3 : Int32)), .val (.int (0 : Int32)), .val (.ref (w1_TCP6 Z)), .unset] [(.ref (w0_IPV4 Z))])
      refine own_step (fun _ k => XS.astore X74.here hx rfl (hb hby at_26) rfl rfl (l' := #[.val (.int p0), .val (.int p1), .val (.int (3 : Int32)), .val (.int (0 : Int32)), .val (.ref (w1_TCP6 Z)), .val (.ref (w0_IPV4 Z))]) rfl k) ?_
      show own_Wp p e below _ T74 (mkF m 28 #[.val (.int p0), .val (.int p1), .val (.int (3 : Int32)), .val (.int (0 : Int32)), .val (.ref (w1_TCP6 Z)), .val (.ref (w0_IPV4 Z))] [])
      refine own_step (fun _ k => XS.aload X74.here hx rfl (hb hby at_28) rfl rfl k) ?_
      show own_Wp p e below _ T74 (mkF m 30 #[.val (.int p0), .val (.int p1), .val (.int (3 : Int32)), .val (.int (0 : Int32)), .val (.ref (w1_TCP6 Z)), .val (.ref (w0_IPV4 Z))] [(.ref (w1_TCP6 Z))])
      refine own_step (fun _ k => XS.aload X74.here hx rfl (hb hby at_30) rfl rfl k) ?_
      show own_Wp p e below _ T74 (mkF m 32 #[.val (.int p0), .val (.int p1), .val (.int (3 : Int32)), .val (.int (0 : Int32)), .val (.ref (w1_TCP6 Z)), .val (.ref (w0_IPV4 Z))] [(.ref (w0_IPV4 Z)), (.ref (w1_TCP6 Z))])
      obtain ⟨_, T75, L75, X75, hQ75, st75⟩ := own_callV X74 hx hZ hown (hw _ (List.mem_of_getElem? (i := 10) rfl)) (hw _ (List.mem_of_getElem? (i := 11) rfl)) (notFace_of_selects (args := #[]) (mvT hZ (hw _ (List.mem_of_getElem? (i := 13) rfl)))) (hw _ (List.mem_of_getElem? (i := 13) rfl)) (hw _ (List.mem_of_getElem? (i := 12) rfl)) (hw _ (List.mem_of_getElem? (i := 6) rfl)) (hw _ (List.mem_of_getElem? (i := 14) rfl)) (by decide) ((ex_w1_TCP6 hw hA).ext O0.2) (rm2_25 l Z a0 hw hA [] (w1_TCP6 Z) (w0_IPV4 Z) h0 n0 O0 (fl1 hw hA) (fl0 hw hA)) (W := 0) (by decide) (by decide) [(.ref (w0_IPV4 Z))] rfl (lenOf pd3 rfl) (Ls := #[.val (.int p0), .val (.int p1), .val (.int (3 : Int32)), .val (.int (0 : Int32)), .val (.ref (w1_TCP6 Z)), .val (.ref (w0_IPV4 Z))]) (by rw [hml]; rfl) (rest := []) (Nat.le_of_eq rfl) (hb hby at_32) e74 (by decide) (by decide)
      refine st75 _ ?_
      obtain ⟨rfl, N75q, e75⟩ := hQ75
      have N75 := Fr.app N74 N75q
      show own_Wp p e below _ T75 (mkF m 35 #[.val (.int p0), .val (.int p1), .val (.int (3 : Int32)), .val (.int (0 : Int32)), .val (.ref (w1_TCP6 Z)), .val (.ref (w0_IPV4 Z))] [(.int (0 : Int32))])
      refine own_step (fun _ k => XS.iloadN X75.here hx rfl (hb hby at_35) rfl k) ?_
      show own_Wp p e below _ T75 (mkF m 36 #[.val (.int p0), .val (.int p1), .val (.int (3 : Int32)), .val (.int (0 : Int32)), .val (.ref (w1_TCP6 Z)), .val (.ref (w0_IPV4 Z))] [(.int (3 : Int32)), (.int (0 : Int32))])
      refine own_step (fun _ k => XS.iloadN X75.here hx rfl (hb hby at_36) rfl k) ?_
      show own_Wp p e below _ T75 (mkF m 37 #[.val (.int p0), .val (.int p1), .val (.int (3 : Int32)), .val (.int (0 : Int32)), .val (.ref (w1_TCP6 Z)), .val (.ref (w0_IPV4 Z))] [(.int (0 : Int32)), (.int (3 : Int32)), (.int (0 : Int32))])
      obtain ⟨_, T76, L76, X76, hQ76, st76⟩ := own_callS X75 hx hZ hown (hw _ (List.mem_of_getElem? (i := 17) rfl)) (hw _ (List.mem_of_getElem? (i := 18) rfl)) (hw _ (List.mem_of_getElem? (i := 3) rfl)) (hw _ (List.mem_of_getElem? (i := 19) rfl)) (by decide) (rm3_64 l Z a0 hw hA [] h0 n0 O0) (W := 1) (by decide) (by decide) [(.int (3 : Int32)), (.int (0 : Int32))] rfl (lenOf pd4 rfl) (Ls := #[.val (.int p0), .val (.int p1), .val (.int (3 : Int32)), .val (.int (0 : Int32)), .val (.ref (w1_TCP6 Z)), .val (.ref (w0_IPV4 Z))]) (by rw [hml]; rfl) (rest := [(.int (0 : Int32))]) (Nat.le_of_eq rfl) (hb hby at_37) e75 (by decide) (by decide)
      refine st76 _ ?_
      obtain ⟨rfl, N76q, e76⟩ := hQ76
      have N76 := Fr.app N75 N76q
      show own_Wp p e below _ T76 (mkF m 40 #[.val (.int p0), .val (.int p1), .val (.int (3 : Int32)), .val (.int (0 : Int32)), .val (.ref (w1_TCP6 Z)), .val (.ref (w0_IPV4 Z))] [(.int (0 : Int32)), (.int (0 : Int32))])
      refine own_step (fun _ k => XS.icmpNo X76.here hx rfl (hb hby at_40) rfl (by decide) k) ?_
      show own_Wp p e below _ T76 (mkF m 43 #[.val (.int p0), .val (.int p1), .val (.int (3 : Int32)), .val (.int (0 : Int32)), .val (.ref (w1_TCP6 Z)), .val (.ref (w0_IPV4 Z))] [])
      refine own_step (fun _ k => XS.iconst X76.here hx rfl (hb hby at_43) k) ?_
      show own_Wp p e below _ T76 (mkF m 44 #[.val (.int p0), .val (.int p1), .val (.int (3 : Int32)), .val (.int (0 : Int32)), .val (.ref (w1_TCP6 Z)), .val (.ref (w0_IPV4 Z))] [(.int (1 : Int32))])
      refine own_step (fun _ k => XS.goto X76.here hx rfl (pc0 := 44) (pc' := 48) rfl (hb hby at_44) (by decide) (by decide) k) ?_
      show own_Wp p e below _ T76 (mkF m 48 #[.val (.int p0), .val (.int p1), .val (.int (3 : Int32)), .val (.int (0 : Int32)), .val (.ref (w1_TCP6 Z)), .val (.ref (w0_IPV4 Z))] [(.int (1 : Int32))])
      exact own_retN X76 hx (t := .boolean) hret (by simp) hlk (hb hby at_48) (by decide) (by decide) ⟨rfl, N76⟩
    · skip
      rw [hm]
      show own_Wp p e below _ s₁ (mkF m 15 #[.val (.int p0), .val (.int p1), .val (.int (3 : Int32)), .unset, .unset, .unset] [(.int (1 : Int32))])
      refine own_step (fun _ k => XS.istoreN X0.here hx rfl (hb hby at_15) rfl (l' := #[.val (.int p0), .val (.int p1), .val (.int (3 : Int32)), .val (.int (1 : Int32)), .unset, .unset]) rfl k) ?_
      show own_Wp p e below _ s₁ (mkF m 16 #[.val (.int p0), .val (.int p1), .val (.int (3 : Int32)), .val (.int (1 : Int32)), .unset, .unset] [])
      refine own_step (fun _ k => XS.iloadN X0.here hx rfl (hb hby at_16) rfl k) ?_
      show own_Wp p e below _ s₁ (mkF m 17 #[.val (.int p0), .val (.int p1), .val (.int (3 : Int32)), .val (.int (1 : Int32)), .unset, .unset] [(.int (3 : Int32))])
      obtain ⟨_, T77, L77, X77, hQ77, st77⟩ := own_callS X0 hx hZ hown (hw _ (List.mem_of_getElem? (i := 1) rfl)) (hw _ (List.mem_of_getElem? (i := 2) rfl)) (hw _ (List.mem_of_getElem? (i := 3) rfl)) (hw _ (List.mem_of_getElem? (i := 4) rfl)) (by decide) (rm1_13 l Z a0 hw hA [] h0 n0 O0) (W := 0) (by decide) (by decide) [(.int (3 : Int32))] rfl (lenOf pd1 rfl) (Ls := #[.val (.int p0), .val (.int p1), .val (.int (3 : Int32)), .val (.int (1 : Int32)), .unset, .unset]) (by rw [hml]; rfl) (rest := []) (Nat.le_of_eq rfl) (hb hby at_17) e0 (by decide) (by decide)
      refine st77 _ ?_
      obtain ⟨rfl, N77q, e77⟩ := hQ77
      have N77 := Fr.app (Fr.nil n0) N77q
      show own_Wp p e below _ T77 (mkF m 20 #[.val (.int p0), .val (.int p1), .val (.int (3 : Int32)), .val (.int (1 : Int32)), .unset, .unset] [(.ref (w1_TCP6 Z))])
      refine own_step (fun _ k => XS.astore X77.here hx rfl (hb hby at_20) rfl rfl (l' := #[.val (.int p0), .val (.int p1), .val (.int (3 : Int32)), .val (.int (1 : Int32)), .val (.ref (w1_TCP6 Z)), .unset]) rfl k) ?_
      show own_Wp p e below _ T77 (mkF m 22 #[.val (.int p0), .val (.int p1), .val (.int (3 : Int32)), .val (.int (1 : Int32)), .val (.ref (w1_TCP6 Z)), .unset] [])
      refine own_step (fun _ k => XS.iloadN X77.here hx rfl (hb hby at_22) rfl k) ?_
      show own_Wp p e below _ T77 (mkF m 23 #[.val (.int p0), .val (.int p1), .val (.int (3 : Int32)), .val (.int (1 : Int32)), .val (.ref (w1_TCP6 Z)), .unset] [(.int (1 : Int32))])
      obtain ⟨_, T78, L78, X78, hQ78, st78⟩ := own_callS X77 hx hZ hown (hw _ (List.mem_of_getElem? (i := 1) rfl)) (hw _ (List.mem_of_getElem? (i := 2) rfl)) (hw _ (List.mem_of_getElem? (i := 3) rfl)) (hw _ (List.mem_of_getElem? (i := 4) rfl)) (by decide) (rm1_3 l Z a0 hw hA [] h0 n0 O0) (W := 0) (by decide) (by decide) [(.int (1 : Int32))] rfl (lenOf pd1 rfl) (Ls := #[.val (.int p0), .val (.int p1), .val (.int (3 : Int32)), .val (.int (1 : Int32)), .val (.ref (w1_TCP6 Z)), .unset]) (by rw [hml]; rfl) (rest := []) (Nat.le_of_eq rfl) (hb hby at_23) e77 (by decide) (by decide)
      refine st78 _ ?_
      obtain ⟨rfl, N78q, e78⟩ := hQ78
      have N78 := Fr.app N77 N78q
      show own_Wp p e below _ T78 (mkF m 26 #[.val (.int p0), .val (.int p1), .val (.int (3 : Int32)), .val (.int (1 : Int32)), .val (.ref (w1_TCP6 Z)), .unset] [(.ref (w3_IPV6 Z))])
      refine own_step (fun _ k => XS.astore X78.here hx rfl (hb hby at_26) rfl rfl (l' := #[.val (.int p0), .val (.int p1), .val (.int (3 : Int32)), .val (.int (1 : Int32)), .val (.ref (w1_TCP6 Z)), .val (.ref (w3_IPV6 Z))]) rfl k) ?_
      show own_Wp p e below _ T78 (mkF m 28 #[.val (.int p0), .val (.int p1), .val (.int (3 : Int32)), .val (.int (1 : Int32)), .val (.ref (w1_TCP6 Z)), .val (.ref (w3_IPV6 Z))] [])
      refine own_step (fun _ k => XS.aload X78.here hx rfl (hb hby at_28) rfl rfl k) ?_
      show own_Wp p e below _ T78 (mkF m 30 #[.val (.int p0), .val (.int p1), .val (.int (3 : Int32)), .val (.int (1 : Int32)), .val (.ref (w1_TCP6 Z)), .val (.ref (w3_IPV6 Z))] [(.ref (w1_TCP6 Z))])
      refine own_step (fun _ k => XS.aload X78.here hx rfl (hb hby at_30) rfl rfl k) ?_
      show own_Wp p e below _ T78 (mkF m 32 #[.val (.int p0), .val (.int p1), .val (.int (3 : Int32)), .val (.int (1 : Int32)), .val (.ref (w1_TCP6 Z)), .val (.ref (w3_IPV6 Z))] [(.ref (w3_IPV6 Z)), (.ref (w1_TCP6 Z))])
      obtain ⟨_, T79, L79, X79, hQ79, st79⟩ := own_callV X78 hx hZ hown (hw _ (List.mem_of_getElem? (i := 10) rfl)) (hw _ (List.mem_of_getElem? (i := 11) rfl)) (notFace_of_selects (args := #[]) (mvT hZ (hw _ (List.mem_of_getElem? (i := 13) rfl)))) (hw _ (List.mem_of_getElem? (i := 13) rfl)) (hw _ (List.mem_of_getElem? (i := 12) rfl)) (hw _ (List.mem_of_getElem? (i := 6) rfl)) (hw _ (List.mem_of_getElem? (i := 14) rfl)) (by decide) ((ex_w1_TCP6 hw hA).ext O0.2) (rm2_65 l Z a0 hw hA [] (w1_TCP6 Z) (w3_IPV6 Z) h0 n0 O0 (fl1 hw hA) (fl3 hw hA) (Fld.ne (fl10 hw hA) (fl11 hw hA) (by decide)) (fl12 hw hA) (fl13 hw hA)) (W := 0) (by decide) (by decide) [(.ref (w3_IPV6 Z))] rfl (lenOf pd3 rfl) (Ls := #[.val (.int p0), .val (.int p1), .val (.int (3 : Int32)), .val (.int (1 : Int32)), .val (.ref (w1_TCP6 Z)), .val (.ref (w3_IPV6 Z))]) (by rw [hml]; rfl) (rest := []) (Nat.le_of_eq rfl) (hb hby at_32) e78 (by decide) (by decide)
      refine st79 _ ?_
      obtain ⟨rfl, N79q, e79⟩ := hQ79
      have N79 := Fr.app N78 N79q
      show own_Wp p e below _ T79 (mkF m 35 #[.val (.int p0), .val (.int p1), .val (.int (3 : Int32)), .val (.int (1 : Int32)), .val (.ref (w1_TCP6 Z)), .val (.ref (w3_IPV6 Z))] [(.int (1 : Int32))])
      refine own_step (fun _ k => XS.iloadN X79.here hx rfl (hb hby at_35) rfl k) ?_
      show own_Wp p e below _ T79 (mkF m 36 #[.val (.int p0), .val (.int p1), .val (.int (3 : Int32)), .val (.int (1 : Int32)), .val (.ref (w1_TCP6 Z)), .val (.ref (w3_IPV6 Z))] [(.int (3 : Int32)), (.int (1 : Int32))])
      refine own_step (fun _ k => XS.iloadN X79.here hx rfl (hb hby at_36) rfl k) ?_
      show own_Wp p e below _ T79 (mkF m 37 #[.val (.int p0), .val (.int p1), .val (.int (3 : Int32)), .val (.int (1 : Int32)), .val (.ref (w1_TCP6 Z)), .val (.ref (w3_IPV6 Z))] [(.int (1 : Int32)), (.int (3 : Int32)), (.int (1 : Int32))])
      obtain ⟨_, T80, L80, X80, hQ80, st80⟩ := own_callS X79 hx hZ hown (hw _ (List.mem_of_getElem? (i := 17) rfl)) (hw _ (List.mem_of_getElem? (i := 18) rfl)) (hw _ (List.mem_of_getElem? (i := 3) rfl)) (hw _ (List.mem_of_getElem? (i := 19) rfl)) (by decide) (rm3_68 l Z a0 hw hA [] h0 n0 O0) (W := 1) (by decide) (by decide) [(.int (3 : Int32)), (.int (1 : Int32))] rfl (lenOf pd4 rfl) (Ls := #[.val (.int p0), .val (.int p1), .val (.int (3 : Int32)), .val (.int (1 : Int32)), .val (.ref (w1_TCP6 Z)), .val (.ref (w3_IPV6 Z))]) (by rw [hml]; rfl) (rest := [(.int (1 : Int32))]) (Nat.le_of_eq rfl) (hb hby at_37) e79 (by decide) (by decide)
      refine st80 _ ?_
      obtain ⟨rfl, N80q, e80⟩ := hQ80
      have N80 := Fr.app N79 N80q
      show own_Wp p e below _ T80 (mkF m 40 #[.val (.int p0), .val (.int p1), .val (.int (3 : Int32)), .val (.int (1 : Int32)), .val (.ref (w1_TCP6 Z)), .val (.ref (w3_IPV6 Z))] [(.int (1 : Int32)), (.int (1 : Int32))])
      refine own_step (fun _ k => XS.icmpNo X80.here hx rfl (hb hby at_40) rfl (by decide) k) ?_
      show own_Wp p e below _ T80 (mkF m 43 #[.val (.int p0), .val (.int p1), .val (.int (3 : Int32)), .val (.int (1 : Int32)), .val (.ref (w1_TCP6 Z)), .val (.ref (w3_IPV6 Z))] [])
      refine own_step (fun _ k => XS.iconst X80.here hx rfl (hb hby at_43) k) ?_
      show own_Wp p e below _ T80 (mkF m 44 #[.val (.int p0), .val (.int p1), .val (.int (3 : Int32)), .val (.int (1 : Int32)), .val (.ref (w1_TCP6 Z)), .val (.ref (w3_IPV6 Z))] [(.int (1 : Int32))])
      refine own_step (fun _ k => XS.goto X80.here hx rfl (pc0 := 44) (pc' := 48) rfl (hb hby at_44) (by decide) (by decide) k) ?_
      show own_Wp p e below _ T80 (mkF m 48 #[.val (.int p0), .val (.int p1), .val (.int (3 : Int32)), .val (.int (1 : Int32)), .val (.ref (w1_TCP6 Z)), .val (.ref (w3_IPV6 Z))] [(.int (1 : Int32))])
      exact own_retN X80 hx (t := .boolean) hret (by simp) hlk (hb hby at_48) (by decide) (by decide) ⟨rfl, N80⟩
    · skip
      rw [hm]
      show own_Wp p e below _ s₁ (mkF m 15 #[.val (.int p0), .val (.int p1), .val (.int (3 : Int32)), .unset, .unset, .unset] [(.int (2 : Int32))])
      refine own_step (fun _ k => XS.istoreN X0.here hx rfl (hb hby at_15) rfl (l' := #[.val (.int p0), .val (.int p1), .val (.int (3 : Int32)), .val (.int (2 : Int32)), .unset, .unset]) rfl k) ?_
      show own_Wp p e below _ s₁ (mkF m 16 #[.val (.int p0), .val (.int p1), .val (.int (3 : Int32)), .val (.int (2 : Int32)), .unset, .unset] [])
      refine own_step (fun _ k => XS.iloadN X0.here hx rfl (hb hby at_16) rfl k) ?_
      show own_Wp p e below _ s₁ (mkF m 17 #[.val (.int p0), .val (.int p1), .val (.int (3 : Int32)), .val (.int (2 : Int32)), .unset, .unset] [(.int (3 : Int32))])
      obtain ⟨_, T81, L81, X81, hQ81, st81⟩ := own_callS X0 hx hZ hown (hw _ (List.mem_of_getElem? (i := 1) rfl)) (hw _ (List.mem_of_getElem? (i := 2) rfl)) (hw _ (List.mem_of_getElem? (i := 3) rfl)) (hw _ (List.mem_of_getElem? (i := 4) rfl)) (by decide) (rm1_13 l Z a0 hw hA [] h0 n0 O0) (W := 0) (by decide) (by decide) [(.int (3 : Int32))] rfl (lenOf pd1 rfl) (Ls := #[.val (.int p0), .val (.int p1), .val (.int (3 : Int32)), .val (.int (2 : Int32)), .unset, .unset]) (by rw [hml]; rfl) (rest := []) (Nat.le_of_eq rfl) (hb hby at_17) e0 (by decide) (by decide)
      refine st81 _ ?_
      obtain ⟨rfl, N81q, e81⟩ := hQ81
      have N81 := Fr.app (Fr.nil n0) N81q
      show own_Wp p e below _ T81 (mkF m 20 #[.val (.int p0), .val (.int p1), .val (.int (3 : Int32)), .val (.int (2 : Int32)), .unset, .unset] [(.ref (w1_TCP6 Z))])
      refine own_step (fun _ k => XS.astore X81.here hx rfl (hb hby at_20) rfl rfl (l' := #[.val (.int p0), .val (.int p1), .val (.int (3 : Int32)), .val (.int (2 : Int32)), .val (.ref (w1_TCP6 Z)), .unset]) rfl k) ?_
      show own_Wp p e below _ T81 (mkF m 22 #[.val (.int p0), .val (.int p1), .val (.int (3 : Int32)), .val (.int (2 : Int32)), .val (.ref (w1_TCP6 Z)), .unset] [])
      refine own_step (fun _ k => XS.iloadN X81.here hx rfl (hb hby at_22) rfl k) ?_
      show own_Wp p e below _ T81 (mkF m 23 #[.val (.int p0), .val (.int p1), .val (.int (3 : Int32)), .val (.int (2 : Int32)), .val (.ref (w1_TCP6 Z)), .unset] [(.int (2 : Int32))])
      obtain ⟨_, T82, L82, X82, hQ82, st82⟩ := own_callS X81 hx hZ hown (hw _ (List.mem_of_getElem? (i := 1) rfl)) (hw _ (List.mem_of_getElem? (i := 2) rfl)) (hw _ (List.mem_of_getElem? (i := 3) rfl)) (hw _ (List.mem_of_getElem? (i := 4) rfl)) (by decide) (rm1_8 l Z a0 hw hA [] h0 n0 O0) (W := 0) (by decide) (by decide) [(.int (2 : Int32))] rfl (lenOf pd1 rfl) (Ls := #[.val (.int p0), .val (.int p1), .val (.int (3 : Int32)), .val (.int (2 : Int32)), .val (.ref (w1_TCP6 Z)), .unset]) (by rw [hml]; rfl) (rest := []) (Nat.le_of_eq rfl) (hb hby at_23) e81 (by decide) (by decide)
      refine st82 _ ?_
      obtain ⟨rfl, N82q, e82⟩ := hQ82
      have N82 := Fr.app N81 N82q
      show own_Wp p e below _ T82 (mkF m 26 #[.val (.int p0), .val (.int p1), .val (.int (3 : Int32)), .val (.int (2 : Int32)), .val (.ref (w1_TCP6 Z)), .unset] [(.ref (w2_TCP Z))])
      refine own_step (fun _ k => XS.astore X82.here hx rfl (hb hby at_26) rfl rfl (l' := #[.val (.int p0), .val (.int p1), .val (.int (3 : Int32)), .val (.int (2 : Int32)), .val (.ref (w1_TCP6 Z)), .val (.ref (w2_TCP Z))]) rfl k) ?_
      show own_Wp p e below _ T82 (mkF m 28 #[.val (.int p0), .val (.int p1), .val (.int (3 : Int32)), .val (.int (2 : Int32)), .val (.ref (w1_TCP6 Z)), .val (.ref (w2_TCP Z))] [])
      refine own_step (fun _ k => XS.aload X82.here hx rfl (hb hby at_28) rfl rfl k) ?_
      show own_Wp p e below _ T82 (mkF m 30 #[.val (.int p0), .val (.int p1), .val (.int (3 : Int32)), .val (.int (2 : Int32)), .val (.ref (w1_TCP6 Z)), .val (.ref (w2_TCP Z))] [(.ref (w1_TCP6 Z))])
      refine own_step (fun _ k => XS.aload X82.here hx rfl (hb hby at_30) rfl rfl k) ?_
      show own_Wp p e below _ T82 (mkF m 32 #[.val (.int p0), .val (.int p1), .val (.int (3 : Int32)), .val (.int (2 : Int32)), .val (.ref (w1_TCP6 Z)), .val (.ref (w2_TCP Z))] [(.ref (w2_TCP Z)), (.ref (w1_TCP6 Z))])
      obtain ⟨_, T83, L83, X83, hQ83, st83⟩ := own_callV X82 hx hZ hown (hw _ (List.mem_of_getElem? (i := 10) rfl)) (hw _ (List.mem_of_getElem? (i := 11) rfl)) (notFace_of_selects (args := #[]) (mvT hZ (hw _ (List.mem_of_getElem? (i := 13) rfl)))) (hw _ (List.mem_of_getElem? (i := 13) rfl)) (hw _ (List.mem_of_getElem? (i := 12) rfl)) (hw _ (List.mem_of_getElem? (i := 6) rfl)) (hw _ (List.mem_of_getElem? (i := 14) rfl)) (by decide) ((ex_w1_TCP6 hw hA).ext O0.2) (rm2_25 l Z a0 hw hA [] (w1_TCP6 Z) (w2_TCP Z) h0 n0 O0 (fl1 hw hA) (fl2 hw hA)) (W := 0) (by decide) (by decide) [(.ref (w2_TCP Z))] rfl (lenOf pd3 rfl) (Ls := #[.val (.int p0), .val (.int p1), .val (.int (3 : Int32)), .val (.int (2 : Int32)), .val (.ref (w1_TCP6 Z)), .val (.ref (w2_TCP Z))]) (by rw [hml]; rfl) (rest := []) (Nat.le_of_eq rfl) (hb hby at_32) e82 (by decide) (by decide)
      refine st83 _ ?_
      obtain ⟨rfl, N83q, e83⟩ := hQ83
      have N83 := Fr.app N82 N83q
      show own_Wp p e below _ T83 (mkF m 35 #[.val (.int p0), .val (.int p1), .val (.int (3 : Int32)), .val (.int (2 : Int32)), .val (.ref (w1_TCP6 Z)), .val (.ref (w2_TCP Z))] [(.int (0 : Int32))])
      refine own_step (fun _ k => XS.iloadN X83.here hx rfl (hb hby at_35) rfl k) ?_
      show own_Wp p e below _ T83 (mkF m 36 #[.val (.int p0), .val (.int p1), .val (.int (3 : Int32)), .val (.int (2 : Int32)), .val (.ref (w1_TCP6 Z)), .val (.ref (w2_TCP Z))] [(.int (3 : Int32)), (.int (0 : Int32))])
      refine own_step (fun _ k => XS.iloadN X83.here hx rfl (hb hby at_36) rfl k) ?_
      show own_Wp p e below _ T83 (mkF m 37 #[.val (.int p0), .val (.int p1), .val (.int (3 : Int32)), .val (.int (2 : Int32)), .val (.ref (w1_TCP6 Z)), .val (.ref (w2_TCP Z))] [(.int (2 : Int32)), (.int (3 : Int32)), (.int (0 : Int32))])
      obtain ⟨_, T84, L84, X84, hQ84, st84⟩ := own_callS X83 hx hZ hown (hw _ (List.mem_of_getElem? (i := 17) rfl)) (hw _ (List.mem_of_getElem? (i := 18) rfl)) (hw _ (List.mem_of_getElem? (i := 3) rfl)) (hw _ (List.mem_of_getElem? (i := 19) rfl)) (by decide) (rm3_71 l Z a0 hw hA [] h0 n0 O0) (W := 1) (by decide) (by decide) [(.int (3 : Int32)), (.int (2 : Int32))] rfl (lenOf pd4 rfl) (Ls := #[.val (.int p0), .val (.int p1), .val (.int (3 : Int32)), .val (.int (2 : Int32)), .val (.ref (w1_TCP6 Z)), .val (.ref (w2_TCP Z))]) (by rw [hml]; rfl) (rest := [(.int (0 : Int32))]) (Nat.le_of_eq rfl) (hb hby at_37) e83 (by decide) (by decide)
      refine st84 _ ?_
      obtain ⟨rfl, N84q, e84⟩ := hQ84
      have N84 := Fr.app N83 N84q
      show own_Wp p e below _ T84 (mkF m 40 #[.val (.int p0), .val (.int p1), .val (.int (3 : Int32)), .val (.int (2 : Int32)), .val (.ref (w1_TCP6 Z)), .val (.ref (w2_TCP Z))] [(.int (0 : Int32)), (.int (0 : Int32))])
      refine own_step (fun _ k => XS.icmpNo X84.here hx rfl (hb hby at_40) rfl (by decide) k) ?_
      show own_Wp p e below _ T84 (mkF m 43 #[.val (.int p0), .val (.int p1), .val (.int (3 : Int32)), .val (.int (2 : Int32)), .val (.ref (w1_TCP6 Z)), .val (.ref (w2_TCP Z))] [])
      refine own_step (fun _ k => XS.iconst X84.here hx rfl (hb hby at_43) k) ?_
      show own_Wp p e below _ T84 (mkF m 44 #[.val (.int p0), .val (.int p1), .val (.int (3 : Int32)), .val (.int (2 : Int32)), .val (.ref (w1_TCP6 Z)), .val (.ref (w2_TCP Z))] [(.int (1 : Int32))])
      refine own_step (fun _ k => XS.goto X84.here hx rfl (pc0 := 44) (pc' := 48) rfl (hb hby at_44) (by decide) (by decide) k) ?_
      show own_Wp p e below _ T84 (mkF m 48 #[.val (.int p0), .val (.int p1), .val (.int (3 : Int32)), .val (.int (2 : Int32)), .val (.ref (w1_TCP6 Z)), .val (.ref (w2_TCP Z))] [(.int (1 : Int32))])
      exact own_retN X84 hx (t := .boolean) hret (by simp) hlk (hb hby at_48) (by decide) (by decide) ⟨rfl, N84⟩
    · skip
      rw [hm]
      show own_Wp p e below _ s₁ (mkF m 15 #[.val (.int p0), .val (.int p1), .val (.int (3 : Int32)), .unset, .unset, .unset] [(.int (3 : Int32))])
      refine own_step (fun _ k => XS.istoreN X0.here hx rfl (hb hby at_15) rfl (l' := #[.val (.int p0), .val (.int p1), .val (.int (3 : Int32)), .val (.int (3 : Int32)), .unset, .unset]) rfl k) ?_
      show own_Wp p e below _ s₁ (mkF m 16 #[.val (.int p0), .val (.int p1), .val (.int (3 : Int32)), .val (.int (3 : Int32)), .unset, .unset] [])
      refine own_step (fun _ k => XS.iloadN X0.here hx rfl (hb hby at_16) rfl k) ?_
      show own_Wp p e below _ s₁ (mkF m 17 #[.val (.int p0), .val (.int p1), .val (.int (3 : Int32)), .val (.int (3 : Int32)), .unset, .unset] [(.int (3 : Int32))])
      obtain ⟨_, T85, L85, X85, hQ85, st85⟩ := own_callS X0 hx hZ hown (hw _ (List.mem_of_getElem? (i := 1) rfl)) (hw _ (List.mem_of_getElem? (i := 2) rfl)) (hw _ (List.mem_of_getElem? (i := 3) rfl)) (hw _ (List.mem_of_getElem? (i := 4) rfl)) (by decide) (rm1_13 l Z a0 hw hA [] h0 n0 O0) (W := 0) (by decide) (by decide) [(.int (3 : Int32))] rfl (lenOf pd1 rfl) (Ls := #[.val (.int p0), .val (.int p1), .val (.int (3 : Int32)), .val (.int (3 : Int32)), .unset, .unset]) (by rw [hml]; rfl) (rest := []) (Nat.le_of_eq rfl) (hb hby at_17) e0 (by decide) (by decide)
      refine st85 _ ?_
      obtain ⟨rfl, N85q, e85⟩ := hQ85
      have N85 := Fr.app (Fr.nil n0) N85q
      show own_Wp p e below _ T85 (mkF m 20 #[.val (.int p0), .val (.int p1), .val (.int (3 : Int32)), .val (.int (3 : Int32)), .unset, .unset] [(.ref (w1_TCP6 Z))])
      refine own_step (fun _ k => XS.astore X85.here hx rfl (hb hby at_20) rfl rfl (l' := #[.val (.int p0), .val (.int p1), .val (.int (3 : Int32)), .val (.int (3 : Int32)), .val (.ref (w1_TCP6 Z)), .unset]) rfl k) ?_
      show own_Wp p e below _ T85 (mkF m 22 #[.val (.int p0), .val (.int p1), .val (.int (3 : Int32)), .val (.int (3 : Int32)), .val (.ref (w1_TCP6 Z)), .unset] [])
      refine own_step (fun _ k => XS.iloadN X85.here hx rfl (hb hby at_22) rfl k) ?_
      show own_Wp p e below _ T85 (mkF m 23 #[.val (.int p0), .val (.int p1), .val (.int (3 : Int32)), .val (.int (3 : Int32)), .val (.ref (w1_TCP6 Z)), .unset] [(.int (3 : Int32))])
      obtain ⟨_, T86, L86, X86, hQ86, st86⟩ := own_callS X85 hx hZ hown (hw _ (List.mem_of_getElem? (i := 1) rfl)) (hw _ (List.mem_of_getElem? (i := 2) rfl)) (hw _ (List.mem_of_getElem? (i := 3) rfl)) (hw _ (List.mem_of_getElem? (i := 4) rfl)) (by decide) (rm1_13 l Z a0 hw hA [] h0 n0 O0) (W := 0) (by decide) (by decide) [(.int (3 : Int32))] rfl (lenOf pd1 rfl) (Ls := #[.val (.int p0), .val (.int p1), .val (.int (3 : Int32)), .val (.int (3 : Int32)), .val (.ref (w1_TCP6 Z)), .unset]) (by rw [hml]; rfl) (rest := []) (Nat.le_of_eq rfl) (hb hby at_23) e85 (by decide) (by decide)
      refine st86 _ ?_
      obtain ⟨rfl, N86q, e86⟩ := hQ86
      have N86 := Fr.app N85 N86q
      show own_Wp p e below _ T86 (mkF m 26 #[.val (.int p0), .val (.int p1), .val (.int (3 : Int32)), .val (.int (3 : Int32)), .val (.ref (w1_TCP6 Z)), .unset] [(.ref (w1_TCP6 Z))])
      refine own_step (fun _ k => XS.astore X86.here hx rfl (hb hby at_26) rfl rfl (l' := #[.val (.int p0), .val (.int p1), .val (.int (3 : Int32)), .val (.int (3 : Int32)), .val (.ref (w1_TCP6 Z)), .val (.ref (w1_TCP6 Z))]) rfl k) ?_
      show own_Wp p e below _ T86 (mkF m 28 #[.val (.int p0), .val (.int p1), .val (.int (3 : Int32)), .val (.int (3 : Int32)), .val (.ref (w1_TCP6 Z)), .val (.ref (w1_TCP6 Z))] [])
      refine own_step (fun _ k => XS.aload X86.here hx rfl (hb hby at_28) rfl rfl k) ?_
      show own_Wp p e below _ T86 (mkF m 30 #[.val (.int p0), .val (.int p1), .val (.int (3 : Int32)), .val (.int (3 : Int32)), .val (.ref (w1_TCP6 Z)), .val (.ref (w1_TCP6 Z))] [(.ref (w1_TCP6 Z))])
      refine own_step (fun _ k => XS.aload X86.here hx rfl (hb hby at_30) rfl rfl k) ?_
      show own_Wp p e below _ T86 (mkF m 32 #[.val (.int p0), .val (.int p1), .val (.int (3 : Int32)), .val (.int (3 : Int32)), .val (.ref (w1_TCP6 Z)), .val (.ref (w1_TCP6 Z))] [(.ref (w1_TCP6 Z)), (.ref (w1_TCP6 Z))])
      obtain ⟨_, T87, L87, X87, hQ87, st87⟩ := own_callV X86 hx hZ hown (hw _ (List.mem_of_getElem? (i := 10) rfl)) (hw _ (List.mem_of_getElem? (i := 11) rfl)) (notFace_of_selects (args := #[]) (mvT hZ (hw _ (List.mem_of_getElem? (i := 13) rfl)))) (hw _ (List.mem_of_getElem? (i := 13) rfl)) (hw _ (List.mem_of_getElem? (i := 12) rfl)) (hw _ (List.mem_of_getElem? (i := 6) rfl)) (hw _ (List.mem_of_getElem? (i := 14) rfl)) (by decide) ((ex_w1_TCP6 hw hA).ext O0.2) (rm2_29 l Z a0 hw hA [] (w1_TCP6 Z) h0 n0 O0 (fl1 hw hA)) (W := 0) (by decide) (by decide) [(.ref (w1_TCP6 Z))] rfl (lenOf pd3 rfl) (Ls := #[.val (.int p0), .val (.int p1), .val (.int (3 : Int32)), .val (.int (3 : Int32)), .val (.ref (w1_TCP6 Z)), .val (.ref (w1_TCP6 Z))]) (by rw [hml]; rfl) (rest := []) (Nat.le_of_eq rfl) (hb hby at_32) e86 (by decide) (by decide)
      refine st87 _ ?_
      obtain ⟨rfl, N87q, e87⟩ := hQ87
      have N87 := Fr.app N86 N87q
      show own_Wp p e below _ T87 (mkF m 35 #[.val (.int p0), .val (.int p1), .val (.int (3 : Int32)), .val (.int (3 : Int32)), .val (.ref (w1_TCP6 Z)), .val (.ref (w1_TCP6 Z))] [(.int (1 : Int32))])
      refine own_step (fun _ k => XS.iloadN X87.here hx rfl (hb hby at_35) rfl k) ?_
      show own_Wp p e below _ T87 (mkF m 36 #[.val (.int p0), .val (.int p1), .val (.int (3 : Int32)), .val (.int (3 : Int32)), .val (.ref (w1_TCP6 Z)), .val (.ref (w1_TCP6 Z))] [(.int (3 : Int32)), (.int (1 : Int32))])
      refine own_step (fun _ k => XS.iloadN X87.here hx rfl (hb hby at_36) rfl k) ?_
      show own_Wp p e below _ T87 (mkF m 37 #[.val (.int p0), .val (.int p1), .val (.int (3 : Int32)), .val (.int (3 : Int32)), .val (.ref (w1_TCP6 Z)), .val (.ref (w1_TCP6 Z))] [(.int (3 : Int32)), (.int (3 : Int32)), (.int (1 : Int32))])
      obtain ⟨_, T88, L88, X88, hQ88, st88⟩ := own_callS X87 hx hZ hown (hw _ (List.mem_of_getElem? (i := 17) rfl)) (hw _ (List.mem_of_getElem? (i := 18) rfl)) (hw _ (List.mem_of_getElem? (i := 3) rfl)) (hw _ (List.mem_of_getElem? (i := 19) rfl)) (by decide) (rm3_72 l Z a0 hw hA [] h0 n0 O0) (W := 1) (by decide) (by decide) [(.int (3 : Int32)), (.int (3 : Int32))] rfl (lenOf pd4 rfl) (Ls := #[.val (.int p0), .val (.int p1), .val (.int (3 : Int32)), .val (.int (3 : Int32)), .val (.ref (w1_TCP6 Z)), .val (.ref (w1_TCP6 Z))]) (by rw [hml]; rfl) (rest := [(.int (1 : Int32))]) (Nat.le_of_eq rfl) (hb hby at_37) e87 (by decide) (by decide)
      refine st88 _ ?_
      obtain ⟨rfl, N88q, e88⟩ := hQ88
      have N88 := Fr.app N87 N88q
      show own_Wp p e below _ T88 (mkF m 40 #[.val (.int p0), .val (.int p1), .val (.int (3 : Int32)), .val (.int (3 : Int32)), .val (.ref (w1_TCP6 Z)), .val (.ref (w1_TCP6 Z))] [(.int (1 : Int32)), (.int (1 : Int32))])
      refine own_step (fun _ k => XS.icmpNo X88.here hx rfl (hb hby at_40) rfl (by decide) k) ?_
      show own_Wp p e below _ T88 (mkF m 43 #[.val (.int p0), .val (.int p1), .val (.int (3 : Int32)), .val (.int (3 : Int32)), .val (.ref (w1_TCP6 Z)), .val (.ref (w1_TCP6 Z))] [])
      refine own_step (fun _ k => XS.iconst X88.here hx rfl (hb hby at_43) k) ?_
      show own_Wp p e below _ T88 (mkF m 44 #[.val (.int p0), .val (.int p1), .val (.int (3 : Int32)), .val (.int (3 : Int32)), .val (.ref (w1_TCP6 Z)), .val (.ref (w1_TCP6 Z))] [(.int (1 : Int32))])
      refine own_step (fun _ k => XS.goto X88.here hx rfl (pc0 := 44) (pc' := 48) rfl (hb hby at_44) (by decide) (by decide) k) ?_
      show own_Wp p e below _ T88 (mkF m 48 #[.val (.int p0), .val (.int p1), .val (.int (3 : Int32)), .val (.int (3 : Int32)), .val (.ref (w1_TCP6 Z)), .val (.ref (w1_TCP6 Z))] [(.int (1 : Int32))])
      exact own_retN X88 hx (t := .boolean) hret (by simp) hlk (hb hby at_48) (by decide) (by decide) ⟨rfl, N88⟩
    · skip
      rw [hm]
      show own_Wp p e below _ s₁ (mkF m 15 #[.val (.int p0), .val (.int p1), .val (.int (3 : Int32)), .unset, .unset, .unset] [(.int (4 : Int32))])
      refine own_step (fun _ k => XS.istoreN X0.here hx rfl (hb hby at_15) rfl (l' := #[.val (.int p0), .val (.int p1), .val (.int (3 : Int32)), .val (.int (4 : Int32)), .unset, .unset]) rfl k) ?_
      show own_Wp p e below _ s₁ (mkF m 16 #[.val (.int p0), .val (.int p1), .val (.int (3 : Int32)), .val (.int (4 : Int32)), .unset, .unset] [])
      refine own_step (fun _ k => XS.iloadN X0.here hx rfl (hb hby at_16) rfl k) ?_
      show own_Wp p e below _ s₁ (mkF m 17 #[.val (.int p0), .val (.int p1), .val (.int (3 : Int32)), .val (.int (4 : Int32)), .unset, .unset] [(.int (3 : Int32))])
      obtain ⟨_, T89, L89, X89, hQ89, st89⟩ := own_callS X0 hx hZ hown (hw _ (List.mem_of_getElem? (i := 1) rfl)) (hw _ (List.mem_of_getElem? (i := 2) rfl)) (hw _ (List.mem_of_getElem? (i := 3) rfl)) (hw _ (List.mem_of_getElem? (i := 4) rfl)) (by decide) (rm1_13 l Z a0 hw hA [] h0 n0 O0) (W := 0) (by decide) (by decide) [(.int (3 : Int32))] rfl (lenOf pd1 rfl) (Ls := #[.val (.int p0), .val (.int p1), .val (.int (3 : Int32)), .val (.int (4 : Int32)), .unset, .unset]) (by rw [hml]; rfl) (rest := []) (Nat.le_of_eq rfl) (hb hby at_17) e0 (by decide) (by decide)
      refine st89 _ ?_
      obtain ⟨rfl, N89q, e89⟩ := hQ89
      have N89 := Fr.app (Fr.nil n0) N89q
      show own_Wp p e below _ T89 (mkF m 20 #[.val (.int p0), .val (.int p1), .val (.int (3 : Int32)), .val (.int (4 : Int32)), .unset, .unset] [(.ref (w1_TCP6 Z))])
      refine own_step (fun _ k => XS.astore X89.here hx rfl (hb hby at_20) rfl rfl (l' := #[.val (.int p0), .val (.int p1), .val (.int (3 : Int32)), .val (.int (4 : Int32)), .val (.ref (w1_TCP6 Z)), .unset]) rfl k) ?_
      show own_Wp p e below _ T89 (mkF m 22 #[.val (.int p0), .val (.int p1), .val (.int (3 : Int32)), .val (.int (4 : Int32)), .val (.ref (w1_TCP6 Z)), .unset] [])
      refine own_step (fun _ k => XS.iloadN X89.here hx rfl (hb hby at_22) rfl k) ?_
      show own_Wp p e below _ T89 (mkF m 23 #[.val (.int p0), .val (.int p1), .val (.int (3 : Int32)), .val (.int (4 : Int32)), .val (.ref (w1_TCP6 Z)), .unset] [(.int (4 : Int32))])
      obtain ⟨_, T90, L90, X90, hQ90, st90⟩ := own_callS X89 hx hZ hown (hw _ (List.mem_of_getElem? (i := 1) rfl)) (hw _ (List.mem_of_getElem? (i := 2) rfl)) (hw _ (List.mem_of_getElem? (i := 3) rfl)) (hw _ (List.mem_of_getElem? (i := 4) rfl)) (by decide) (rm1_17 l Z a0 hw hA [] h0 n0 O0) (W := 0) (by decide) (by decide) [(.int (4 : Int32))] rfl (lenOf pd1 rfl) (Ls := #[.val (.int p0), .val (.int p1), .val (.int (3 : Int32)), .val (.int (4 : Int32)), .val (.ref (w1_TCP6 Z)), .unset]) (by rw [hml]; rfl) (rest := []) (Nat.le_of_eq rfl) (hb hby at_23) e89 (by decide) (by decide)
      refine st90 _ ?_
      obtain ⟨rfl, N90q, e90⟩ := hQ90
      have N90 := Fr.app N89 N90q
      show own_Wp p e below _ T90 (mkF m 26 #[.val (.int p0), .val (.int p1), .val (.int (3 : Int32)), .val (.int (4 : Int32)), .val (.ref (w1_TCP6 Z)), .unset] [(.ref (w5_UDP Z))])
      refine own_step (fun _ k => XS.astore X90.here hx rfl (hb hby at_26) rfl rfl (l' := #[.val (.int p0), .val (.int p1), .val (.int (3 : Int32)), .val (.int (4 : Int32)), .val (.ref (w1_TCP6 Z)), .val (.ref (w5_UDP Z))]) rfl k) ?_
      show own_Wp p e below _ T90 (mkF m 28 #[.val (.int p0), .val (.int p1), .val (.int (3 : Int32)), .val (.int (4 : Int32)), .val (.ref (w1_TCP6 Z)), .val (.ref (w5_UDP Z))] [])
      refine own_step (fun _ k => XS.aload X90.here hx rfl (hb hby at_28) rfl rfl k) ?_
      show own_Wp p e below _ T90 (mkF m 30 #[.val (.int p0), .val (.int p1), .val (.int (3 : Int32)), .val (.int (4 : Int32)), .val (.ref (w1_TCP6 Z)), .val (.ref (w5_UDP Z))] [(.ref (w1_TCP6 Z))])
      refine own_step (fun _ k => XS.aload X90.here hx rfl (hb hby at_30) rfl rfl k) ?_
      show own_Wp p e below _ T90 (mkF m 32 #[.val (.int p0), .val (.int p1), .val (.int (3 : Int32)), .val (.int (4 : Int32)), .val (.ref (w1_TCP6 Z)), .val (.ref (w5_UDP Z))] [(.ref (w5_UDP Z)), (.ref (w1_TCP6 Z))])
      obtain ⟨_, T91, L91, X91, hQ91, st91⟩ := own_callV X90 hx hZ hown (hw _ (List.mem_of_getElem? (i := 10) rfl)) (hw _ (List.mem_of_getElem? (i := 11) rfl)) (notFace_of_selects (args := #[]) (mvT hZ (hw _ (List.mem_of_getElem? (i := 13) rfl)))) (hw _ (List.mem_of_getElem? (i := 13) rfl)) (hw _ (List.mem_of_getElem? (i := 12) rfl)) (hw _ (List.mem_of_getElem? (i := 6) rfl)) (hw _ (List.mem_of_getElem? (i := 14) rfl)) (by decide) ((ex_w1_TCP6 hw hA).ext O0.2) (rm2_25 l Z a0 hw hA [] (w1_TCP6 Z) (w5_UDP Z) h0 n0 O0 (fl1 hw hA) (fl5 hw hA)) (W := 0) (by decide) (by decide) [(.ref (w5_UDP Z))] rfl (lenOf pd3 rfl) (Ls := #[.val (.int p0), .val (.int p1), .val (.int (3 : Int32)), .val (.int (4 : Int32)), .val (.ref (w1_TCP6 Z)), .val (.ref (w5_UDP Z))]) (by rw [hml]; rfl) (rest := []) (Nat.le_of_eq rfl) (hb hby at_32) e90 (by decide) (by decide)
      refine st91 _ ?_
      obtain ⟨rfl, N91q, e91⟩ := hQ91
      have N91 := Fr.app N90 N91q
      show own_Wp p e below _ T91 (mkF m 35 #[.val (.int p0), .val (.int p1), .val (.int (3 : Int32)), .val (.int (4 : Int32)), .val (.ref (w1_TCP6 Z)), .val (.ref (w5_UDP Z))] [(.int (0 : Int32))])
      refine own_step (fun _ k => XS.iloadN X91.here hx rfl (hb hby at_35) rfl k) ?_
      show own_Wp p e below _ T91 (mkF m 36 #[.val (.int p0), .val (.int p1), .val (.int (3 : Int32)), .val (.int (4 : Int32)), .val (.ref (w1_TCP6 Z)), .val (.ref (w5_UDP Z))] [(.int (3 : Int32)), (.int (0 : Int32))])
      refine own_step (fun _ k => XS.iloadN X91.here hx rfl (hb hby at_36) rfl k) ?_
      show own_Wp p e below _ T91 (mkF m 37 #[.val (.int p0), .val (.int p1), .val (.int (3 : Int32)), .val (.int (4 : Int32)), .val (.ref (w1_TCP6 Z)), .val (.ref (w5_UDP Z))] [(.int (4 : Int32)), (.int (3 : Int32)), (.int (0 : Int32))])
      obtain ⟨_, T92, L92, X92, hQ92, st92⟩ := own_callS X91 hx hZ hown (hw _ (List.mem_of_getElem? (i := 17) rfl)) (hw _ (List.mem_of_getElem? (i := 18) rfl)) (hw _ (List.mem_of_getElem? (i := 3) rfl)) (hw _ (List.mem_of_getElem? (i := 19) rfl)) (by decide) (rm3_75 l Z a0 hw hA [] h0 n0 O0) (W := 1) (by decide) (by decide) [(.int (3 : Int32)), (.int (4 : Int32))] rfl (lenOf pd4 rfl) (Ls := #[.val (.int p0), .val (.int p1), .val (.int (3 : Int32)), .val (.int (4 : Int32)), .val (.ref (w1_TCP6 Z)), .val (.ref (w5_UDP Z))]) (by rw [hml]; rfl) (rest := [(.int (0 : Int32))]) (Nat.le_of_eq rfl) (hb hby at_37) e91 (by decide) (by decide)
      refine st92 _ ?_
      obtain ⟨rfl, N92q, e92⟩ := hQ92
      have N92 := Fr.app N91 N92q
      show own_Wp p e below _ T92 (mkF m 40 #[.val (.int p0), .val (.int p1), .val (.int (3 : Int32)), .val (.int (4 : Int32)), .val (.ref (w1_TCP6 Z)), .val (.ref (w5_UDP Z))] [(.int (0 : Int32)), (.int (0 : Int32))])
      refine own_step (fun _ k => XS.icmpNo X92.here hx rfl (hb hby at_40) rfl (by decide) k) ?_
      show own_Wp p e below _ T92 (mkF m 43 #[.val (.int p0), .val (.int p1), .val (.int (3 : Int32)), .val (.int (4 : Int32)), .val (.ref (w1_TCP6 Z)), .val (.ref (w5_UDP Z))] [])
      refine own_step (fun _ k => XS.iconst X92.here hx rfl (hb hby at_43) k) ?_
      show own_Wp p e below _ T92 (mkF m 44 #[.val (.int p0), .val (.int p1), .val (.int (3 : Int32)), .val (.int (4 : Int32)), .val (.ref (w1_TCP6 Z)), .val (.ref (w5_UDP Z))] [(.int (1 : Int32))])
      refine own_step (fun _ k => XS.goto X92.here hx rfl (pc0 := 44) (pc' := 48) rfl (hb hby at_44) (by decide) (by decide) k) ?_
      show own_Wp p e below _ T92 (mkF m 48 #[.val (.int p0), .val (.int p1), .val (.int (3 : Int32)), .val (.int (4 : Int32)), .val (.ref (w1_TCP6 Z)), .val (.ref (w5_UDP Z))] [(.int (1 : Int32))])
      exact own_retN X92 hx (t := .boolean) hret (by simp) hlk (hb hby at_48) (by decide) (by decide) ⟨rfl, N92⟩
    · skip
      rw [hm]
      show own_Wp p e below _ s₁ (mkF m 15 #[.val (.int p0), .val (.int p1), .val (.int (3 : Int32)), .unset, .unset, .unset] [(.int (5 : Int32))])
      refine own_step (fun _ k => XS.istoreN X0.here hx rfl (hb hby at_15) rfl (l' := #[.val (.int p0), .val (.int p1), .val (.int (3 : Int32)), .val (.int (5 : Int32)), .unset, .unset]) rfl k) ?_
      show own_Wp p e below _ s₁ (mkF m 16 #[.val (.int p0), .val (.int p1), .val (.int (3 : Int32)), .val (.int (5 : Int32)), .unset, .unset] [])
      refine own_step (fun _ k => XS.iloadN X0.here hx rfl (hb hby at_16) rfl k) ?_
      show own_Wp p e below _ s₁ (mkF m 17 #[.val (.int p0), .val (.int p1), .val (.int (3 : Int32)), .val (.int (5 : Int32)), .unset, .unset] [(.int (3 : Int32))])
      obtain ⟨_, T93, L93, X93, hQ93, st93⟩ := own_callS X0 hx hZ hown (hw _ (List.mem_of_getElem? (i := 1) rfl)) (hw _ (List.mem_of_getElem? (i := 2) rfl)) (hw _ (List.mem_of_getElem? (i := 3) rfl)) (hw _ (List.mem_of_getElem? (i := 4) rfl)) (by decide) (rm1_13 l Z a0 hw hA [] h0 n0 O0) (W := 0) (by decide) (by decide) [(.int (3 : Int32))] rfl (lenOf pd1 rfl) (Ls := #[.val (.int p0), .val (.int p1), .val (.int (3 : Int32)), .val (.int (5 : Int32)), .unset, .unset]) (by rw [hml]; rfl) (rest := []) (Nat.le_of_eq rfl) (hb hby at_17) e0 (by decide) (by decide)
      refine st93 _ ?_
      obtain ⟨rfl, N93q, e93⟩ := hQ93
      have N93 := Fr.app (Fr.nil n0) N93q
      show own_Wp p e below _ T93 (mkF m 20 #[.val (.int p0), .val (.int p1), .val (.int (3 : Int32)), .val (.int (5 : Int32)), .unset, .unset] [(.ref (w1_TCP6 Z))])
      refine own_step (fun _ k => XS.astore X93.here hx rfl (hb hby at_20) rfl rfl (l' := #[.val (.int p0), .val (.int p1), .val (.int (3 : Int32)), .val (.int (5 : Int32)), .val (.ref (w1_TCP6 Z)), .unset]) rfl k) ?_
      show own_Wp p e below _ T93 (mkF m 22 #[.val (.int p0), .val (.int p1), .val (.int (3 : Int32)), .val (.int (5 : Int32)), .val (.ref (w1_TCP6 Z)), .unset] [])
      refine own_step (fun _ k => XS.iloadN X93.here hx rfl (hb hby at_22) rfl k) ?_
      show own_Wp p e below _ T93 (mkF m 23 #[.val (.int p0), .val (.int p1), .val (.int (3 : Int32)), .val (.int (5 : Int32)), .val (.ref (w1_TCP6 Z)), .unset] [(.int (5 : Int32))])
      obtain ⟨_, T94, L94, X94, hQ94, st94⟩ := own_callS X93 hx hZ hown (hw _ (List.mem_of_getElem? (i := 1) rfl)) (hw _ (List.mem_of_getElem? (i := 2) rfl)) (hw _ (List.mem_of_getElem? (i := 3) rfl)) (hw _ (List.mem_of_getElem? (i := 4) rfl)) (by decide) (rm1_21 l Z a0 hw hA [] h0 n0 O0) (W := 0) (by decide) (by decide) [(.int (5 : Int32))] rfl (lenOf pd1 rfl) (Ls := #[.val (.int p0), .val (.int p1), .val (.int (3 : Int32)), .val (.int (5 : Int32)), .val (.ref (w1_TCP6 Z)), .unset]) (by rw [hml]; rfl) (rest := []) (Nat.le_of_eq rfl) (hb hby at_23) e93 (by decide) (by decide)
      refine st94 _ ?_
      obtain ⟨rfl, N94q, e94⟩ := hQ94
      have N94 := Fr.app N93 N94q
      show own_Wp p e below _ T94 (mkF m 26 #[.val (.int p0), .val (.int p1), .val (.int (3 : Int32)), .val (.int (5 : Int32)), .val (.ref (w1_TCP6 Z)), .unset] [(.ref (w4_UDP6 Z))])
      refine own_step (fun _ k => XS.astore X94.here hx rfl (hb hby at_26) rfl rfl (l' := #[.val (.int p0), .val (.int p1), .val (.int (3 : Int32)), .val (.int (5 : Int32)), .val (.ref (w1_TCP6 Z)), .val (.ref (w4_UDP6 Z))]) rfl k) ?_
      show own_Wp p e below _ T94 (mkF m 28 #[.val (.int p0), .val (.int p1), .val (.int (3 : Int32)), .val (.int (5 : Int32)), .val (.ref (w1_TCP6 Z)), .val (.ref (w4_UDP6 Z))] [])
      refine own_step (fun _ k => XS.aload X94.here hx rfl (hb hby at_28) rfl rfl k) ?_
      show own_Wp p e below _ T94 (mkF m 30 #[.val (.int p0), .val (.int p1), .val (.int (3 : Int32)), .val (.int (5 : Int32)), .val (.ref (w1_TCP6 Z)), .val (.ref (w4_UDP6 Z))] [(.ref (w1_TCP6 Z))])
      refine own_step (fun _ k => XS.aload X94.here hx rfl (hb hby at_30) rfl rfl k) ?_
      show own_Wp p e below _ T94 (mkF m 32 #[.val (.int p0), .val (.int p1), .val (.int (3 : Int32)), .val (.int (5 : Int32)), .val (.ref (w1_TCP6 Z)), .val (.ref (w4_UDP6 Z))] [(.ref (w4_UDP6 Z)), (.ref (w1_TCP6 Z))])
      obtain ⟨_, T95, L95, X95, hQ95, st95⟩ := own_callV X94 hx hZ hown (hw _ (List.mem_of_getElem? (i := 10) rfl)) (hw _ (List.mem_of_getElem? (i := 11) rfl)) (notFace_of_selects (args := #[]) (mvT hZ (hw _ (List.mem_of_getElem? (i := 13) rfl)))) (hw _ (List.mem_of_getElem? (i := 13) rfl)) (hw _ (List.mem_of_getElem? (i := 12) rfl)) (hw _ (List.mem_of_getElem? (i := 6) rfl)) (hw _ (List.mem_of_getElem? (i := 14) rfl)) (by decide) ((ex_w1_TCP6 hw hA).ext O0.2) (rm2_76 l Z a0 hw hA [] (w1_TCP6 Z) (w4_UDP6 Z) h0 n0 O0 (fl1 hw hA) (fl4 hw hA) (Fld.ne (fl10 hw hA) (fl15 hw hA) (by decide)) (fl12 hw hA) (fl17 hw hA)) (W := 0) (by decide) (by decide) [(.ref (w4_UDP6 Z))] rfl (lenOf pd3 rfl) (Ls := #[.val (.int p0), .val (.int p1), .val (.int (3 : Int32)), .val (.int (5 : Int32)), .val (.ref (w1_TCP6 Z)), .val (.ref (w4_UDP6 Z))]) (by rw [hml]; rfl) (rest := []) (Nat.le_of_eq rfl) (hb hby at_32) e94 (by decide) (by decide)
      refine st95 _ ?_
      obtain ⟨rfl, N95q, e95⟩ := hQ95
      have N95 := Fr.app N94 N95q
      show own_Wp p e below _ T95 (mkF m 35 #[.val (.int p0), .val (.int p1), .val (.int (3 : Int32)), .val (.int (5 : Int32)), .val (.ref (w1_TCP6 Z)), .val (.ref (w4_UDP6 Z))] [(.int (0 : Int32))])
      refine own_step (fun _ k => XS.iloadN X95.here hx rfl (hb hby at_35) rfl k) ?_
      show own_Wp p e below _ T95 (mkF m 36 #[.val (.int p0), .val (.int p1), .val (.int (3 : Int32)), .val (.int (5 : Int32)), .val (.ref (w1_TCP6 Z)), .val (.ref (w4_UDP6 Z))] [(.int (3 : Int32)), (.int (0 : Int32))])
      refine own_step (fun _ k => XS.iloadN X95.here hx rfl (hb hby at_36) rfl k) ?_
      show own_Wp p e below _ T95 (mkF m 37 #[.val (.int p0), .val (.int p1), .val (.int (3 : Int32)), .val (.int (5 : Int32)), .val (.ref (w1_TCP6 Z)), .val (.ref (w4_UDP6 Z))] [(.int (5 : Int32)), (.int (3 : Int32)), (.int (0 : Int32))])
      obtain ⟨_, T96, L96, X96, hQ96, st96⟩ := own_callS X95 hx hZ hown (hw _ (List.mem_of_getElem? (i := 17) rfl)) (hw _ (List.mem_of_getElem? (i := 18) rfl)) (hw _ (List.mem_of_getElem? (i := 3) rfl)) (hw _ (List.mem_of_getElem? (i := 19) rfl)) (by decide) (rm3_79 l Z a0 hw hA [] h0 n0 O0) (W := 1) (by decide) (by decide) [(.int (3 : Int32)), (.int (5 : Int32))] rfl (lenOf pd4 rfl) (Ls := #[.val (.int p0), .val (.int p1), .val (.int (3 : Int32)), .val (.int (5 : Int32)), .val (.ref (w1_TCP6 Z)), .val (.ref (w4_UDP6 Z))]) (by rw [hml]; rfl) (rest := [(.int (0 : Int32))]) (Nat.le_of_eq rfl) (hb hby at_37) e95 (by decide) (by decide)
      refine st96 _ ?_
      obtain ⟨rfl, N96q, e96⟩ := hQ96
      have N96 := Fr.app N95 N96q
      show own_Wp p e below _ T96 (mkF m 40 #[.val (.int p0), .val (.int p1), .val (.int (3 : Int32)), .val (.int (5 : Int32)), .val (.ref (w1_TCP6 Z)), .val (.ref (w4_UDP6 Z))] [(.int (0 : Int32)), (.int (0 : Int32))])
      refine own_step (fun _ k => XS.icmpNo X96.here hx rfl (hb hby at_40) rfl (by decide) k) ?_
      show own_Wp p e below _ T96 (mkF m 43 #[.val (.int p0), .val (.int p1), .val (.int (3 : Int32)), .val (.int (5 : Int32)), .val (.ref (w1_TCP6 Z)), .val (.ref (w4_UDP6 Z))] [])
      refine own_step (fun _ k => XS.iconst X96.here hx rfl (hb hby at_43) k) ?_
      show own_Wp p e below _ T96 (mkF m 44 #[.val (.int p0), .val (.int p1), .val (.int (3 : Int32)), .val (.int (5 : Int32)), .val (.ref (w1_TCP6 Z)), .val (.ref (w4_UDP6 Z))] [(.int (1 : Int32))])
      refine own_step (fun _ k => XS.goto X96.here hx rfl (pc0 := 44) (pc' := 48) rfl (hb hby at_44) (by decide) (by decide) k) ?_
      show own_Wp p e below _ T96 (mkF m 48 #[.val (.int p0), .val (.int p1), .val (.int (3 : Int32)), .val (.int (5 : Int32)), .val (.ref (w1_TCP6 Z)), .val (.ref (w4_UDP6 Z))] [(.int (1 : Int32))])
      exact own_retN X96 hx (t := .boolean) hret (by simp) hlk (hb hby at_48) (by decide) (by decide) ⟨rfl, N96⟩
  · skip
    rw [hm]
    show own_Wp p e below _ s₁ (mkF m 7 #[.val (.int p0), .val (.int p1), .unset, .unset, .unset, .unset] [(.int (4 : Int32))])
    refine own_step (fun _ k => XS.istoreN X0.here hx rfl (hb hby at_7) rfl (l' := #[.val (.int p0), .val (.int p1), .val (.int (4 : Int32)), .unset, .unset, .unset]) rfl k) ?_
    show own_Wp p e below _ s₁ (mkF m 8 #[.val (.int p0), .val (.int p1), .val (.int (4 : Int32)), .unset, .unset, .unset] [])
    refine own_step (fun _ k => XS.iloadN X0.here hx rfl (hb hby at_8) rfl k) ?_
    show own_Wp p e below _ s₁ (mkF m 9 #[.val (.int p0), .val (.int p1), .val (.int (4 : Int32)), .unset, .unset, .unset] [(.int p1)])
    refine own_step (X0.ldcInt hx hown (mvT hZ (hw _ (List.mem_of_getElem? (i := 0) rfl))) (g := (mkF m 9 #[.val (.int p0), .val (.int p1), .val (.int (4 : Int32)), .unset, .unset, .unset] [(.int p1)])) rfl (hb hby at_9)) ?_
    show own_Wp p e below _ s₁ (mkF m 11 #[.val (.int p0), .val (.int p1), .val (.int (4 : Int32)), .unset, .unset, .unset] [(.int (2147483647 : Int32)), (.int p1)])
    refine own_step (fun _ k => XS.iand X0.here hx rfl (hb hby at_11) rfl k) ?_
    show own_Wp p e below _ s₁ (mkF m 12 #[.val (.int p0), .val (.int p1), .val (.int (4 : Int32)), .unset, .unset, .unset] [(.int (p1 &&& (2147483647 : Int32)))])
    refine own_step (fun _ k => XS.bipush X0.here hx rfl (hb hby at_12) k) ?_
    show own_Wp p e below _ s₁ (mkF m 14 #[.val (.int p0), .val (.int p1), .val (.int (4 : Int32)), .unset, .unset, .unset] [(.int (6 : Int32)), (.int (p1 &&& (2147483647 : Int32)))])
    refine own_step (fun _ k => iremM (g := (mkF m 14 #[.val (.int p0), .val (.int p1), .val (.int (4 : Int32)), .unset, .unset, .unset] [(.int (6 : Int32)), (.int (p1 &&& (2147483647 : Int32)))])) X0 hx rfl (hb hby at_14) rfl (by decide) k) ?_
    show own_Wp p e below _ s₁ (mkF m 15 #[.val (.int p0), .val (.int p1), .val (.int (4 : Int32)), .unset, .unset, .unset] [(.int ((p1 &&& (2147483647 : Int32)) % (6 : Int32)))])
    rcases own_mod6 p1 with hm | hm | hm | hm | hm | hm
    · skip
      rw [hm]
      show own_Wp p e below _ s₁ (mkF m 15 #[.val (.int p0), .val (.int p1), .val (.int (4 : Int32)), .unset, .unset, .unset] [(.int (0 : Int32))])
      refine own_step (fun _ k => XS.istoreN X0.here hx rfl (hb hby at_15) rfl (l' := #[.val (.int p0), .val (.int p1), .val (.int (4 : Int32)), .val (.int (0 : Int32)), .unset, .unset]) rfl k) ?_
      show own_Wp p e below _ s₁ (mkF m 16 #[.val (.int p0), .val (.int p1), .val (.int (4 : Int32)), .val (.int (0 : Int32)), .unset, .unset] [])
      refine own_step (fun _ k => XS.iloadN X0.here hx rfl (hb hby at_16) rfl k) ?_
      show own_Wp p e below _ s₁ (mkF m 17 #[.val (.int p0), .val (.int p1), .val (.int (4 : Int32)), .val (.int (0 : Int32)), .unset, .unset] [(.int (4 : Int32))])
      obtain ⟨_, T97, L97, X97, hQ97, st97⟩ := own_callS X0 hx hZ hown (hw _ (List.mem_of_getElem? (i := 1) rfl)) (hw _ (List.mem_of_getElem? (i := 2) rfl)) (hw _ (List.mem_of_getElem? (i := 3) rfl)) (hw _ (List.mem_of_getElem? (i := 4) rfl)) (by decide) (rm1_17 l Z a0 hw hA [] h0 n0 O0) (W := 0) (by decide) (by decide) [(.int (4 : Int32))] rfl (lenOf pd1 rfl) (Ls := #[.val (.int p0), .val (.int p1), .val (.int (4 : Int32)), .val (.int (0 : Int32)), .unset, .unset]) (by rw [hml]; rfl) (rest := []) (Nat.le_of_eq rfl) (hb hby at_17) e0 (by decide) (by decide)
      refine st97 _ ?_
      obtain ⟨rfl, N97q, e97⟩ := hQ97
      have N97 := Fr.app (Fr.nil n0) N97q
      show own_Wp p e below _ T97 (mkF m 20 #[.val (.int p0), .val (.int p1), .val (.int (4 : Int32)), .val (.int (0 : Int32)), .unset, .unset] [(.ref (w5_UDP Z))])
      refine own_step (fun _ k => XS.astore X97.here hx rfl (hb hby at_20) rfl rfl (l' := #[.val (.int p0), .val (.int p1), .val (.int (4 : Int32)), .val (.int (0 : Int32)), .val (.ref (w5_UDP Z)), .unset]) rfl k) ?_
      show own_Wp p e below _ T97 (mkF m 22 #[.val (.int p0), .val (.int p1), .val (.int (4 : Int32)), .val (.int (0 : Int32)), .val (.ref (w5_UDP Z)), .unset] [])
      refine own_step (fun _ k => XS.iloadN X97.here hx rfl (hb hby at_22) rfl k) ?_
      show own_Wp p e below _ T97 (mkF m 23 #[.val (.int p0), .val (.int p1), .val (.int (4 : Int32)), .val (.int (0 : Int32)), .val (.ref (w5_UDP Z)), .unset] [(.int (0 : Int32))])
      obtain ⟨_, T98, L98, X98, hQ98, st98⟩ := own_callS X97 hx hZ hown (hw _ (List.mem_of_getElem? (i := 1) rfl)) (hw _ (List.mem_of_getElem? (i := 2) rfl)) (hw _ (List.mem_of_getElem? (i := 3) rfl)) (hw _ (List.mem_of_getElem? (i := 4) rfl)) (by decide) (rm1_0 l Z a0 hw hA [] h0 n0 O0) (W := 0) (by decide) (by decide) [(.int (0 : Int32))] rfl (lenOf pd1 rfl) (Ls := #[.val (.int p0), .val (.int p1), .val (.int (4 : Int32)), .val (.int (0 : Int32)), .val (.ref (w5_UDP Z)), .unset]) (by rw [hml]; rfl) (rest := []) (Nat.le_of_eq rfl) (hb hby at_23) e97 (by decide) (by decide)
      refine st98 _ ?_
      obtain ⟨rfl, N98q, e98⟩ := hQ98
      have N98 := Fr.app N97 N98q
      show own_Wp p e below _ T98 (mkF m 26 #[.val (.int p0), .val (.int p1), .val (.int (4 : Int32)), .val (.int (0 : Int32)), .val (.ref (w5_UDP Z)), .unset] [(.ref (w0_IPV4 Z))])
      refine own_step (fun _ k => XS.astore X98.here hx rfl (hb hby at_26) rfl rfl (l' := #[.val (.int p0), .val (.int p1), .val (.int (4 : Int32)), .val (.int (0 : Int32)), .val (.ref (w5_UDP Z)), .val (.ref (w0_IPV4 Z))]) rfl k) ?_
      show own_Wp p e below _ T98 (mkF m 28 #[.val (.int p0), .val (.int p1), .val (.int (4 : Int32)), .val (.int (0 : Int32)), .val (.ref (w5_UDP Z)), .val (.ref (w0_IPV4 Z))] [])
      refine own_step (fun _ k => XS.aload X98.here hx rfl (hb hby at_28) rfl rfl k) ?_
      show own_Wp p e below _ T98 (mkF m 30 #[.val (.int p0), .val (.int p1), .val (.int (4 : Int32)), .val (.int (0 : Int32)), .val (.ref (w5_UDP Z)), .val (.ref (w0_IPV4 Z))] [(.ref (w5_UDP Z))])
      refine own_step (fun _ k => XS.aload X98.here hx rfl (hb hby at_30) rfl rfl k) ?_
      show own_Wp p e below _ T98 (mkF m 32 #[.val (.int p0), .val (.int p1), .val (.int (4 : Int32)), .val (.int (0 : Int32)), .val (.ref (w5_UDP Z)), .val (.ref (w0_IPV4 Z))] [(.ref (w0_IPV4 Z)), (.ref (w5_UDP Z))])
      obtain ⟨_, T99, L99, X99, hQ99, st99⟩ := own_callV X98 hx hZ hown (hw _ (List.mem_of_getElem? (i := 10) rfl)) (hw _ (List.mem_of_getElem? (i := 11) rfl)) (notFace_of_selects (args := #[]) (mvT hZ (hw _ (List.mem_of_getElem? (i := 13) rfl)))) (hw _ (List.mem_of_getElem? (i := 13) rfl)) (hw _ (List.mem_of_getElem? (i := 12) rfl)) (hw _ (List.mem_of_getElem? (i := 6) rfl)) (hw _ (List.mem_of_getElem? (i := 14) rfl)) (by decide) ((ex_w5_UDP hw hA).ext O0.2) (rm2_44 l Z a0 hw hA [] (w5_UDP Z) (w0_IPV4 Z) h0 n0 O0 (fl5 hw hA) (fl0 hw hA) (Fld.ne (fl6 hw hA) (fl7 hw hA) (by decide)) (fl8 hw hA) (fl9 hw hA)) (W := 0) (by decide) (by decide) [(.ref (w0_IPV4 Z))] rfl (lenOf pd3 rfl) (Ls := #[.val (.int p0), .val (.int p1), .val (.int (4 : Int32)), .val (.int (0 : Int32)), .val (.ref (w5_UDP Z)), .val (.ref (w0_IPV4 Z))]) (by rw [hml]; rfl) (rest := []) (Nat.le_of_eq rfl) (hb hby at_32) e98 (by decide) (by decide)
      refine st99 _ ?_
      obtain ⟨rfl, N99q, e99⟩ := hQ99
      have N99 := Fr.app N98 N99q
      show own_Wp p e below _ T99 (mkF m 35 #[.val (.int p0), .val (.int p1), .val (.int (4 : Int32)), .val (.int (0 : Int32)), .val (.ref (w5_UDP Z)), .val (.ref (w0_IPV4 Z))] [(.int (1 : Int32))])
      refine own_step (fun _ k => XS.iloadN X99.here hx rfl (hb hby at_35) rfl k) ?_
      show own_Wp p e below _ T99 (mkF m 36 #[.val (.int p0), .val (.int p1), .val (.int (4 : Int32)), .val (.int (0 : Int32)), .val (.ref (w5_UDP Z)), .val (.ref (w0_IPV4 Z))] [(.int (4 : Int32)), (.int (1 : Int32))])
      refine own_step (fun _ k => XS.iloadN X99.here hx rfl (hb hby at_36) rfl k) ?_
      show own_Wp p e below _ T99 (mkF m 37 #[.val (.int p0), .val (.int p1), .val (.int (4 : Int32)), .val (.int (0 : Int32)), .val (.ref (w5_UDP Z)), .val (.ref (w0_IPV4 Z))] [(.int (0 : Int32)), (.int (4 : Int32)), (.int (1 : Int32))])
      obtain ⟨_, T100, L100, X100, hQ100, st100⟩ := own_callS X99 hx hZ hown (hw _ (List.mem_of_getElem? (i := 17) rfl)) (hw _ (List.mem_of_getElem? (i := 18) rfl)) (hw _ (List.mem_of_getElem? (i := 3) rfl)) (hw _ (List.mem_of_getElem? (i := 19) rfl)) (by decide) (rm3_82 l Z a0 hw hA [] h0 n0 O0) (W := 1) (by decide) (by decide) [(.int (4 : Int32)), (.int (0 : Int32))] rfl (lenOf pd4 rfl) (Ls := #[.val (.int p0), .val (.int p1), .val (.int (4 : Int32)), .val (.int (0 : Int32)), .val (.ref (w5_UDP Z)), .val (.ref (w0_IPV4 Z))]) (by rw [hml]; rfl) (rest := [(.int (1 : Int32))]) (Nat.le_of_eq rfl) (hb hby at_37) e99 (by decide) (by decide)
      refine st100 _ ?_
      obtain ⟨rfl, N100q, e100⟩ := hQ100
      have N100 := Fr.app N99 N100q
      show own_Wp p e below _ T100 (mkF m 40 #[.val (.int p0), .val (.int p1), .val (.int (4 : Int32)), .val (.int (0 : Int32)), .val (.ref (w5_UDP Z)), .val (.ref (w0_IPV4 Z))] [(.int (1 : Int32)), (.int (1 : Int32))])
      refine own_step (fun _ k => XS.icmpNo X100.here hx rfl (hb hby at_40) rfl (by decide) k) ?_
      show own_Wp p e below _ T100 (mkF m 43 #[.val (.int p0), .val (.int p1), .val (.int (4 : Int32)), .val (.int (0 : Int32)), .val (.ref (w5_UDP Z)), .val (.ref (w0_IPV4 Z))] [])
      refine own_step (fun _ k => XS.iconst X100.here hx rfl (hb hby at_43) k) ?_
      show own_Wp p e below _ T100 (mkF m 44 #[.val (.int p0), .val (.int p1), .val (.int (4 : Int32)), .val (.int (0 : Int32)), .val (.ref (w5_UDP Z)), .val (.ref (w0_IPV4 Z))] [(.int (1 : Int32))])
      refine own_step (fun _ k => XS.goto X100.here hx rfl (pc0 := 44) (pc' := 48) rfl (hb hby at_44) (by decide) (by decide) k) ?_
      show own_Wp p e below _ T100 (mkF m 48 #[.val (.int p0), .val (.int p1), .val (.int (4 : Int32)), .val (.int (0 : Int32)), .val (.ref (w5_UDP Z)), .val (.ref (w0_IPV4 Z))] [(.int (1 : Int32))])
      exact own_retN X100 hx (t := .boolean) hret (by simp) hlk (hb hby at_48) (by decide) (by decide) ⟨rfl, N100⟩
    · skip
      rw [hm]
      show own_Wp p e below _ s₁ (mkF m 15 #[.val (.int p0), .val (.int p1), .val (.int (4 : Int32)), .unset, .unset, .unset] [(.int (1 : Int32))])
      refine own_step (fun _ k => XS.istoreN X0.here hx rfl (hb hby at_15) rfl (l' := #[.val (.int p0), .val (.int p1), .val (.int (4 : Int32)), .val (.int (1 : Int32)), .unset, .unset]) rfl k) ?_
      show own_Wp p e below _ s₁ (mkF m 16 #[.val (.int p0), .val (.int p1), .val (.int (4 : Int32)), .val (.int (1 : Int32)), .unset, .unset] [])
      refine own_step (fun _ k => XS.iloadN X0.here hx rfl (hb hby at_16) rfl k) ?_
      show own_Wp p e below _ s₁ (mkF m 17 #[.val (.int p0), .val (.int p1), .val (.int (4 : Int32)), .val (.int (1 : Int32)), .unset, .unset] [(.int (4 : Int32))])
      obtain ⟨_, T101, L101, X101, hQ101, st101⟩ := own_callS X0 hx hZ hown (hw _ (List.mem_of_getElem? (i := 1) rfl)) (hw _ (List.mem_of_getElem? (i := 2) rfl)) (hw _ (List.mem_of_getElem? (i := 3) rfl)) (hw _ (List.mem_of_getElem? (i := 4) rfl)) (by decide) (rm1_17 l Z a0 hw hA [] h0 n0 O0) (W := 0) (by decide) (by decide) [(.int (4 : Int32))] rfl (lenOf pd1 rfl) (Ls := #[.val (.int p0), .val (.int p1), .val (.int (4 : Int32)), .val (.int (1 : Int32)), .unset, .unset]) (by rw [hml]; rfl) (rest := []) (Nat.le_of_eq rfl) (hb hby at_17) e0 (by decide) (by decide)
      refine st101 _ ?_
      obtain ⟨rfl, N101q, e101⟩ := hQ101
      have N101 := Fr.app (Fr.nil n0) N101q
      show own_Wp p e below _ T101 (mkF m 20 #[.val (.int p0), .val (.int p1), .val (.int (4 : Int32)), .val (.int (1 : Int32)), .unset, .unset] [(.ref (w5_UDP Z))])
      refine own_step (fun _ k => XS.astore X101.here hx rfl (hb hby at_20) rfl rfl (l' := #[.val (.int p0), .val (.int p1), .val (.int (4 : Int32)), .val (.int (1 : Int32)), .val (.ref (w5_UDP Z)), .unset]) rfl k) ?_
      show own_Wp p e below _ T101 (mkF m 22 #[.val (.int p0), .val (.int p1), .val (.int (4 : Int32)), .val (.int (1 : Int32)), .val (.ref (w5_UDP Z)), .unset] [])
      refine own_step (fun _ k => XS.iloadN X101.here hx rfl (hb hby at_22) rfl k) ?_
      show own_Wp p e below _ T101 (mkF m 23 #[.val (.int p0), .val (.int p1), .val (.int (4 : Int32)), .val (.int (1 : Int32)), .val (.ref (w5_UDP Z)), .unset] [(.int (1 : Int32))])
      obtain ⟨_, T102, L102, X102, hQ102, st102⟩ := own_callS X101 hx hZ hown (hw _ (List.mem_of_getElem? (i := 1) rfl)) (hw _ (List.mem_of_getElem? (i := 2) rfl)) (hw _ (List.mem_of_getElem? (i := 3) rfl)) (hw _ (List.mem_of_getElem? (i := 4) rfl)) (by decide) (rm1_3 l Z a0 hw hA [] h0 n0 O0) (W := 0) (by decide) (by decide) [(.int (1 : Int32))] rfl (lenOf pd1 rfl) (Ls := #[.val (.int p0), .val (.int p1), .val (.int (4 : Int32)), .val (.int (1 : Int32)), .val (.ref (w5_UDP Z)), .unset]) (by rw [hml]; rfl) (rest := []) (Nat.le_of_eq rfl) (hb hby at_23) e101 (by decide) (by decide)
      refine st102 _ ?_
      obtain ⟨rfl, N102q, e102⟩ := hQ102
      have N102 := Fr.app N101 N102q
      show own_Wp p e below _ T102 (mkF m 26 #[.val (.int p0), .val (.int p1), .val (.int (4 : Int32)), .val (.int (1 : Int32)), .val (.ref (w5_UDP Z)), .unset] [(.ref (w3_IPV6 Z))])
      refine own_step (fun _ k => XS.astore X102.here hx rfl (hb hby at_26) rfl rfl (l' := #[.val (.int p0), .val (.int p1), .val (.int (4 : Int32)), .val (.int (1 : Int32)), .val (.ref (w5_UDP Z)), .val (.ref (w3_IPV6 Z))]) rfl k) ?_
      show own_Wp p e below _ T102 (mkF m 28 #[.val (.int p0), .val (.int p1), .val (.int (4 : Int32)), .val (.int (1 : Int32)), .val (.ref (w5_UDP Z)), .val (.ref (w3_IPV6 Z))] [])
      refine own_step (fun _ k => XS.aload X102.here hx rfl (hb hby at_28) rfl rfl k) ?_
      show own_Wp p e below _ T102 (mkF m 30 #[.val (.int p0), .val (.int p1), .val (.int (4 : Int32)), .val (.int (1 : Int32)), .val (.ref (w5_UDP Z)), .val (.ref (w3_IPV6 Z))] [(.ref (w5_UDP Z))])
      refine own_step (fun _ k => XS.aload X102.here hx rfl (hb hby at_30) rfl rfl k) ?_
      show own_Wp p e below _ T102 (mkF m 32 #[.val (.int p0), .val (.int p1), .val (.int (4 : Int32)), .val (.int (1 : Int32)), .val (.ref (w5_UDP Z)), .val (.ref (w3_IPV6 Z))] [(.ref (w3_IPV6 Z)), (.ref (w5_UDP Z))])
      obtain ⟨_, T103, L103, X103, hQ103, st103⟩ := own_callV X102 hx hZ hown (hw _ (List.mem_of_getElem? (i := 10) rfl)) (hw _ (List.mem_of_getElem? (i := 11) rfl)) (notFace_of_selects (args := #[]) (mvT hZ (hw _ (List.mem_of_getElem? (i := 13) rfl)))) (hw _ (List.mem_of_getElem? (i := 13) rfl)) (hw _ (List.mem_of_getElem? (i := 12) rfl)) (hw _ (List.mem_of_getElem? (i := 6) rfl)) (hw _ (List.mem_of_getElem? (i := 14) rfl)) (by decide) ((ex_w5_UDP hw hA).ext O0.2) (rm2_4 l Z a0 hw hA [] (w5_UDP Z) (w3_IPV6 Z) h0 n0 O0 (fl5 hw hA) (fl3 hw hA)) (W := 0) (by decide) (by decide) [(.ref (w3_IPV6 Z))] rfl (lenOf pd3 rfl) (Ls := #[.val (.int p0), .val (.int p1), .val (.int (4 : Int32)), .val (.int (1 : Int32)), .val (.ref (w5_UDP Z)), .val (.ref (w3_IPV6 Z))]) (by rw [hml]; rfl) (rest := []) (Nat.le_of_eq rfl) (hb hby at_32) e102 (by decide) (by decide)
      refine st103 _ ?_
      obtain ⟨rfl, N103q, e103⟩ := hQ103
      have N103 := Fr.app N102 N103q
      show own_Wp p e below _ T103 (mkF m 35 #[.val (.int p0), .val (.int p1), .val (.int (4 : Int32)), .val (.int (1 : Int32)), .val (.ref (w5_UDP Z)), .val (.ref (w3_IPV6 Z))] [(.int (0 : Int32))])
      refine own_step (fun _ k => XS.iloadN X103.here hx rfl (hb hby at_35) rfl k) ?_
      show own_Wp p e below _ T103 (mkF m 36 #[.val (.int p0), .val (.int p1), .val (.int (4 : Int32)), .val (.int (1 : Int32)), .val (.ref (w5_UDP Z)), .val (.ref (w3_IPV6 Z))] [(.int (4 : Int32)), (.int (0 : Int32))])
      refine own_step (fun _ k => XS.iloadN X103.here hx rfl (hb hby at_36) rfl k) ?_
      show own_Wp p e below _ T103 (mkF m 37 #[.val (.int p0), .val (.int p1), .val (.int (4 : Int32)), .val (.int (1 : Int32)), .val (.ref (w5_UDP Z)), .val (.ref (w3_IPV6 Z))] [(.int (1 : Int32)), (.int (4 : Int32)), (.int (0 : Int32))])
      obtain ⟨_, T104, L104, X104, hQ104, st104⟩ := own_callS X103 hx hZ hown (hw _ (List.mem_of_getElem? (i := 17) rfl)) (hw _ (List.mem_of_getElem? (i := 18) rfl)) (hw _ (List.mem_of_getElem? (i := 3) rfl)) (hw _ (List.mem_of_getElem? (i := 19) rfl)) (by decide) (rm3_85 l Z a0 hw hA [] h0 n0 O0) (W := 1) (by decide) (by decide) [(.int (4 : Int32)), (.int (1 : Int32))] rfl (lenOf pd4 rfl) (Ls := #[.val (.int p0), .val (.int p1), .val (.int (4 : Int32)), .val (.int (1 : Int32)), .val (.ref (w5_UDP Z)), .val (.ref (w3_IPV6 Z))]) (by rw [hml]; rfl) (rest := [(.int (0 : Int32))]) (Nat.le_of_eq rfl) (hb hby at_37) e103 (by decide) (by decide)
      refine st104 _ ?_
      obtain ⟨rfl, N104q, e104⟩ := hQ104
      have N104 := Fr.app N103 N104q
      show own_Wp p e below _ T104 (mkF m 40 #[.val (.int p0), .val (.int p1), .val (.int (4 : Int32)), .val (.int (1 : Int32)), .val (.ref (w5_UDP Z)), .val (.ref (w3_IPV6 Z))] [(.int (0 : Int32)), (.int (0 : Int32))])
      refine own_step (fun _ k => XS.icmpNo X104.here hx rfl (hb hby at_40) rfl (by decide) k) ?_
      show own_Wp p e below _ T104 (mkF m 43 #[.val (.int p0), .val (.int p1), .val (.int (4 : Int32)), .val (.int (1 : Int32)), .val (.ref (w5_UDP Z)), .val (.ref (w3_IPV6 Z))] [])
      refine own_step (fun _ k => XS.iconst X104.here hx rfl (hb hby at_43) k) ?_
      show own_Wp p e below _ T104 (mkF m 44 #[.val (.int p0), .val (.int p1), .val (.int (4 : Int32)), .val (.int (1 : Int32)), .val (.ref (w5_UDP Z)), .val (.ref (w3_IPV6 Z))] [(.int (1 : Int32))])
      refine own_step (fun _ k => XS.goto X104.here hx rfl (pc0 := 44) (pc' := 48) rfl (hb hby at_44) (by decide) (by decide) k) ?_
      show own_Wp p e below _ T104 (mkF m 48 #[.val (.int p0), .val (.int p1), .val (.int (4 : Int32)), .val (.int (1 : Int32)), .val (.ref (w5_UDP Z)), .val (.ref (w3_IPV6 Z))] [(.int (1 : Int32))])
      exact own_retN X104 hx (t := .boolean) hret (by simp) hlk (hb hby at_48) (by decide) (by decide) ⟨rfl, N104⟩
    · skip
      rw [hm]
      show own_Wp p e below _ s₁ (mkF m 15 #[.val (.int p0), .val (.int p1), .val (.int (4 : Int32)), .unset, .unset, .unset] [(.int (2 : Int32))])
      refine own_step (fun _ k => XS.istoreN X0.here hx rfl (hb hby at_15) rfl (l' := #[.val (.int p0), .val (.int p1), .val (.int (4 : Int32)), .val (.int (2 : Int32)), .unset, .unset]) rfl k) ?_
      show own_Wp p e below _ s₁ (mkF m 16 #[.val (.int p0), .val (.int p1), .val (.int (4 : Int32)), .val (.int (2 : Int32)), .unset, .unset] [])
      refine own_step (fun _ k => XS.iloadN X0.here hx rfl (hb hby at_16) rfl k) ?_
      show own_Wp p e below _ s₁ (mkF m 17 #[.val (.int p0), .val (.int p1), .val (.int (4 : Int32)), .val (.int (2 : Int32)), .unset, .unset] [(.int (4 : Int32))])
      obtain ⟨_, T105, L105, X105, hQ105, st105⟩ := own_callS X0 hx hZ hown (hw _ (List.mem_of_getElem? (i := 1) rfl)) (hw _ (List.mem_of_getElem? (i := 2) rfl)) (hw _ (List.mem_of_getElem? (i := 3) rfl)) (hw _ (List.mem_of_getElem? (i := 4) rfl)) (by decide) (rm1_17 l Z a0 hw hA [] h0 n0 O0) (W := 0) (by decide) (by decide) [(.int (4 : Int32))] rfl (lenOf pd1 rfl) (Ls := #[.val (.int p0), .val (.int p1), .val (.int (4 : Int32)), .val (.int (2 : Int32)), .unset, .unset]) (by rw [hml]; rfl) (rest := []) (Nat.le_of_eq rfl) (hb hby at_17) e0 (by decide) (by decide)
      refine st105 _ ?_
      obtain ⟨rfl, N105q, e105⟩ := hQ105
      have N105 := Fr.app (Fr.nil n0) N105q
      show own_Wp p e below _ T105 (mkF m 20 #[.val (.int p0), .val (.int p1), .val (.int (4 : Int32)), .val (.int (2 : Int32)), .unset, .unset] [(.ref (w5_UDP Z))])
      refine own_step (fun _ k => XS.astore X105.here hx rfl (hb hby at_20) rfl rfl (l' := #[.val (.int p0), .val (.int p1), .val (.int (4 : Int32)), .val (.int (2 : Int32)), .val (.ref (w5_UDP Z)), .unset]) rfl k) ?_
      show own_Wp p e below _ T105 (mkF m 22 #[.val (.int p0), .val (.int p1), .val (.int (4 : Int32)), .val (.int (2 : Int32)), .val (.ref (w5_UDP Z)), .unset] [])
      refine own_step (fun _ k => XS.iloadN X105.here hx rfl (hb hby at_22) rfl k) ?_
      show own_Wp p e below _ T105 (mkF m 23 #[.val (.int p0), .val (.int p1), .val (.int (4 : Int32)), .val (.int (2 : Int32)), .val (.ref (w5_UDP Z)), .unset] [(.int (2 : Int32))])
      obtain ⟨_, T106, L106, X106, hQ106, st106⟩ := own_callS X105 hx hZ hown (hw _ (List.mem_of_getElem? (i := 1) rfl)) (hw _ (List.mem_of_getElem? (i := 2) rfl)) (hw _ (List.mem_of_getElem? (i := 3) rfl)) (hw _ (List.mem_of_getElem? (i := 4) rfl)) (by decide) (rm1_8 l Z a0 hw hA [] h0 n0 O0) (W := 0) (by decide) (by decide) [(.int (2 : Int32))] rfl (lenOf pd1 rfl) (Ls := #[.val (.int p0), .val (.int p1), .val (.int (4 : Int32)), .val (.int (2 : Int32)), .val (.ref (w5_UDP Z)), .unset]) (by rw [hml]; rfl) (rest := []) (Nat.le_of_eq rfl) (hb hby at_23) e105 (by decide) (by decide)
      refine st106 _ ?_
      obtain ⟨rfl, N106q, e106⟩ := hQ106
      have N106 := Fr.app N105 N106q
      show own_Wp p e below _ T106 (mkF m 26 #[.val (.int p0), .val (.int p1), .val (.int (4 : Int32)), .val (.int (2 : Int32)), .val (.ref (w5_UDP Z)), .unset] [(.ref (w2_TCP Z))])
      refine own_step (fun _ k => XS.astore X106.here hx rfl (hb hby at_26) rfl rfl (l' := #[.val (.int p0), .val (.int p1), .val (.int (4 : Int32)), .val (.int (2 : Int32)), .val (.ref (w5_UDP Z)), .val (.ref (w2_TCP Z))]) rfl k) ?_
      show own_Wp p e below _ T106 (mkF m 28 #[.val (.int p0), .val (.int p1), .val (.int (4 : Int32)), .val (.int (2 : Int32)), .val (.ref (w5_UDP Z)), .val (.ref (w2_TCP Z))] [])
      refine own_step (fun _ k => XS.aload X106.here hx rfl (hb hby at_28) rfl rfl k) ?_
      show own_Wp p e below _ T106 (mkF m 30 #[.val (.int p0), .val (.int p1), .val (.int (4 : Int32)), .val (.int (2 : Int32)), .val (.ref (w5_UDP Z)), .val (.ref (w2_TCP Z))] [(.ref (w5_UDP Z))])
      refine own_step (fun _ k => XS.aload X106.here hx rfl (hb hby at_30) rfl rfl k) ?_
      show own_Wp p e below _ T106 (mkF m 32 #[.val (.int p0), .val (.int p1), .val (.int (4 : Int32)), .val (.int (2 : Int32)), .val (.ref (w5_UDP Z)), .val (.ref (w2_TCP Z))] [(.ref (w2_TCP Z)), (.ref (w5_UDP Z))])
      obtain ⟨_, T107, L107, X107, hQ107, st107⟩ := own_callV X106 hx hZ hown (hw _ (List.mem_of_getElem? (i := 10) rfl)) (hw _ (List.mem_of_getElem? (i := 11) rfl)) (notFace_of_selects (args := #[]) (mvT hZ (hw _ (List.mem_of_getElem? (i := 13) rfl)))) (hw _ (List.mem_of_getElem? (i := 13) rfl)) (hw _ (List.mem_of_getElem? (i := 12) rfl)) (hw _ (List.mem_of_getElem? (i := 6) rfl)) (hw _ (List.mem_of_getElem? (i := 14) rfl)) (by decide) ((ex_w5_UDP hw hA).ext O0.2) (rm2_55 l Z a0 hw hA [] (w5_UDP Z) (w2_TCP Z) h0 n0 O0 (fl5 hw hA) (fl2 hw hA) (Fld.ne (fl6 hw hA) (fl14 hw hA) (by decide)) (fl8 hw hA) (fl16 hw hA)) (W := 0) (by decide) (by decide) [(.ref (w2_TCP Z))] rfl (lenOf pd3 rfl) (Ls := #[.val (.int p0), .val (.int p1), .val (.int (4 : Int32)), .val (.int (2 : Int32)), .val (.ref (w5_UDP Z)), .val (.ref (w2_TCP Z))]) (by rw [hml]; rfl) (rest := []) (Nat.le_of_eq rfl) (hb hby at_32) e106 (by decide) (by decide)
      refine st107 _ ?_
      obtain ⟨rfl, N107q, e107⟩ := hQ107
      have N107 := Fr.app N106 N107q
      show own_Wp p e below _ T107 (mkF m 35 #[.val (.int p0), .val (.int p1), .val (.int (4 : Int32)), .val (.int (2 : Int32)), .val (.ref (w5_UDP Z)), .val (.ref (w2_TCP Z))] [(.int (0 : Int32))])
      refine own_step (fun _ k => XS.iloadN X107.here hx rfl (hb hby at_35) rfl k) ?_
      show own_Wp p e below _ T107 (mkF m 36 #[.val (.int p0), .val (.int p1), .val (.int (4 : Int32)), .val (.int (2 : Int32)), .val (.ref (w5_UDP Z)), .val (.ref (w2_TCP Z))] [(.int (4 : Int32)), (.int (0 : Int32))])
      refine own_step (fun _ k => XS.iloadN X107.here hx rfl (hb hby at_36) rfl k) ?_
      show own_Wp p e below _ T107 (mkF m 37 #[.val (.int p0), .val (.int p1), .val (.int (4 : Int32)), .val (.int (2 : Int32)), .val (.ref (w5_UDP Z)), .val (.ref (w2_TCP Z))] [(.int (2 : Int32)), (.int (4 : Int32)), (.int (0 : Int32))])
      obtain ⟨_, T108, L108, X108, hQ108, st108⟩ := own_callS X107 hx hZ hown (hw _ (List.mem_of_getElem? (i := 17) rfl)) (hw _ (List.mem_of_getElem? (i := 18) rfl)) (hw _ (List.mem_of_getElem? (i := 3) rfl)) (hw _ (List.mem_of_getElem? (i := 19) rfl)) (by decide) (rm3_88 l Z a0 hw hA [] h0 n0 O0) (W := 1) (by decide) (by decide) [(.int (4 : Int32)), (.int (2 : Int32))] rfl (lenOf pd4 rfl) (Ls := #[.val (.int p0), .val (.int p1), .val (.int (4 : Int32)), .val (.int (2 : Int32)), .val (.ref (w5_UDP Z)), .val (.ref (w2_TCP Z))]) (by rw [hml]; rfl) (rest := [(.int (0 : Int32))]) (Nat.le_of_eq rfl) (hb hby at_37) e107 (by decide) (by decide)
      refine st108 _ ?_
      obtain ⟨rfl, N108q, e108⟩ := hQ108
      have N108 := Fr.app N107 N108q
      show own_Wp p e below _ T108 (mkF m 40 #[.val (.int p0), .val (.int p1), .val (.int (4 : Int32)), .val (.int (2 : Int32)), .val (.ref (w5_UDP Z)), .val (.ref (w2_TCP Z))] [(.int (0 : Int32)), (.int (0 : Int32))])
      refine own_step (fun _ k => XS.icmpNo X108.here hx rfl (hb hby at_40) rfl (by decide) k) ?_
      show own_Wp p e below _ T108 (mkF m 43 #[.val (.int p0), .val (.int p1), .val (.int (4 : Int32)), .val (.int (2 : Int32)), .val (.ref (w5_UDP Z)), .val (.ref (w2_TCP Z))] [])
      refine own_step (fun _ k => XS.iconst X108.here hx rfl (hb hby at_43) k) ?_
      show own_Wp p e below _ T108 (mkF m 44 #[.val (.int p0), .val (.int p1), .val (.int (4 : Int32)), .val (.int (2 : Int32)), .val (.ref (w5_UDP Z)), .val (.ref (w2_TCP Z))] [(.int (1 : Int32))])
      refine own_step (fun _ k => XS.goto X108.here hx rfl (pc0 := 44) (pc' := 48) rfl (hb hby at_44) (by decide) (by decide) k) ?_
      show own_Wp p e below _ T108 (mkF m 48 #[.val (.int p0), .val (.int p1), .val (.int (4 : Int32)), .val (.int (2 : Int32)), .val (.ref (w5_UDP Z)), .val (.ref (w2_TCP Z))] [(.int (1 : Int32))])
      exact own_retN X108 hx (t := .boolean) hret (by simp) hlk (hb hby at_48) (by decide) (by decide) ⟨rfl, N108⟩
    · skip
      rw [hm]
      show own_Wp p e below _ s₁ (mkF m 15 #[.val (.int p0), .val (.int p1), .val (.int (4 : Int32)), .unset, .unset, .unset] [(.int (3 : Int32))])
      refine own_step (fun _ k => XS.istoreN X0.here hx rfl (hb hby at_15) rfl (l' := #[.val (.int p0), .val (.int p1), .val (.int (4 : Int32)), .val (.int (3 : Int32)), .unset, .unset]) rfl k) ?_
      show own_Wp p e below _ s₁ (mkF m 16 #[.val (.int p0), .val (.int p1), .val (.int (4 : Int32)), .val (.int (3 : Int32)), .unset, .unset] [])
      refine own_step (fun _ k => XS.iloadN X0.here hx rfl (hb hby at_16) rfl k) ?_
      show own_Wp p e below _ s₁ (mkF m 17 #[.val (.int p0), .val (.int p1), .val (.int (4 : Int32)), .val (.int (3 : Int32)), .unset, .unset] [(.int (4 : Int32))])
      obtain ⟨_, T109, L109, X109, hQ109, st109⟩ := own_callS X0 hx hZ hown (hw _ (List.mem_of_getElem? (i := 1) rfl)) (hw _ (List.mem_of_getElem? (i := 2) rfl)) (hw _ (List.mem_of_getElem? (i := 3) rfl)) (hw _ (List.mem_of_getElem? (i := 4) rfl)) (by decide) (rm1_17 l Z a0 hw hA [] h0 n0 O0) (W := 0) (by decide) (by decide) [(.int (4 : Int32))] rfl (lenOf pd1 rfl) (Ls := #[.val (.int p0), .val (.int p1), .val (.int (4 : Int32)), .val (.int (3 : Int32)), .unset, .unset]) (by rw [hml]; rfl) (rest := []) (Nat.le_of_eq rfl) (hb hby at_17) e0 (by decide) (by decide)
      refine st109 _ ?_
      obtain ⟨rfl, N109q, e109⟩ := hQ109
      have N109 := Fr.app (Fr.nil n0) N109q
      show own_Wp p e below _ T109 (mkF m 20 #[.val (.int p0), .val (.int p1), .val (.int (4 : Int32)), .val (.int (3 : Int32)), .unset, .unset] [(.ref (w5_UDP Z))])
      refine own_step (fun _ k => XS.astore X109.here hx rfl (hb hby at_20) rfl rfl (l' := #[.val (.int p0), .val (.int p1), .val (.int (4 : Int32)), .val (.int (3 : Int32)), .val (.ref (w5_UDP Z)), .unset]) rfl k) ?_
      show own_Wp p e below _ T109 (mkF m 22 #[.val (.int p0), .val (.int p1), .val (.int (4 : Int32)), .val (.int (3 : Int32)), .val (.ref (w5_UDP Z)), .unset] [])
      refine own_step (fun _ k => XS.iloadN X109.here hx rfl (hb hby at_22) rfl k) ?_
      show own_Wp p e below _ T109 (mkF m 23 #[.val (.int p0), .val (.int p1), .val (.int (4 : Int32)), .val (.int (3 : Int32)), .val (.ref (w5_UDP Z)), .unset] [(.int (3 : Int32))])
      obtain ⟨_, T110, L110, X110, hQ110, st110⟩ := own_callS X109 hx hZ hown (hw _ (List.mem_of_getElem? (i := 1) rfl)) (hw _ (List.mem_of_getElem? (i := 2) rfl)) (hw _ (List.mem_of_getElem? (i := 3) rfl)) (hw _ (List.mem_of_getElem? (i := 4) rfl)) (by decide) (rm1_13 l Z a0 hw hA [] h0 n0 O0) (W := 0) (by decide) (by decide) [(.int (3 : Int32))] rfl (lenOf pd1 rfl) (Ls := #[.val (.int p0), .val (.int p1), .val (.int (4 : Int32)), .val (.int (3 : Int32)), .val (.ref (w5_UDP Z)), .unset]) (by rw [hml]; rfl) (rest := []) (Nat.le_of_eq rfl) (hb hby at_23) e109 (by decide) (by decide)
      refine st110 _ ?_
      obtain ⟨rfl, N110q, e110⟩ := hQ110
      have N110 := Fr.app N109 N110q
      show own_Wp p e below _ T110 (mkF m 26 #[.val (.int p0), .val (.int p1), .val (.int (4 : Int32)), .val (.int (3 : Int32)), .val (.ref (w5_UDP Z)), .unset] [(.ref (w1_TCP6 Z))])
      refine own_step (fun _ k => XS.astore X110.here hx rfl (hb hby at_26) rfl rfl (l' := #[.val (.int p0), .val (.int p1), .val (.int (4 : Int32)), .val (.int (3 : Int32)), .val (.ref (w5_UDP Z)), .val (.ref (w1_TCP6 Z))]) rfl k) ?_
      show own_Wp p e below _ T110 (mkF m 28 #[.val (.int p0), .val (.int p1), .val (.int (4 : Int32)), .val (.int (3 : Int32)), .val (.ref (w5_UDP Z)), .val (.ref (w1_TCP6 Z))] [])
      refine own_step (fun _ k => XS.aload X110.here hx rfl (hb hby at_28) rfl rfl k) ?_
      show own_Wp p e below _ T110 (mkF m 30 #[.val (.int p0), .val (.int p1), .val (.int (4 : Int32)), .val (.int (3 : Int32)), .val (.ref (w5_UDP Z)), .val (.ref (w1_TCP6 Z))] [(.ref (w5_UDP Z))])
      refine own_step (fun _ k => XS.aload X110.here hx rfl (hb hby at_30) rfl rfl k) ?_
      show own_Wp p e below _ T110 (mkF m 32 #[.val (.int p0), .val (.int p1), .val (.int (4 : Int32)), .val (.int (3 : Int32)), .val (.ref (w5_UDP Z)), .val (.ref (w1_TCP6 Z))] [(.ref (w1_TCP6 Z)), (.ref (w5_UDP Z))])
      obtain ⟨_, T111, L111, X111, hQ111, st111⟩ := own_callV X110 hx hZ hown (hw _ (List.mem_of_getElem? (i := 10) rfl)) (hw _ (List.mem_of_getElem? (i := 11) rfl)) (notFace_of_selects (args := #[]) (mvT hZ (hw _ (List.mem_of_getElem? (i := 13) rfl)))) (hw _ (List.mem_of_getElem? (i := 13) rfl)) (hw _ (List.mem_of_getElem? (i := 12) rfl)) (hw _ (List.mem_of_getElem? (i := 6) rfl)) (hw _ (List.mem_of_getElem? (i := 14) rfl)) (by decide) ((ex_w5_UDP hw hA).ext O0.2) (rm2_4 l Z a0 hw hA [] (w5_UDP Z) (w1_TCP6 Z) h0 n0 O0 (fl5 hw hA) (fl1 hw hA)) (W := 0) (by decide) (by decide) [(.ref (w1_TCP6 Z))] rfl (lenOf pd3 rfl) (Ls := #[.val (.int p0), .val (.int p1), .val (.int (4 : Int32)), .val (.int (3 : Int32)), .val (.ref (w5_UDP Z)), .val (.ref (w1_TCP6 Z))]) (by rw [hml]; rfl) (rest := []) (Nat.le_of_eq rfl) (hb hby at_32) e110 (by decide) (by decide)
      refine st111 _ ?_
      obtain ⟨rfl, N111q, e111⟩ := hQ111
      have N111 := Fr.app N110 N111q
      show own_Wp p e below _ T111 (mkF m 35 #[.val (.int p0), .val (.int p1), .val (.int (4 : Int32)), .val (.int (3 : Int32)), .val (.ref (w5_UDP Z)), .val (.ref (w1_TCP6 Z))] [(.int (0 : Int32))])
      refine own_step (fun _ k => XS.iloadN X111.here hx rfl (hb hby at_35) rfl k) ?_
      show own_Wp p e below _ T111 (mkF m 36 #[.val (.int p0), .val (.int p1), .val (.int (4 : Int32)), .val (.int (3 : Int32)), .val (.ref (w5_UDP Z)), .val (.ref (w1_TCP6 Z))] [(.int (4 : Int32)), (.int (0 : Int32))])
      refine own_step (fun _ k => XS.iloadN X111.here hx rfl (hb hby at_36) rfl k) ?_
      show own_Wp p e below _ T111 (mkF m 37 #[.val (.int p0), .val (.int p1), .val (.int (4 : Int32)), .val (.int (3 : Int32)), .val (.ref (w5_UDP Z)), .val (.ref (w1_TCP6 Z))] [(.int (3 : Int32)), (.int (4 : Int32)), (.int (0 : Int32))])
      obtain ⟨_, T112, L112, X112, hQ112, st112⟩ := own_callS X111 hx hZ hown (hw _ (List.mem_of_getElem? (i := 17) rfl)) (hw _ (List.mem_of_getElem? (i := 18) rfl)) (hw _ (List.mem_of_getElem? (i := 3) rfl)) (hw _ (List.mem_of_getElem? (i := 19) rfl)) (by decide) (rm3_91 l Z a0 hw hA [] h0 n0 O0) (W := 1) (by decide) (by decide) [(.int (4 : Int32)), (.int (3 : Int32))] rfl (lenOf pd4 rfl) (Ls := #[.val (.int p0), .val (.int p1), .val (.int (4 : Int32)), .val (.int (3 : Int32)), .val (.ref (w5_UDP Z)), .val (.ref (w1_TCP6 Z))]) (by rw [hml]; rfl) (rest := [(.int (0 : Int32))]) (Nat.le_of_eq rfl) (hb hby at_37) e111 (by decide) (by decide)
      refine st112 _ ?_
      obtain ⟨rfl, N112q, e112⟩ := hQ112
      have N112 := Fr.app N111 N112q
      show own_Wp p e below _ T112 (mkF m 40 #[.val (.int p0), .val (.int p1), .val (.int (4 : Int32)), .val (.int (3 : Int32)), .val (.ref (w5_UDP Z)), .val (.ref (w1_TCP6 Z))] [(.int (0 : Int32)), (.int (0 : Int32))])
      refine own_step (fun _ k => XS.icmpNo X112.here hx rfl (hb hby at_40) rfl (by decide) k) ?_
      show own_Wp p e below _ T112 (mkF m 43 #[.val (.int p0), .val (.int p1), .val (.int (4 : Int32)), .val (.int (3 : Int32)), .val (.ref (w5_UDP Z)), .val (.ref (w1_TCP6 Z))] [])
      refine own_step (fun _ k => XS.iconst X112.here hx rfl (hb hby at_43) k) ?_
      show own_Wp p e below _ T112 (mkF m 44 #[.val (.int p0), .val (.int p1), .val (.int (4 : Int32)), .val (.int (3 : Int32)), .val (.ref (w5_UDP Z)), .val (.ref (w1_TCP6 Z))] [(.int (1 : Int32))])
      refine own_step (fun _ k => XS.goto X112.here hx rfl (pc0 := 44) (pc' := 48) rfl (hb hby at_44) (by decide) (by decide) k) ?_
      show own_Wp p e below _ T112 (mkF m 48 #[.val (.int p0), .val (.int p1), .val (.int (4 : Int32)), .val (.int (3 : Int32)), .val (.ref (w5_UDP Z)), .val (.ref (w1_TCP6 Z))] [(.int (1 : Int32))])
      exact own_retN X112 hx (t := .boolean) hret (by simp) hlk (hb hby at_48) (by decide) (by decide) ⟨rfl, N112⟩
    · skip
      rw [hm]
      show own_Wp p e below _ s₁ (mkF m 15 #[.val (.int p0), .val (.int p1), .val (.int (4 : Int32)), .unset, .unset, .unset] [(.int (4 : Int32))])
      refine own_step (fun _ k => XS.istoreN X0.here hx rfl (hb hby at_15) rfl (l' := #[.val (.int p0), .val (.int p1), .val (.int (4 : Int32)), .val (.int (4 : Int32)), .unset, .unset]) rfl k) ?_
      show own_Wp p e below _ s₁ (mkF m 16 #[.val (.int p0), .val (.int p1), .val (.int (4 : Int32)), .val (.int (4 : Int32)), .unset, .unset] [])
      refine own_step (fun _ k => XS.iloadN X0.here hx rfl (hb hby at_16) rfl k) ?_
      show own_Wp p e below _ s₁ (mkF m 17 #[.val (.int p0), .val (.int p1), .val (.int (4 : Int32)), .val (.int (4 : Int32)), .unset, .unset] [(.int (4 : Int32))])
      obtain ⟨_, T113, L113, X113, hQ113, st113⟩ := own_callS X0 hx hZ hown (hw _ (List.mem_of_getElem? (i := 1) rfl)) (hw _ (List.mem_of_getElem? (i := 2) rfl)) (hw _ (List.mem_of_getElem? (i := 3) rfl)) (hw _ (List.mem_of_getElem? (i := 4) rfl)) (by decide) (rm1_17 l Z a0 hw hA [] h0 n0 O0) (W := 0) (by decide) (by decide) [(.int (4 : Int32))] rfl (lenOf pd1 rfl) (Ls := #[.val (.int p0), .val (.int p1), .val (.int (4 : Int32)), .val (.int (4 : Int32)), .unset, .unset]) (by rw [hml]; rfl) (rest := []) (Nat.le_of_eq rfl) (hb hby at_17) e0 (by decide) (by decide)
      refine st113 _ ?_
      obtain ⟨rfl, N113q, e113⟩ := hQ113
      have N113 := Fr.app (Fr.nil n0) N113q
      show own_Wp p e below _ T113 (mkF m 20 #[.val (.int p0), .val (.int p1), .val (.int (4 : Int32)), .val (.int (4 : Int32)), .unset, .unset] [(.ref (w5_UDP Z))])
      refine own_step (fun _ k => XS.astore X113.here hx rfl (hb hby at_20) rfl rfl (l' := #[.val (.int p0), .val (.int p1), .val (.int (4 : Int32)), .val (.int (4 : Int32)), .val (.ref (w5_UDP Z)), .unset]) rfl k) ?_
      show own_Wp p e below _ T113 (mkF m 22 #[.val (.int p0), .val (.int p1), .val (.int (4 : Int32)), .val (.int (4 : Int32)), .val (.ref (w5_UDP Z)), .unset] [])
      refine own_step (fun _ k => XS.iloadN X113.here hx rfl (hb hby at_22) rfl k) ?_
      show own_Wp p e below _ T113 (mkF m 23 #[.val (.int p0), .val (.int p1), .val (.int (4 : Int32)), .val (.int (4 : Int32)), .val (.ref (w5_UDP Z)), .unset] [(.int (4 : Int32))])
      obtain ⟨_, T114, L114, X114, hQ114, st114⟩ := own_callS X113 hx hZ hown (hw _ (List.mem_of_getElem? (i := 1) rfl)) (hw _ (List.mem_of_getElem? (i := 2) rfl)) (hw _ (List.mem_of_getElem? (i := 3) rfl)) (hw _ (List.mem_of_getElem? (i := 4) rfl)) (by decide) (rm1_17 l Z a0 hw hA [] h0 n0 O0) (W := 0) (by decide) (by decide) [(.int (4 : Int32))] rfl (lenOf pd1 rfl) (Ls := #[.val (.int p0), .val (.int p1), .val (.int (4 : Int32)), .val (.int (4 : Int32)), .val (.ref (w5_UDP Z)), .unset]) (by rw [hml]; rfl) (rest := []) (Nat.le_of_eq rfl) (hb hby at_23) e113 (by decide) (by decide)
      refine st114 _ ?_
      obtain ⟨rfl, N114q, e114⟩ := hQ114
      have N114 := Fr.app N113 N114q
      show own_Wp p e below _ T114 (mkF m 26 #[.val (.int p0), .val (.int p1), .val (.int (4 : Int32)), .val (.int (4 : Int32)), .val (.ref (w5_UDP Z)), .unset] [(.ref (w5_UDP Z))])
      refine own_step (fun _ k => XS.astore X114.here hx rfl (hb hby at_26) rfl rfl (l' := #[.val (.int p0), .val (.int p1), .val (.int (4 : Int32)), .val (.int (4 : Int32)), .val (.ref (w5_UDP Z)), .val (.ref (w5_UDP Z))]) rfl k) ?_
      show own_Wp p e below _ T114 (mkF m 28 #[.val (.int p0), .val (.int p1), .val (.int (4 : Int32)), .val (.int (4 : Int32)), .val (.ref (w5_UDP Z)), .val (.ref (w5_UDP Z))] [])
      refine own_step (fun _ k => XS.aload X114.here hx rfl (hb hby at_28) rfl rfl k) ?_
      show own_Wp p e below _ T114 (mkF m 30 #[.val (.int p0), .val (.int p1), .val (.int (4 : Int32)), .val (.int (4 : Int32)), .val (.ref (w5_UDP Z)), .val (.ref (w5_UDP Z))] [(.ref (w5_UDP Z))])
      refine own_step (fun _ k => XS.aload X114.here hx rfl (hb hby at_30) rfl rfl k) ?_
      show own_Wp p e below _ T114 (mkF m 32 #[.val (.int p0), .val (.int p1), .val (.int (4 : Int32)), .val (.int (4 : Int32)), .val (.ref (w5_UDP Z)), .val (.ref (w5_UDP Z))] [(.ref (w5_UDP Z)), (.ref (w5_UDP Z))])
      obtain ⟨_, T115, L115, X115, hQ115, st115⟩ := own_callV X114 hx hZ hown (hw _ (List.mem_of_getElem? (i := 10) rfl)) (hw _ (List.mem_of_getElem? (i := 11) rfl)) (notFace_of_selects (args := #[]) (mvT hZ (hw _ (List.mem_of_getElem? (i := 13) rfl)))) (hw _ (List.mem_of_getElem? (i := 13) rfl)) (hw _ (List.mem_of_getElem? (i := 12) rfl)) (hw _ (List.mem_of_getElem? (i := 6) rfl)) (hw _ (List.mem_of_getElem? (i := 14) rfl)) (by decide) ((ex_w5_UDP hw hA).ext O0.2) (rm2_1 l Z a0 hw hA [] (w5_UDP Z) h0 n0 O0 (fl5 hw hA)) (W := 0) (by decide) (by decide) [(.ref (w5_UDP Z))] rfl (lenOf pd3 rfl) (Ls := #[.val (.int p0), .val (.int p1), .val (.int (4 : Int32)), .val (.int (4 : Int32)), .val (.ref (w5_UDP Z)), .val (.ref (w5_UDP Z))]) (by rw [hml]; rfl) (rest := []) (Nat.le_of_eq rfl) (hb hby at_32) e114 (by decide) (by decide)
      refine st115 _ ?_
      obtain ⟨rfl, N115q, e115⟩ := hQ115
      have N115 := Fr.app N114 N115q
      show own_Wp p e below _ T115 (mkF m 35 #[.val (.int p0), .val (.int p1), .val (.int (4 : Int32)), .val (.int (4 : Int32)), .val (.ref (w5_UDP Z)), .val (.ref (w5_UDP Z))] [(.int (1 : Int32))])
      refine own_step (fun _ k => XS.iloadN X115.here hx rfl (hb hby at_35) rfl k) ?_
      show own_Wp p e below _ T115 (mkF m 36 #[.val (.int p0), .val (.int p1), .val (.int (4 : Int32)), .val (.int (4 : Int32)), .val (.ref (w5_UDP Z)), .val (.ref (w5_UDP Z))] [(.int (4 : Int32)), (.int (1 : Int32))])
      refine own_step (fun _ k => XS.iloadN X115.here hx rfl (hb hby at_36) rfl k) ?_
      show own_Wp p e below _ T115 (mkF m 37 #[.val (.int p0), .val (.int p1), .val (.int (4 : Int32)), .val (.int (4 : Int32)), .val (.ref (w5_UDP Z)), .val (.ref (w5_UDP Z))] [(.int (4 : Int32)), (.int (4 : Int32)), (.int (1 : Int32))])
      obtain ⟨_, T116, L116, X116, hQ116, st116⟩ := own_callS X115 hx hZ hown (hw _ (List.mem_of_getElem? (i := 17) rfl)) (hw _ (List.mem_of_getElem? (i := 18) rfl)) (hw _ (List.mem_of_getElem? (i := 3) rfl)) (hw _ (List.mem_of_getElem? (i := 19) rfl)) (by decide) (rm3_92 l Z a0 hw hA [] h0 n0 O0) (W := 1) (by decide) (by decide) [(.int (4 : Int32)), (.int (4 : Int32))] rfl (lenOf pd4 rfl) (Ls := #[.val (.int p0), .val (.int p1), .val (.int (4 : Int32)), .val (.int (4 : Int32)), .val (.ref (w5_UDP Z)), .val (.ref (w5_UDP Z))]) (by rw [hml]; rfl) (rest := [(.int (1 : Int32))]) (Nat.le_of_eq rfl) (hb hby at_37) e115 (by decide) (by decide)
      refine st116 _ ?_
      obtain ⟨rfl, N116q, e116⟩ := hQ116
      have N116 := Fr.app N115 N116q
      show own_Wp p e below _ T116 (mkF m 40 #[.val (.int p0), .val (.int p1), .val (.int (4 : Int32)), .val (.int (4 : Int32)), .val (.ref (w5_UDP Z)), .val (.ref (w5_UDP Z))] [(.int (1 : Int32)), (.int (1 : Int32))])
      refine own_step (fun _ k => XS.icmpNo X116.here hx rfl (hb hby at_40) rfl (by decide) k) ?_
      show own_Wp p e below _ T116 (mkF m 43 #[.val (.int p0), .val (.int p1), .val (.int (4 : Int32)), .val (.int (4 : Int32)), .val (.ref (w5_UDP Z)), .val (.ref (w5_UDP Z))] [])
      refine own_step (fun _ k => XS.iconst X116.here hx rfl (hb hby at_43) k) ?_
      show own_Wp p e below _ T116 (mkF m 44 #[.val (.int p0), .val (.int p1), .val (.int (4 : Int32)), .val (.int (4 : Int32)), .val (.ref (w5_UDP Z)), .val (.ref (w5_UDP Z))] [(.int (1 : Int32))])
      refine own_step (fun _ k => XS.goto X116.here hx rfl (pc0 := 44) (pc' := 48) rfl (hb hby at_44) (by decide) (by decide) k) ?_
      show own_Wp p e below _ T116 (mkF m 48 #[.val (.int p0), .val (.int p1), .val (.int (4 : Int32)), .val (.int (4 : Int32)), .val (.ref (w5_UDP Z)), .val (.ref (w5_UDP Z))] [(.int (1 : Int32))])
      exact own_retN X116 hx (t := .boolean) hret (by simp) hlk (hb hby at_48) (by decide) (by decide) ⟨rfl, N116⟩
    · skip
      rw [hm]
      show own_Wp p e below _ s₁ (mkF m 15 #[.val (.int p0), .val (.int p1), .val (.int (4 : Int32)), .unset, .unset, .unset] [(.int (5 : Int32))])
      refine own_step (fun _ k => XS.istoreN X0.here hx rfl (hb hby at_15) rfl (l' := #[.val (.int p0), .val (.int p1), .val (.int (4 : Int32)), .val (.int (5 : Int32)), .unset, .unset]) rfl k) ?_
      show own_Wp p e below _ s₁ (mkF m 16 #[.val (.int p0), .val (.int p1), .val (.int (4 : Int32)), .val (.int (5 : Int32)), .unset, .unset] [])
      refine own_step (fun _ k => XS.iloadN X0.here hx rfl (hb hby at_16) rfl k) ?_
      show own_Wp p e below _ s₁ (mkF m 17 #[.val (.int p0), .val (.int p1), .val (.int (4 : Int32)), .val (.int (5 : Int32)), .unset, .unset] [(.int (4 : Int32))])
      obtain ⟨_, T117, L117, X117, hQ117, st117⟩ := own_callS X0 hx hZ hown (hw _ (List.mem_of_getElem? (i := 1) rfl)) (hw _ (List.mem_of_getElem? (i := 2) rfl)) (hw _ (List.mem_of_getElem? (i := 3) rfl)) (hw _ (List.mem_of_getElem? (i := 4) rfl)) (by decide) (rm1_17 l Z a0 hw hA [] h0 n0 O0) (W := 0) (by decide) (by decide) [(.int (4 : Int32))] rfl (lenOf pd1 rfl) (Ls := #[.val (.int p0), .val (.int p1), .val (.int (4 : Int32)), .val (.int (5 : Int32)), .unset, .unset]) (by rw [hml]; rfl) (rest := []) (Nat.le_of_eq rfl) (hb hby at_17) e0 (by decide) (by decide)
      refine st117 _ ?_
      obtain ⟨rfl, N117q, e117⟩ := hQ117
      have N117 := Fr.app (Fr.nil n0) N117q
      show own_Wp p e below _ T117 (mkF m 20 #[.val (.int p0), .val (.int p1), .val (.int (4 : Int32)), .val (.int (5 : Int32)), .unset, .unset] [(.ref (w5_UDP Z))])
      refine own_step (fun _ k => XS.astore X117.here hx rfl (hb hby at_20) rfl rfl (l' := #[.val (.int p0), .val (.int p1), .val (.int (4 : Int32)), .val (.int (5 : Int32)), .val (.ref (w5_UDP Z)), .unset]) rfl k) ?_
      show own_Wp p e below _ T117 (mkF m 22 #[.val (.int p0), .val (.int p1), .val (.int (4 : Int32)), .val (.int (5 : Int32)), .val (.ref (w5_UDP Z)), .unset] [])
      refine own_step (fun _ k => XS.iloadN X117.here hx rfl (hb hby at_22) rfl k) ?_
      show own_Wp p e below _ T117 (mkF m 23 #[.val (.int p0), .val (.int p1), .val (.int (4 : Int32)), .val (.int (5 : Int32)), .val (.ref (w5_UDP Z)), .unset] [(.int (5 : Int32))])
      obtain ⟨_, T118, L118, X118, hQ118, st118⟩ := own_callS X117 hx hZ hown (hw _ (List.mem_of_getElem? (i := 1) rfl)) (hw _ (List.mem_of_getElem? (i := 2) rfl)) (hw _ (List.mem_of_getElem? (i := 3) rfl)) (hw _ (List.mem_of_getElem? (i := 4) rfl)) (by decide) (rm1_21 l Z a0 hw hA [] h0 n0 O0) (W := 0) (by decide) (by decide) [(.int (5 : Int32))] rfl (lenOf pd1 rfl) (Ls := #[.val (.int p0), .val (.int p1), .val (.int (4 : Int32)), .val (.int (5 : Int32)), .val (.ref (w5_UDP Z)), .unset]) (by rw [hml]; rfl) (rest := []) (Nat.le_of_eq rfl) (hb hby at_23) e117 (by decide) (by decide)
      refine st118 _ ?_
      obtain ⟨rfl, N118q, e118⟩ := hQ118
      have N118 := Fr.app N117 N118q
      show own_Wp p e below _ T118 (mkF m 26 #[.val (.int p0), .val (.int p1), .val (.int (4 : Int32)), .val (.int (5 : Int32)), .val (.ref (w5_UDP Z)), .unset] [(.ref (w4_UDP6 Z))])
      refine own_step (fun _ k => XS.astore X118.here hx rfl (hb hby at_26) rfl rfl (l' := #[.val (.int p0), .val (.int p1), .val (.int (4 : Int32)), .val (.int (5 : Int32)), .val (.ref (w5_UDP Z)), .val (.ref (w4_UDP6 Z))]) rfl k) ?_
      show own_Wp p e below _ T118 (mkF m 28 #[.val (.int p0), .val (.int p1), .val (.int (4 : Int32)), .val (.int (5 : Int32)), .val (.ref (w5_UDP Z)), .val (.ref (w4_UDP6 Z))] [])
      refine own_step (fun _ k => XS.aload X118.here hx rfl (hb hby at_28) rfl rfl k) ?_
      show own_Wp p e below _ T118 (mkF m 30 #[.val (.int p0), .val (.int p1), .val (.int (4 : Int32)), .val (.int (5 : Int32)), .val (.ref (w5_UDP Z)), .val (.ref (w4_UDP6 Z))] [(.ref (w5_UDP Z))])
      refine own_step (fun _ k => XS.aload X118.here hx rfl (hb hby at_30) rfl rfl k) ?_
      show own_Wp p e below _ T118 (mkF m 32 #[.val (.int p0), .val (.int p1), .val (.int (4 : Int32)), .val (.int (5 : Int32)), .val (.ref (w5_UDP Z)), .val (.ref (w4_UDP6 Z))] [(.ref (w4_UDP6 Z)), (.ref (w5_UDP Z))])
      obtain ⟨_, T119, L119, X119, hQ119, st119⟩ := own_callV X118 hx hZ hown (hw _ (List.mem_of_getElem? (i := 10) rfl)) (hw _ (List.mem_of_getElem? (i := 11) rfl)) (notFace_of_selects (args := #[]) (mvT hZ (hw _ (List.mem_of_getElem? (i := 13) rfl)))) (hw _ (List.mem_of_getElem? (i := 13) rfl)) (hw _ (List.mem_of_getElem? (i := 12) rfl)) (hw _ (List.mem_of_getElem? (i := 6) rfl)) (hw _ (List.mem_of_getElem? (i := 14) rfl)) (by decide) ((ex_w5_UDP hw hA).ext O0.2) (rm2_4 l Z a0 hw hA [] (w5_UDP Z) (w4_UDP6 Z) h0 n0 O0 (fl5 hw hA) (fl4 hw hA)) (W := 0) (by decide) (by decide) [(.ref (w4_UDP6 Z))] rfl (lenOf pd3 rfl) (Ls := #[.val (.int p0), .val (.int p1), .val (.int (4 : Int32)), .val (.int (5 : Int32)), .val (.ref (w5_UDP Z)), .val (.ref (w4_UDP6 Z))]) (by rw [hml]; rfl) (rest := []) (Nat.le_of_eq rfl) (hb hby at_32) e118 (by decide) (by decide)
      refine st119 _ ?_
      obtain ⟨rfl, N119q, e119⟩ := hQ119
      have N119 := Fr.app N118 N119q
      show own_Wp p e below _ T119 (mkF m 35 #[.val (.int p0), .val (.int p1), .val (.int (4 : Int32)), .val (.int (5 : Int32)), .val (.ref (w5_UDP Z)), .val (.ref (w4_UDP6 Z))] [(.int (0 : Int32))])
      refine own_step (fun _ k => XS.iloadN X119.here hx rfl (hb hby at_35) rfl k) ?_
      show own_Wp p e below _ T119 (mkF m 36 #[.val (.int p0), .val (.int p1), .val (.int (4 : Int32)), .val (.int (5 : Int32)), .val (.ref (w5_UDP Z)), .val (.ref (w4_UDP6 Z))] [(.int (4 : Int32)), (.int (0 : Int32))])
      refine own_step (fun _ k => XS.iloadN X119.here hx rfl (hb hby at_36) rfl k) ?_
      show own_Wp p e below _ T119 (mkF m 37 #[.val (.int p0), .val (.int p1), .val (.int (4 : Int32)), .val (.int (5 : Int32)), .val (.ref (w5_UDP Z)), .val (.ref (w4_UDP6 Z))] [(.int (5 : Int32)), (.int (4 : Int32)), (.int (0 : Int32))])
      obtain ⟨_, T120, L120, X120, hQ120, st120⟩ := own_callS X119 hx hZ hown (hw _ (List.mem_of_getElem? (i := 17) rfl)) (hw _ (List.mem_of_getElem? (i := 18) rfl)) (hw _ (List.mem_of_getElem? (i := 3) rfl)) (hw _ (List.mem_of_getElem? (i := 19) rfl)) (by decide) (rm3_95 l Z a0 hw hA [] h0 n0 O0) (W := 1) (by decide) (by decide) [(.int (4 : Int32)), (.int (5 : Int32))] rfl (lenOf pd4 rfl) (Ls := #[.val (.int p0), .val (.int p1), .val (.int (4 : Int32)), .val (.int (5 : Int32)), .val (.ref (w5_UDP Z)), .val (.ref (w4_UDP6 Z))]) (by rw [hml]; rfl) (rest := [(.int (0 : Int32))]) (Nat.le_of_eq rfl) (hb hby at_37) e119 (by decide) (by decide)
      refine st120 _ ?_
      obtain ⟨rfl, N120q, e120⟩ := hQ120
      have N120 := Fr.app N119 N120q
      show own_Wp p e below _ T120 (mkF m 40 #[.val (.int p0), .val (.int p1), .val (.int (4 : Int32)), .val (.int (5 : Int32)), .val (.ref (w5_UDP Z)), .val (.ref (w4_UDP6 Z))] [(.int (0 : Int32)), (.int (0 : Int32))])
      refine own_step (fun _ k => XS.icmpNo X120.here hx rfl (hb hby at_40) rfl (by decide) k) ?_
      show own_Wp p e below _ T120 (mkF m 43 #[.val (.int p0), .val (.int p1), .val (.int (4 : Int32)), .val (.int (5 : Int32)), .val (.ref (w5_UDP Z)), .val (.ref (w4_UDP6 Z))] [])
      refine own_step (fun _ k => XS.iconst X120.here hx rfl (hb hby at_43) k) ?_
      show own_Wp p e below _ T120 (mkF m 44 #[.val (.int p0), .val (.int p1), .val (.int (4 : Int32)), .val (.int (5 : Int32)), .val (.ref (w5_UDP Z)), .val (.ref (w4_UDP6 Z))] [(.int (1 : Int32))])
      refine own_step (fun _ k => XS.goto X120.here hx rfl (pc0 := 44) (pc' := 48) rfl (hb hby at_44) (by decide) (by decide) k) ?_
      show own_Wp p e below _ T120 (mkF m 48 #[.val (.int p0), .val (.int p1), .val (.int (4 : Int32)), .val (.int (5 : Int32)), .val (.ref (w5_UDP Z)), .val (.ref (w4_UDP6 Z))] [(.int (1 : Int32))])
      exact own_retN X120 hx (t := .boolean) hret (by simp) hlk (hb hby at_48) (by decide) (by decide) ⟨rfl, N120⟩
  · skip
    rw [hm]
    show own_Wp p e below _ s₁ (mkF m 7 #[.val (.int p0), .val (.int p1), .unset, .unset, .unset, .unset] [(.int (5 : Int32))])
    refine own_step (fun _ k => XS.istoreN X0.here hx rfl (hb hby at_7) rfl (l' := #[.val (.int p0), .val (.int p1), .val (.int (5 : Int32)), .unset, .unset, .unset]) rfl k) ?_
    show own_Wp p e below _ s₁ (mkF m 8 #[.val (.int p0), .val (.int p1), .val (.int (5 : Int32)), .unset, .unset, .unset] [])
    refine own_step (fun _ k => XS.iloadN X0.here hx rfl (hb hby at_8) rfl k) ?_
    show own_Wp p e below _ s₁ (mkF m 9 #[.val (.int p0), .val (.int p1), .val (.int (5 : Int32)), .unset, .unset, .unset] [(.int p1)])
    refine own_step (X0.ldcInt hx hown (mvT hZ (hw _ (List.mem_of_getElem? (i := 0) rfl))) (g := (mkF m 9 #[.val (.int p0), .val (.int p1), .val (.int (5 : Int32)), .unset, .unset, .unset] [(.int p1)])) rfl (hb hby at_9)) ?_
    show own_Wp p e below _ s₁ (mkF m 11 #[.val (.int p0), .val (.int p1), .val (.int (5 : Int32)), .unset, .unset, .unset] [(.int (2147483647 : Int32)), (.int p1)])
    refine own_step (fun _ k => XS.iand X0.here hx rfl (hb hby at_11) rfl k) ?_
    show own_Wp p e below _ s₁ (mkF m 12 #[.val (.int p0), .val (.int p1), .val (.int (5 : Int32)), .unset, .unset, .unset] [(.int (p1 &&& (2147483647 : Int32)))])
    refine own_step (fun _ k => XS.bipush X0.here hx rfl (hb hby at_12) k) ?_
    show own_Wp p e below _ s₁ (mkF m 14 #[.val (.int p0), .val (.int p1), .val (.int (5 : Int32)), .unset, .unset, .unset] [(.int (6 : Int32)), (.int (p1 &&& (2147483647 : Int32)))])
    refine own_step (fun _ k => iremM (g := (mkF m 14 #[.val (.int p0), .val (.int p1), .val (.int (5 : Int32)), .unset, .unset, .unset] [(.int (6 : Int32)), (.int (p1 &&& (2147483647 : Int32)))])) X0 hx rfl (hb hby at_14) rfl (by decide) k) ?_
    show own_Wp p e below _ s₁ (mkF m 15 #[.val (.int p0), .val (.int p1), .val (.int (5 : Int32)), .unset, .unset, .unset] [(.int ((p1 &&& (2147483647 : Int32)) % (6 : Int32)))])
    rcases own_mod6 p1 with hm | hm | hm | hm | hm | hm
    · skip
      rw [hm]
      show own_Wp p e below _ s₁ (mkF m 15 #[.val (.int p0), .val (.int p1), .val (.int (5 : Int32)), .unset, .unset, .unset] [(.int (0 : Int32))])
      refine own_step (fun _ k => XS.istoreN X0.here hx rfl (hb hby at_15) rfl (l' := #[.val (.int p0), .val (.int p1), .val (.int (5 : Int32)), .val (.int (0 : Int32)), .unset, .unset]) rfl k) ?_
      show own_Wp p e below _ s₁ (mkF m 16 #[.val (.int p0), .val (.int p1), .val (.int (5 : Int32)), .val (.int (0 : Int32)), .unset, .unset] [])
      refine own_step (fun _ k => XS.iloadN X0.here hx rfl (hb hby at_16) rfl k) ?_
      show own_Wp p e below _ s₁ (mkF m 17 #[.val (.int p0), .val (.int p1), .val (.int (5 : Int32)), .val (.int (0 : Int32)), .unset, .unset] [(.int (5 : Int32))])
      obtain ⟨_, T121, L121, X121, hQ121, st121⟩ := own_callS X0 hx hZ hown (hw _ (List.mem_of_getElem? (i := 1) rfl)) (hw _ (List.mem_of_getElem? (i := 2) rfl)) (hw _ (List.mem_of_getElem? (i := 3) rfl)) (hw _ (List.mem_of_getElem? (i := 4) rfl)) (by decide) (rm1_21 l Z a0 hw hA [] h0 n0 O0) (W := 0) (by decide) (by decide) [(.int (5 : Int32))] rfl (lenOf pd1 rfl) (Ls := #[.val (.int p0), .val (.int p1), .val (.int (5 : Int32)), .val (.int (0 : Int32)), .unset, .unset]) (by rw [hml]; rfl) (rest := []) (Nat.le_of_eq rfl) (hb hby at_17) e0 (by decide) (by decide)
      refine st121 _ ?_
      obtain ⟨rfl, N121q, e121⟩ := hQ121
      have N121 := Fr.app (Fr.nil n0) N121q
      show own_Wp p e below _ T121 (mkF m 20 #[.val (.int p0), .val (.int p1), .val (.int (5 : Int32)), .val (.int (0 : Int32)), .unset, .unset] [(.ref (w4_UDP6 Z))])
      refine own_step (fun _ k => XS.astore X121.here hx rfl (hb hby at_20) rfl rfl (l' := #[.val (.int p0), .val (.int p1), .val (.int (5 : Int32)), .val (.int (0 : Int32)), .val (.ref (w4_UDP6 Z)), .unset]) rfl k) ?_
      show own_Wp p e below _ T121 (mkF m 22 #[.val (.int p0), .val (.int p1), .val (.int (5 : Int32)), .val (.int (0 : Int32)), .val (.ref (w4_UDP6 Z)), .unset] [])
      refine own_step (fun _ k => XS.iloadN X121.here hx rfl (hb hby at_22) rfl k) ?_
      show own_Wp p e below _ T121 (mkF m 23 #[.val (.int p0), .val (.int p1), .val (.int (5 : Int32)), .val (.int (0 : Int32)), .val (.ref (w4_UDP6 Z)), .unset] [(.int (0 : Int32))])
      obtain ⟨_, T122, L122, X122, hQ122, st122⟩ := own_callS X121 hx hZ hown (hw _ (List.mem_of_getElem? (i := 1) rfl)) (hw _ (List.mem_of_getElem? (i := 2) rfl)) (hw _ (List.mem_of_getElem? (i := 3) rfl)) (hw _ (List.mem_of_getElem? (i := 4) rfl)) (by decide) (rm1_0 l Z a0 hw hA [] h0 n0 O0) (W := 0) (by decide) (by decide) [(.int (0 : Int32))] rfl (lenOf pd1 rfl) (Ls := #[.val (.int p0), .val (.int p1), .val (.int (5 : Int32)), .val (.int (0 : Int32)), .val (.ref (w4_UDP6 Z)), .unset]) (by rw [hml]; rfl) (rest := []) (Nat.le_of_eq rfl) (hb hby at_23) e121 (by decide) (by decide)
      refine st122 _ ?_
      obtain ⟨rfl, N122q, e122⟩ := hQ122
      have N122 := Fr.app N121 N122q
      show own_Wp p e below _ T122 (mkF m 26 #[.val (.int p0), .val (.int p1), .val (.int (5 : Int32)), .val (.int (0 : Int32)), .val (.ref (w4_UDP6 Z)), .unset] [(.ref (w0_IPV4 Z))])
      refine own_step (fun _ k => XS.astore X122.here hx rfl (hb hby at_26) rfl rfl (l' := #[.val (.int p0), .val (.int p1), .val (.int (5 : Int32)), .val (.int (0 : Int32)), .val (.ref (w4_UDP6 Z)), .val (.ref (w0_IPV4 Z))]) rfl k) ?_
      show own_Wp p e below _ T122 (mkF m 28 #[.val (.int p0), .val (.int p1), .val (.int (5 : Int32)), .val (.int (0 : Int32)), .val (.ref (w4_UDP6 Z)), .val (.ref (w0_IPV4 Z))] [])
      refine own_step (fun _ k => XS.aload X122.here hx rfl (hb hby at_28) rfl rfl k) ?_
      show own_Wp p e below _ T122 (mkF m 30 #[.val (.int p0), .val (.int p1), .val (.int (5 : Int32)), .val (.int (0 : Int32)), .val (.ref (w4_UDP6 Z)), .val (.ref (w0_IPV4 Z))] [(.ref (w4_UDP6 Z))])
      refine own_step (fun _ k => XS.aload X122.here hx rfl (hb hby at_30) rfl rfl k) ?_
      show own_Wp p e below _ T122 (mkF m 32 #[.val (.int p0), .val (.int p1), .val (.int (5 : Int32)), .val (.int (0 : Int32)), .val (.ref (w4_UDP6 Z)), .val (.ref (w0_IPV4 Z))] [(.ref (w0_IPV4 Z)), (.ref (w4_UDP6 Z))])
      obtain ⟨_, T123, L123, X123, hQ123, st123⟩ := own_callV X122 hx hZ hown (hw _ (List.mem_of_getElem? (i := 10) rfl)) (hw _ (List.mem_of_getElem? (i := 11) rfl)) (notFace_of_selects (args := #[]) (mvT hZ (hw _ (List.mem_of_getElem? (i := 13) rfl)))) (hw _ (List.mem_of_getElem? (i := 13) rfl)) (hw _ (List.mem_of_getElem? (i := 12) rfl)) (hw _ (List.mem_of_getElem? (i := 6) rfl)) (hw _ (List.mem_of_getElem? (i := 14) rfl)) (by decide) ((ex_w4_UDP6 hw hA).ext O0.2) (rm2_25 l Z a0 hw hA [] (w4_UDP6 Z) (w0_IPV4 Z) h0 n0 O0 (fl4 hw hA) (fl0 hw hA)) (W := 0) (by decide) (by decide) [(.ref (w0_IPV4 Z))] rfl (lenOf pd3 rfl) (Ls := #[.val (.int p0), .val (.int p1), .val (.int (5 : Int32)), .val (.int (0 : Int32)), .val (.ref (w4_UDP6 Z)), .val (.ref (w0_IPV4 Z))]) (by rw [hml]; rfl) (rest := []) (Nat.le_of_eq rfl) (hb hby at_32) e122 (by decide) (by decide)
      refine st123 _ ?_
      obtain ⟨rfl, N123q, e123⟩ := hQ123
      have N123 := Fr.app N122 N123q
      show own_Wp p e below _ T123 (mkF m 35 #[.val (.int p0), .val (.int p1), .val (.int (5 : Int32)), .val (.int (0 : Int32)), .val (.ref (w4_UDP6 Z)), .val (.ref (w0_IPV4 Z))] [(.int (0 : Int32))])
      refine own_step (fun _ k => XS.iloadN X123.here hx rfl (hb hby at_35) rfl k) ?_
      show own_Wp p e below _ T123 (mkF m 36 #[.val (.int p0), .val (.int p1), .val (.int (5 : Int32)), .val (.int (0 : Int32)), .val (.ref (w4_UDP6 Z)), .val (.ref (w0_IPV4 Z))] [(.int (5 : Int32)), (.int (0 : Int32))])
      refine own_step (fun _ k => XS.iloadN X123.here hx rfl (hb hby at_36) rfl k) ?_
      show own_Wp p e below _ T123 (mkF m 37 #[.val (.int p0), .val (.int p1), .val (.int (5 : Int32)), .val (.int (0 : Int32)), .val (.ref (w4_UDP6 Z)), .val (.ref (w0_IPV4 Z))] [(.int (0 : Int32)), (.int (5 : Int32)), (.int (0 : Int32))])
      obtain ⟨_, T124, L124, X124, hQ124, st124⟩ := own_callS X123 hx hZ hown (hw _ (List.mem_of_getElem? (i := 17) rfl)) (hw _ (List.mem_of_getElem? (i := 18) rfl)) (hw _ (List.mem_of_getElem? (i := 3) rfl)) (hw _ (List.mem_of_getElem? (i := 19) rfl)) (by decide) (rm3_98 l Z a0 hw hA [] h0 n0 O0) (W := 1) (by decide) (by decide) [(.int (5 : Int32)), (.int (0 : Int32))] rfl (lenOf pd4 rfl) (Ls := #[.val (.int p0), .val (.int p1), .val (.int (5 : Int32)), .val (.int (0 : Int32)), .val (.ref (w4_UDP6 Z)), .val (.ref (w0_IPV4 Z))]) (by rw [hml]; rfl) (rest := [(.int (0 : Int32))]) (Nat.le_of_eq rfl) (hb hby at_37) e123 (by decide) (by decide)
      refine st124 _ ?_
      obtain ⟨rfl, N124q, e124⟩ := hQ124
      have N124 := Fr.app N123 N124q
      show own_Wp p e below _ T124 (mkF m 40 #[.val (.int p0), .val (.int p1), .val (.int (5 : Int32)), .val (.int (0 : Int32)), .val (.ref (w4_UDP6 Z)), .val (.ref (w0_IPV4 Z))] [(.int (0 : Int32)), (.int (0 : Int32))])
      refine own_step (fun _ k => XS.icmpNo X124.here hx rfl (hb hby at_40) rfl (by decide) k) ?_
      show own_Wp p e below _ T124 (mkF m 43 #[.val (.int p0), .val (.int p1), .val (.int (5 : Int32)), .val (.int (0 : Int32)), .val (.ref (w4_UDP6 Z)), .val (.ref (w0_IPV4 Z))] [])
      refine own_step (fun _ k => XS.iconst X124.here hx rfl (hb hby at_43) k) ?_
      show own_Wp p e below _ T124 (mkF m 44 #[.val (.int p0), .val (.int p1), .val (.int (5 : Int32)), .val (.int (0 : Int32)), .val (.ref (w4_UDP6 Z)), .val (.ref (w0_IPV4 Z))] [(.int (1 : Int32))])
      refine own_step (fun _ k => XS.goto X124.here hx rfl (pc0 := 44) (pc' := 48) rfl (hb hby at_44) (by decide) (by decide) k) ?_
      show own_Wp p e below _ T124 (mkF m 48 #[.val (.int p0), .val (.int p1), .val (.int (5 : Int32)), .val (.int (0 : Int32)), .val (.ref (w4_UDP6 Z)), .val (.ref (w0_IPV4 Z))] [(.int (1 : Int32))])
      exact own_retN X124 hx (t := .boolean) hret (by simp) hlk (hb hby at_48) (by decide) (by decide) ⟨rfl, N124⟩
    · skip
      rw [hm]
      show own_Wp p e below _ s₁ (mkF m 15 #[.val (.int p0), .val (.int p1), .val (.int (5 : Int32)), .unset, .unset, .unset] [(.int (1 : Int32))])
      refine own_step (fun _ k => XS.istoreN X0.here hx rfl (hb hby at_15) rfl (l' := #[.val (.int p0), .val (.int p1), .val (.int (5 : Int32)), .val (.int (1 : Int32)), .unset, .unset]) rfl k) ?_
      show own_Wp p e below _ s₁ (mkF m 16 #[.val (.int p0), .val (.int p1), .val (.int (5 : Int32)), .val (.int (1 : Int32)), .unset, .unset] [])
      refine own_step (fun _ k => XS.iloadN X0.here hx rfl (hb hby at_16) rfl k) ?_
      show own_Wp p e below _ s₁ (mkF m 17 #[.val (.int p0), .val (.int p1), .val (.int (5 : Int32)), .val (.int (1 : Int32)), .unset, .unset] [(.int (5 : Int32))])
      obtain ⟨_, T125, L125, X125, hQ125, st125⟩ := own_callS X0 hx hZ hown (hw _ (List.mem_of_getElem? (i := 1) rfl)) (hw _ (List.mem_of_getElem? (i := 2) rfl)) (hw _ (List.mem_of_getElem? (i := 3) rfl)) (hw _ (List.mem_of_getElem? (i := 4) rfl)) (by decide) (rm1_21 l Z a0 hw hA [] h0 n0 O0) (W := 0) (by decide) (by decide) [(.int (5 : Int32))] rfl (lenOf pd1 rfl) (Ls := #[.val (.int p0), .val (.int p1), .val (.int (5 : Int32)), .val (.int (1 : Int32)), .unset, .unset]) (by rw [hml]; rfl) (rest := []) (Nat.le_of_eq rfl) (hb hby at_17) e0 (by decide) (by decide)
      refine st125 _ ?_
      obtain ⟨rfl, N125q, e125⟩ := hQ125
      have N125 := Fr.app (Fr.nil n0) N125q
      show own_Wp p e below _ T125 (mkF m 20 #[.val (.int p0), .val (.int p1), .val (.int (5 : Int32)), .val (.int (1 : Int32)), .unset, .unset] [(.ref (w4_UDP6 Z))])
      refine own_step (fun _ k => XS.astore X125.here hx rfl (hb hby at_20) rfl rfl (l' := #[.val (.int p0), .val (.int p1), .val (.int (5 : Int32)), .val (.int (1 : Int32)), .val (.ref (w4_UDP6 Z)), .unset]) rfl k) ?_
      show own_Wp p e below _ T125 (mkF m 22 #[.val (.int p0), .val (.int p1), .val (.int (5 : Int32)), .val (.int (1 : Int32)), .val (.ref (w4_UDP6 Z)), .unset] [])
      refine own_step (fun _ k => XS.iloadN X125.here hx rfl (hb hby at_22) rfl k) ?_
      show own_Wp p e below _ T125 (mkF m 23 #[.val (.int p0), .val (.int p1), .val (.int (5 : Int32)), .val (.int (1 : Int32)), .val (.ref (w4_UDP6 Z)), .unset] [(.int (1 : Int32))])
      obtain ⟨_, T126, L126, X126, hQ126, st126⟩ := own_callS X125 hx hZ hown (hw _ (List.mem_of_getElem? (i := 1) rfl)) (hw _ (List.mem_of_getElem? (i := 2) rfl)) (hw _ (List.mem_of_getElem? (i := 3) rfl)) (hw _ (List.mem_of_getElem? (i := 4) rfl)) (by decide) (rm1_3 l Z a0 hw hA [] h0 n0 O0) (W := 0) (by decide) (by decide) [(.int (1 : Int32))] rfl (lenOf pd1 rfl) (Ls := #[.val (.int p0), .val (.int p1), .val (.int (5 : Int32)), .val (.int (1 : Int32)), .val (.ref (w4_UDP6 Z)), .unset]) (by rw [hml]; rfl) (rest := []) (Nat.le_of_eq rfl) (hb hby at_23) e125 (by decide) (by decide)
      refine st126 _ ?_
      obtain ⟨rfl, N126q, e126⟩ := hQ126
      have N126 := Fr.app N125 N126q
      show own_Wp p e below _ T126 (mkF m 26 #[.val (.int p0), .val (.int p1), .val (.int (5 : Int32)), .val (.int (1 : Int32)), .val (.ref (w4_UDP6 Z)), .unset] [(.ref (w3_IPV6 Z))])
      refine own_step (fun _ k => XS.astore X126.here hx rfl (hb hby at_26) rfl rfl (l' := #[.val (.int p0), .val (.int p1), .val (.int (5 : Int32)), .val (.int (1 : Int32)), .val (.ref (w4_UDP6 Z)), .val (.ref (w3_IPV6 Z))]) rfl k) ?_
      show own_Wp p e below _ T126 (mkF m 28 #[.val (.int p0), .val (.int p1), .val (.int (5 : Int32)), .val (.int (1 : Int32)), .val (.ref (w4_UDP6 Z)), .val (.ref (w3_IPV6 Z))] [])
      refine own_step (fun _ k => XS.aload X126.here hx rfl (hb hby at_28) rfl rfl k) ?_
      show own_Wp p e below _ T126 (mkF m 30 #[.val (.int p0), .val (.int p1), .val (.int (5 : Int32)), .val (.int (1 : Int32)), .val (.ref (w4_UDP6 Z)), .val (.ref (w3_IPV6 Z))] [(.ref (w4_UDP6 Z))])
      refine own_step (fun _ k => XS.aload X126.here hx rfl (hb hby at_30) rfl rfl k) ?_
      show own_Wp p e below _ T126 (mkF m 32 #[.val (.int p0), .val (.int p1), .val (.int (5 : Int32)), .val (.int (1 : Int32)), .val (.ref (w4_UDP6 Z)), .val (.ref (w3_IPV6 Z))] [(.ref (w3_IPV6 Z)), (.ref (w4_UDP6 Z))])
      obtain ⟨_, T127, L127, X127, hQ127, st127⟩ := own_callV X126 hx hZ hown (hw _ (List.mem_of_getElem? (i := 10) rfl)) (hw _ (List.mem_of_getElem? (i := 11) rfl)) (notFace_of_selects (args := #[]) (mvT hZ (hw _ (List.mem_of_getElem? (i := 13) rfl)))) (hw _ (List.mem_of_getElem? (i := 13) rfl)) (hw _ (List.mem_of_getElem? (i := 12) rfl)) (hw _ (List.mem_of_getElem? (i := 6) rfl)) (hw _ (List.mem_of_getElem? (i := 14) rfl)) (by decide) ((ex_w4_UDP6 hw hA).ext O0.2) (rm2_65 l Z a0 hw hA [] (w4_UDP6 Z) (w3_IPV6 Z) h0 n0 O0 (fl4 hw hA) (fl3 hw hA) (Fld.ne (fl15 hw hA) (fl11 hw hA) (by decide)) (fl17 hw hA) (fl13 hw hA)) (W := 0) (by decide) (by decide) [(.ref (w3_IPV6 Z))] rfl (lenOf pd3 rfl) (Ls := #[.val (.int p0), .val (.int p1), .val (.int (5 : Int32)), .val (.int (1 : Int32)), .val (.ref (w4_UDP6 Z)), .val (.ref (w3_IPV6 Z))]) (by rw [hml]; rfl) (rest := []) (Nat.le_of_eq rfl) (hb hby at_32) e126 (by decide) (by decide)
      refine st127 _ ?_
      obtain ⟨rfl, N127q, e127⟩ := hQ127
      have N127 := Fr.app N126 N127q
      show own_Wp p e below _ T127 (mkF m 35 #[.val (.int p0), .val (.int p1), .val (.int (5 : Int32)), .val (.int (1 : Int32)), .val (.ref (w4_UDP6 Z)), .val (.ref (w3_IPV6 Z))] [(.int (1 : Int32))])
      refine own_step (fun _ k => XS.iloadN X127.here hx rfl (hb hby at_35) rfl k) ?_
      show own_Wp p e below _ T127 (mkF m 36 #[.val (.int p0), .val (.int p1), .val (.int (5 : Int32)), .val (.int (1 : Int32)), .val (.ref (w4_UDP6 Z)), .val (.ref (w3_IPV6 Z))] [(.int (5 : Int32)), (.int (1 : Int32))])
      refine own_step (fun _ k => XS.iloadN X127.here hx rfl (hb hby at_36) rfl k) ?_
      show own_Wp p e below _ T127 (mkF m 37 #[.val (.int p0), .val (.int p1), .val (.int (5 : Int32)), .val (.int (1 : Int32)), .val (.ref (w4_UDP6 Z)), .val (.ref (w3_IPV6 Z))] [(.int (1 : Int32)), (.int (5 : Int32)), (.int (1 : Int32))])
      obtain ⟨_, T128, L128, X128, hQ128, st128⟩ := own_callS X127 hx hZ hown (hw _ (List.mem_of_getElem? (i := 17) rfl)) (hw _ (List.mem_of_getElem? (i := 18) rfl)) (hw _ (List.mem_of_getElem? (i := 3) rfl)) (hw _ (List.mem_of_getElem? (i := 19) rfl)) (by decide) (rm3_101 l Z a0 hw hA [] h0 n0 O0) (W := 1) (by decide) (by decide) [(.int (5 : Int32)), (.int (1 : Int32))] rfl (lenOf pd4 rfl) (Ls := #[.val (.int p0), .val (.int p1), .val (.int (5 : Int32)), .val (.int (1 : Int32)), .val (.ref (w4_UDP6 Z)), .val (.ref (w3_IPV6 Z))]) (by rw [hml]; rfl) (rest := [(.int (1 : Int32))]) (Nat.le_of_eq rfl) (hb hby at_37) e127 (by decide) (by decide)
      refine st128 _ ?_
      obtain ⟨rfl, N128q, e128⟩ := hQ128
      have N128 := Fr.app N127 N128q
      show own_Wp p e below _ T128 (mkF m 40 #[.val (.int p0), .val (.int p1), .val (.int (5 : Int32)), .val (.int (1 : Int32)), .val (.ref (w4_UDP6 Z)), .val (.ref (w3_IPV6 Z))] [(.int (1 : Int32)), (.int (1 : Int32))])
      refine own_step (fun _ k => XS.icmpNo X128.here hx rfl (hb hby at_40) rfl (by decide) k) ?_
      show own_Wp p e below _ T128 (mkF m 43 #[.val (.int p0), .val (.int p1), .val (.int (5 : Int32)), .val (.int (1 : Int32)), .val (.ref (w4_UDP6 Z)), .val (.ref (w3_IPV6 Z))] [])
      refine own_step (fun _ k => XS.iconst X128.here hx rfl (hb hby at_43) k) ?_
      show own_Wp p e below _ T128 (mkF m 44 #[.val (.int p0), .val (.int p1), .val (.int (5 : Int32)), .val (.int (1 : Int32)), .val (.ref (w4_UDP6 Z)), .val (.ref (w3_IPV6 Z))] [(.int (1 : Int32))])
      refine own_step (fun _ k => XS.goto X128.here hx rfl (pc0 := 44) (pc' := 48) rfl (hb hby at_44) (by decide) (by decide) k) ?_
      show own_Wp p e below _ T128 (mkF m 48 #[.val (.int p0), .val (.int p1), .val (.int (5 : Int32)), .val (.int (1 : Int32)), .val (.ref (w4_UDP6 Z)), .val (.ref (w3_IPV6 Z))] [(.int (1 : Int32))])
      exact own_retN X128 hx (t := .boolean) hret (by simp) hlk (hb hby at_48) (by decide) (by decide) ⟨rfl, N128⟩
    · skip
      rw [hm]
      show own_Wp p e below _ s₁ (mkF m 15 #[.val (.int p0), .val (.int p1), .val (.int (5 : Int32)), .unset, .unset, .unset] [(.int (2 : Int32))])
      refine own_step (fun _ k => XS.istoreN X0.here hx rfl (hb hby at_15) rfl (l' := #[.val (.int p0), .val (.int p1), .val (.int (5 : Int32)), .val (.int (2 : Int32)), .unset, .unset]) rfl k) ?_
      show own_Wp p e below _ s₁ (mkF m 16 #[.val (.int p0), .val (.int p1), .val (.int (5 : Int32)), .val (.int (2 : Int32)), .unset, .unset] [])
      refine own_step (fun _ k => XS.iloadN X0.here hx rfl (hb hby at_16) rfl k) ?_
      show own_Wp p e below _ s₁ (mkF m 17 #[.val (.int p0), .val (.int p1), .val (.int (5 : Int32)), .val (.int (2 : Int32)), .unset, .unset] [(.int (5 : Int32))])
      obtain ⟨_, T129, L129, X129, hQ129, st129⟩ := own_callS X0 hx hZ hown (hw _ (List.mem_of_getElem? (i := 1) rfl)) (hw _ (List.mem_of_getElem? (i := 2) rfl)) (hw _ (List.mem_of_getElem? (i := 3) rfl)) (hw _ (List.mem_of_getElem? (i := 4) rfl)) (by decide) (rm1_21 l Z a0 hw hA [] h0 n0 O0) (W := 0) (by decide) (by decide) [(.int (5 : Int32))] rfl (lenOf pd1 rfl) (Ls := #[.val (.int p0), .val (.int p1), .val (.int (5 : Int32)), .val (.int (2 : Int32)), .unset, .unset]) (by rw [hml]; rfl) (rest := []) (Nat.le_of_eq rfl) (hb hby at_17) e0 (by decide) (by decide)
      refine st129 _ ?_
      obtain ⟨rfl, N129q, e129⟩ := hQ129
      have N129 := Fr.app (Fr.nil n0) N129q
      show own_Wp p e below _ T129 (mkF m 20 #[.val (.int p0), .val (.int p1), .val (.int (5 : Int32)), .val (.int (2 : Int32)), .unset, .unset] [(.ref (w4_UDP6 Z))])
      refine own_step (fun _ k => XS.astore X129.here hx rfl (hb hby at_20) rfl rfl (l' := #[.val (.int p0), .val (.int p1), .val (.int (5 : Int32)), .val (.int (2 : Int32)), .val (.ref (w4_UDP6 Z)), .unset]) rfl k) ?_
      show own_Wp p e below _ T129 (mkF m 22 #[.val (.int p0), .val (.int p1), .val (.int (5 : Int32)), .val (.int (2 : Int32)), .val (.ref (w4_UDP6 Z)), .unset] [])
      refine own_step (fun _ k => XS.iloadN X129.here hx rfl (hb hby at_22) rfl k) ?_
      show own_Wp p e below _ T129 (mkF m 23 #[.val (.int p0), .val (.int p1), .val (.int (5 : Int32)), .val (.int (2 : Int32)), .val (.ref (w4_UDP6 Z)), .unset] [(.int (2 : Int32))])
      obtain ⟨_, T130, L130, X130, hQ130, st130⟩ := own_callS X129 hx hZ hown (hw _ (List.mem_of_getElem? (i := 1) rfl)) (hw _ (List.mem_of_getElem? (i := 2) rfl)) (hw _ (List.mem_of_getElem? (i := 3) rfl)) (hw _ (List.mem_of_getElem? (i := 4) rfl)) (by decide) (rm1_8 l Z a0 hw hA [] h0 n0 O0) (W := 0) (by decide) (by decide) [(.int (2 : Int32))] rfl (lenOf pd1 rfl) (Ls := #[.val (.int p0), .val (.int p1), .val (.int (5 : Int32)), .val (.int (2 : Int32)), .val (.ref (w4_UDP6 Z)), .unset]) (by rw [hml]; rfl) (rest := []) (Nat.le_of_eq rfl) (hb hby at_23) e129 (by decide) (by decide)
      refine st130 _ ?_
      obtain ⟨rfl, N130q, e130⟩ := hQ130
      have N130 := Fr.app N129 N130q
      show own_Wp p e below _ T130 (mkF m 26 #[.val (.int p0), .val (.int p1), .val (.int (5 : Int32)), .val (.int (2 : Int32)), .val (.ref (w4_UDP6 Z)), .unset] [(.ref (w2_TCP Z))])
      refine own_step (fun _ k => XS.astore X130.here hx rfl (hb hby at_26) rfl rfl (l' := #[.val (.int p0), .val (.int p1), .val (.int (5 : Int32)), .val (.int (2 : Int32)), .val (.ref (w4_UDP6 Z)), .val (.ref (w2_TCP Z))]) rfl k) ?_
      show own_Wp p e below _ T130 (mkF m 28 #[.val (.int p0), .val (.int p1), .val (.int (5 : Int32)), .val (.int (2 : Int32)), .val (.ref (w4_UDP6 Z)), .val (.ref (w2_TCP Z))] [])
      refine own_step (fun _ k => XS.aload X130.here hx rfl (hb hby at_28) rfl rfl k) ?_
      show own_Wp p e below _ T130 (mkF m 30 #[.val (.int p0), .val (.int p1), .val (.int (5 : Int32)), .val (.int (2 : Int32)), .val (.ref (w4_UDP6 Z)), .val (.ref (w2_TCP Z))] [(.ref (w4_UDP6 Z))])
      refine own_step (fun _ k => XS.aload X130.here hx rfl (hb hby at_30) rfl rfl k) ?_
      show own_Wp p e below _ T130 (mkF m 32 #[.val (.int p0), .val (.int p1), .val (.int (5 : Int32)), .val (.int (2 : Int32)), .val (.ref (w4_UDP6 Z)), .val (.ref (w2_TCP Z))] [(.ref (w2_TCP Z)), (.ref (w4_UDP6 Z))])
      obtain ⟨_, T131, L131, X131, hQ131, st131⟩ := own_callV X130 hx hZ hown (hw _ (List.mem_of_getElem? (i := 10) rfl)) (hw _ (List.mem_of_getElem? (i := 11) rfl)) (notFace_of_selects (args := #[]) (mvT hZ (hw _ (List.mem_of_getElem? (i := 13) rfl)))) (hw _ (List.mem_of_getElem? (i := 13) rfl)) (hw _ (List.mem_of_getElem? (i := 12) rfl)) (hw _ (List.mem_of_getElem? (i := 6) rfl)) (hw _ (List.mem_of_getElem? (i := 14) rfl)) (by decide) ((ex_w4_UDP6 hw hA).ext O0.2) (rm2_25 l Z a0 hw hA [] (w4_UDP6 Z) (w2_TCP Z) h0 n0 O0 (fl4 hw hA) (fl2 hw hA)) (W := 0) (by decide) (by decide) [(.ref (w2_TCP Z))] rfl (lenOf pd3 rfl) (Ls := #[.val (.int p0), .val (.int p1), .val (.int (5 : Int32)), .val (.int (2 : Int32)), .val (.ref (w4_UDP6 Z)), .val (.ref (w2_TCP Z))]) (by rw [hml]; rfl) (rest := []) (Nat.le_of_eq rfl) (hb hby at_32) e130 (by decide) (by decide)
      refine st131 _ ?_
      obtain ⟨rfl, N131q, e131⟩ := hQ131
      have N131 := Fr.app N130 N131q
      show own_Wp p e below _ T131 (mkF m 35 #[.val (.int p0), .val (.int p1), .val (.int (5 : Int32)), .val (.int (2 : Int32)), .val (.ref (w4_UDP6 Z)), .val (.ref (w2_TCP Z))] [(.int (0 : Int32))])
      refine own_step (fun _ k => XS.iloadN X131.here hx rfl (hb hby at_35) rfl k) ?_
      show own_Wp p e below _ T131 (mkF m 36 #[.val (.int p0), .val (.int p1), .val (.int (5 : Int32)), .val (.int (2 : Int32)), .val (.ref (w4_UDP6 Z)), .val (.ref (w2_TCP Z))] [(.int (5 : Int32)), (.int (0 : Int32))])
      refine own_step (fun _ k => XS.iloadN X131.here hx rfl (hb hby at_36) rfl k) ?_
      show own_Wp p e below _ T131 (mkF m 37 #[.val (.int p0), .val (.int p1), .val (.int (5 : Int32)), .val (.int (2 : Int32)), .val (.ref (w4_UDP6 Z)), .val (.ref (w2_TCP Z))] [(.int (2 : Int32)), (.int (5 : Int32)), (.int (0 : Int32))])
      obtain ⟨_, T132, L132, X132, hQ132, st132⟩ := own_callS X131 hx hZ hown (hw _ (List.mem_of_getElem? (i := 17) rfl)) (hw _ (List.mem_of_getElem? (i := 18) rfl)) (hw _ (List.mem_of_getElem? (i := 3) rfl)) (hw _ (List.mem_of_getElem? (i := 19) rfl)) (by decide) (rm3_104 l Z a0 hw hA [] h0 n0 O0) (W := 1) (by decide) (by decide) [(.int (5 : Int32)), (.int (2 : Int32))] rfl (lenOf pd4 rfl) (Ls := #[.val (.int p0), .val (.int p1), .val (.int (5 : Int32)), .val (.int (2 : Int32)), .val (.ref (w4_UDP6 Z)), .val (.ref (w2_TCP Z))]) (by rw [hml]; rfl) (rest := [(.int (0 : Int32))]) (Nat.le_of_eq rfl) (hb hby at_37) e131 (by decide) (by decide)
      refine st132 _ ?_
      obtain ⟨rfl, N132q, e132⟩ := hQ132
      have N132 := Fr.app N131 N132q
      show own_Wp p e below _ T132 (mkF m 40 #[.val (.int p0), .val (.int p1), .val (.int (5 : Int32)), .val (.int (2 : Int32)), .val (.ref (w4_UDP6 Z)), .val (.ref (w2_TCP Z))] [(.int (0 : Int32)), (.int (0 : Int32))])
      refine own_step (fun _ k => XS.icmpNo X132.here hx rfl (hb hby at_40) rfl (by decide) k) ?_
      show own_Wp p e below _ T132 (mkF m 43 #[.val (.int p0), .val (.int p1), .val (.int (5 : Int32)), .val (.int (2 : Int32)), .val (.ref (w4_UDP6 Z)), .val (.ref (w2_TCP Z))] [])
      refine own_step (fun _ k => XS.iconst X132.here hx rfl (hb hby at_43) k) ?_
      show own_Wp p e below _ T132 (mkF m 44 #[.val (.int p0), .val (.int p1), .val (.int (5 : Int32)), .val (.int (2 : Int32)), .val (.ref (w4_UDP6 Z)), .val (.ref (w2_TCP Z))] [(.int (1 : Int32))])
      refine own_step (fun _ k => XS.goto X132.here hx rfl (pc0 := 44) (pc' := 48) rfl (hb hby at_44) (by decide) (by decide) k) ?_
      show own_Wp p e below _ T132 (mkF m 48 #[.val (.int p0), .val (.int p1), .val (.int (5 : Int32)), .val (.int (2 : Int32)), .val (.ref (w4_UDP6 Z)), .val (.ref (w2_TCP Z))] [(.int (1 : Int32))])
      exact own_retN X132 hx (t := .boolean) hret (by simp) hlk (hb hby at_48) (by decide) (by decide) ⟨rfl, N132⟩
    · skip
      rw [hm]
      show own_Wp p e below _ s₁ (mkF m 15 #[.val (.int p0), .val (.int p1), .val (.int (5 : Int32)), .unset, .unset, .unset] [(.int (3 : Int32))])
      refine own_step (fun _ k => XS.istoreN X0.here hx rfl (hb hby at_15) rfl (l' := #[.val (.int p0), .val (.int p1), .val (.int (5 : Int32)), .val (.int (3 : Int32)), .unset, .unset]) rfl k) ?_
      show own_Wp p e below _ s₁ (mkF m 16 #[.val (.int p0), .val (.int p1), .val (.int (5 : Int32)), .val (.int (3 : Int32)), .unset, .unset] [])
      refine own_step (fun _ k => XS.iloadN X0.here hx rfl (hb hby at_16) rfl k) ?_
      show own_Wp p e below _ s₁ (mkF m 17 #[.val (.int p0), .val (.int p1), .val (.int (5 : Int32)), .val (.int (3 : Int32)), .unset, .unset] [(.int (5 : Int32))])
      obtain ⟨_, T133, L133, X133, hQ133, st133⟩ := own_callS X0 hx hZ hown (hw _ (List.mem_of_getElem? (i := 1) rfl)) (hw _ (List.mem_of_getElem? (i := 2) rfl)) (hw _ (List.mem_of_getElem? (i := 3) rfl)) (hw _ (List.mem_of_getElem? (i := 4) rfl)) (by decide) (rm1_21 l Z a0 hw hA [] h0 n0 O0) (W := 0) (by decide) (by decide) [(.int (5 : Int32))] rfl (lenOf pd1 rfl) (Ls := #[.val (.int p0), .val (.int p1), .val (.int (5 : Int32)), .val (.int (3 : Int32)), .unset, .unset]) (by rw [hml]; rfl) (rest := []) (Nat.le_of_eq rfl) (hb hby at_17) e0 (by decide) (by decide)
      refine st133 _ ?_
      obtain ⟨rfl, N133q, e133⟩ := hQ133
      have N133 := Fr.app (Fr.nil n0) N133q
      show own_Wp p e below _ T133 (mkF m 20 #[.val (.int p0), .val (.int p1), .val (.int (5 : Int32)), .val (.int (3 : Int32)), .unset, .unset] [(.ref (w4_UDP6 Z))])
      refine own_step (fun _ k => XS.astore X133.here hx rfl (hb hby at_20) rfl rfl (l' := #[.val (.int p0), .val (.int p1), .val (.int (5 : Int32)), .val (.int (3 : Int32)), .val (.ref (w4_UDP6 Z)), .unset]) rfl k) ?_
      show own_Wp p e below _ T133 (mkF m 22 #[.val (.int p0), .val (.int p1), .val (.int (5 : Int32)), .val (.int (3 : Int32)), .val (.ref (w4_UDP6 Z)), .unset] [])
      refine own_step (fun _ k => XS.iloadN X133.here hx rfl (hb hby at_22) rfl k) ?_
      show own_Wp p e below _ T133 (mkF m 23 #[.val (.int p0), .val (.int p1), .val (.int (5 : Int32)), .val (.int (3 : Int32)), .val (.ref (w4_UDP6 Z)), .unset] [(.int (3 : Int32))])
      obtain ⟨_, T134, L134, X134, hQ134, st134⟩ := own_callS X133 hx hZ hown (hw _ (List.mem_of_getElem? (i := 1) rfl)) (hw _ (List.mem_of_getElem? (i := 2) rfl)) (hw _ (List.mem_of_getElem? (i := 3) rfl)) (hw _ (List.mem_of_getElem? (i := 4) rfl)) (by decide) (rm1_13 l Z a0 hw hA [] h0 n0 O0) (W := 0) (by decide) (by decide) [(.int (3 : Int32))] rfl (lenOf pd1 rfl) (Ls := #[.val (.int p0), .val (.int p1), .val (.int (5 : Int32)), .val (.int (3 : Int32)), .val (.ref (w4_UDP6 Z)), .unset]) (by rw [hml]; rfl) (rest := []) (Nat.le_of_eq rfl) (hb hby at_23) e133 (by decide) (by decide)
      refine st134 _ ?_
      obtain ⟨rfl, N134q, e134⟩ := hQ134
      have N134 := Fr.app N133 N134q
      show own_Wp p e below _ T134 (mkF m 26 #[.val (.int p0), .val (.int p1), .val (.int (5 : Int32)), .val (.int (3 : Int32)), .val (.ref (w4_UDP6 Z)), .unset] [(.ref (w1_TCP6 Z))])
      refine own_step (fun _ k => XS.astore X134.here hx rfl (hb hby at_26) rfl rfl (l' := #[.val (.int p0), .val (.int p1), .val (.int (5 : Int32)), .val (.int (3 : Int32)), .val (.ref (w4_UDP6 Z)), .val (.ref (w1_TCP6 Z))]) rfl k) ?_
      show own_Wp p e below _ T134 (mkF m 28 #[.val (.int p0), .val (.int p1), .val (.int (5 : Int32)), .val (.int (3 : Int32)), .val (.ref (w4_UDP6 Z)), .val (.ref (w1_TCP6 Z))] [])
      refine own_step (fun _ k => XS.aload X134.here hx rfl (hb hby at_28) rfl rfl k) ?_
      show own_Wp p e below _ T134 (mkF m 30 #[.val (.int p0), .val (.int p1), .val (.int (5 : Int32)), .val (.int (3 : Int32)), .val (.ref (w4_UDP6 Z)), .val (.ref (w1_TCP6 Z))] [(.ref (w4_UDP6 Z))])
      refine own_step (fun _ k => XS.aload X134.here hx rfl (hb hby at_30) rfl rfl k) ?_
      show own_Wp p e below _ T134 (mkF m 32 #[.val (.int p0), .val (.int p1), .val (.int (5 : Int32)), .val (.int (3 : Int32)), .val (.ref (w4_UDP6 Z)), .val (.ref (w1_TCP6 Z))] [(.ref (w1_TCP6 Z)), (.ref (w4_UDP6 Z))])
      obtain ⟨_, T135, L135, X135, hQ135, st135⟩ := own_callV X134 hx hZ hown (hw _ (List.mem_of_getElem? (i := 10) rfl)) (hw _ (List.mem_of_getElem? (i := 11) rfl)) (notFace_of_selects (args := #[]) (mvT hZ (hw _ (List.mem_of_getElem? (i := 13) rfl)))) (hw _ (List.mem_of_getElem? (i := 13) rfl)) (hw _ (List.mem_of_getElem? (i := 12) rfl)) (hw _ (List.mem_of_getElem? (i := 6) rfl)) (hw _ (List.mem_of_getElem? (i := 14) rfl)) (by decide) ((ex_w4_UDP6 hw hA).ext O0.2) (rm2_76 l Z a0 hw hA [] (w4_UDP6 Z) (w1_TCP6 Z) h0 n0 O0 (fl4 hw hA) (fl1 hw hA) (Fld.ne (fl15 hw hA) (fl10 hw hA) (by decide)) (fl17 hw hA) (fl12 hw hA)) (W := 0) (by decide) (by decide) [(.ref (w1_TCP6 Z))] rfl (lenOf pd3 rfl) (Ls := #[.val (.int p0), .val (.int p1), .val (.int (5 : Int32)), .val (.int (3 : Int32)), .val (.ref (w4_UDP6 Z)), .val (.ref (w1_TCP6 Z))]) (by rw [hml]; rfl) (rest := []) (Nat.le_of_eq rfl) (hb hby at_32) e134 (by decide) (by decide)
      refine st135 _ ?_
      obtain ⟨rfl, N135q, e135⟩ := hQ135
      have N135 := Fr.app N134 N135q
      show own_Wp p e below _ T135 (mkF m 35 #[.val (.int p0), .val (.int p1), .val (.int (5 : Int32)), .val (.int (3 : Int32)), .val (.ref (w4_UDP6 Z)), .val (.ref (w1_TCP6 Z))] [(.int (0 : Int32))])
      refine own_step (fun _ k => XS.iloadN X135.here hx rfl (hb hby at_35) rfl k) ?_
      show own_Wp p e below _ T135 (mkF m 36 #[.val (.int p0), .val (.int p1), .val (.int (5 : Int32)), .val (.int (3 : Int32)), .val (.ref (w4_UDP6 Z)), .val (.ref (w1_TCP6 Z))] [(.int (5 : Int32)), (.int (0 : Int32))])
      refine own_step (fun _ k => XS.iloadN X135.here hx rfl (hb hby at_36) rfl k) ?_
      show own_Wp p e below _ T135 (mkF m 37 #[.val (.int p0), .val (.int p1), .val (.int (5 : Int32)), .val (.int (3 : Int32)), .val (.ref (w4_UDP6 Z)), .val (.ref (w1_TCP6 Z))] [(.int (3 : Int32)), (.int (5 : Int32)), (.int (0 : Int32))])
      obtain ⟨_, T136, L136, X136, hQ136, st136⟩ := own_callS X135 hx hZ hown (hw _ (List.mem_of_getElem? (i := 17) rfl)) (hw _ (List.mem_of_getElem? (i := 18) rfl)) (hw _ (List.mem_of_getElem? (i := 3) rfl)) (hw _ (List.mem_of_getElem? (i := 19) rfl)) (by decide) (rm3_107 l Z a0 hw hA [] h0 n0 O0) (W := 1) (by decide) (by decide) [(.int (5 : Int32)), (.int (3 : Int32))] rfl (lenOf pd4 rfl) (Ls := #[.val (.int p0), .val (.int p1), .val (.int (5 : Int32)), .val (.int (3 : Int32)), .val (.ref (w4_UDP6 Z)), .val (.ref (w1_TCP6 Z))]) (by rw [hml]; rfl) (rest := [(.int (0 : Int32))]) (Nat.le_of_eq rfl) (hb hby at_37) e135 (by decide) (by decide)
      refine st136 _ ?_
      obtain ⟨rfl, N136q, e136⟩ := hQ136
      have N136 := Fr.app N135 N136q
      show own_Wp p e below _ T136 (mkF m 40 #[.val (.int p0), .val (.int p1), .val (.int (5 : Int32)), .val (.int (3 : Int32)), .val (.ref (w4_UDP6 Z)), .val (.ref (w1_TCP6 Z))] [(.int (0 : Int32)), (.int (0 : Int32))])
      refine own_step (fun _ k => XS.icmpNo X136.here hx rfl (hb hby at_40) rfl (by decide) k) ?_
      show own_Wp p e below _ T136 (mkF m 43 #[.val (.int p0), .val (.int p1), .val (.int (5 : Int32)), .val (.int (3 : Int32)), .val (.ref (w4_UDP6 Z)), .val (.ref (w1_TCP6 Z))] [])
      refine own_step (fun _ k => XS.iconst X136.here hx rfl (hb hby at_43) k) ?_
      show own_Wp p e below _ T136 (mkF m 44 #[.val (.int p0), .val (.int p1), .val (.int (5 : Int32)), .val (.int (3 : Int32)), .val (.ref (w4_UDP6 Z)), .val (.ref (w1_TCP6 Z))] [(.int (1 : Int32))])
      refine own_step (fun _ k => XS.goto X136.here hx rfl (pc0 := 44) (pc' := 48) rfl (hb hby at_44) (by decide) (by decide) k) ?_
      show own_Wp p e below _ T136 (mkF m 48 #[.val (.int p0), .val (.int p1), .val (.int (5 : Int32)), .val (.int (3 : Int32)), .val (.ref (w4_UDP6 Z)), .val (.ref (w1_TCP6 Z))] [(.int (1 : Int32))])
      exact own_retN X136 hx (t := .boolean) hret (by simp) hlk (hb hby at_48) (by decide) (by decide) ⟨rfl, N136⟩
    · skip
      rw [hm]
      show own_Wp p e below _ s₁ (mkF m 15 #[.val (.int p0), .val (.int p1), .val (.int (5 : Int32)), .unset, .unset, .unset] [(.int (4 : Int32))])
      refine own_step (fun _ k => XS.istoreN X0.here hx rfl (hb hby at_15) rfl (l' := #[.val (.int p0), .val (.int p1), .val (.int (5 : Int32)), .val (.int (4 : Int32)), .unset, .unset]) rfl k) ?_
      show own_Wp p e below _ s₁ (mkF m 16 #[.val (.int p0), .val (.int p1), .val (.int (5 : Int32)), .val (.int (4 : Int32)), .unset, .unset] [])
      refine own_step (fun _ k => XS.iloadN X0.here hx rfl (hb hby at_16) rfl k) ?_
      show own_Wp p e below _ s₁ (mkF m 17 #[.val (.int p0), .val (.int p1), .val (.int (5 : Int32)), .val (.int (4 : Int32)), .unset, .unset] [(.int (5 : Int32))])
      obtain ⟨_, T137, L137, X137, hQ137, st137⟩ := own_callS X0 hx hZ hown (hw _ (List.mem_of_getElem? (i := 1) rfl)) (hw _ (List.mem_of_getElem? (i := 2) rfl)) (hw _ (List.mem_of_getElem? (i := 3) rfl)) (hw _ (List.mem_of_getElem? (i := 4) rfl)) (by decide) (rm1_21 l Z a0 hw hA [] h0 n0 O0) (W := 0) (by decide) (by decide) [(.int (5 : Int32))] rfl (lenOf pd1 rfl) (Ls := #[.val (.int p0), .val (.int p1), .val (.int (5 : Int32)), .val (.int (4 : Int32)), .unset, .unset]) (by rw [hml]; rfl) (rest := []) (Nat.le_of_eq rfl) (hb hby at_17) e0 (by decide) (by decide)
      refine st137 _ ?_
      obtain ⟨rfl, N137q, e137⟩ := hQ137
      have N137 := Fr.app (Fr.nil n0) N137q
      show own_Wp p e below _ T137 (mkF m 20 #[.val (.int p0), .val (.int p1), .val (.int (5 : Int32)), .val (.int (4 : Int32)), .unset, .unset] [(.ref (w4_UDP6 Z))])
      refine own_step (fun _ k => XS.astore X137.here hx rfl (hb hby at_20) rfl rfl (l' := #[.val (.int p0), .val (.int p1), .val (.int (5 : Int32)), .val (.int (4 : Int32)), .val (.ref (w4_UDP6 Z)), .unset]) rfl k) ?_
      show own_Wp p e below _ T137 (mkF m 22 #[.val (.int p0), .val (.int p1), .val (.int (5 : Int32)), .val (.int (4 : Int32)), .val (.ref (w4_UDP6 Z)), .unset] [])
      refine own_step (fun _ k => XS.iloadN X137.here hx rfl (hb hby at_22) rfl k) ?_
      show own_Wp p e below _ T137 (mkF m 23 #[.val (.int p0), .val (.int p1), .val (.int (5 : Int32)), .val (.int (4 : Int32)), .val (.ref (w4_UDP6 Z)), .unset] [(.int (4 : Int32))])
      obtain ⟨_, T138, L138, X138, hQ138, st138⟩ := own_callS X137 hx hZ hown (hw _ (List.mem_of_getElem? (i := 1) rfl)) (hw _ (List.mem_of_getElem? (i := 2) rfl)) (hw _ (List.mem_of_getElem? (i := 3) rfl)) (hw _ (List.mem_of_getElem? (i := 4) rfl)) (by decide) (rm1_17 l Z a0 hw hA [] h0 n0 O0) (W := 0) (by decide) (by decide) [(.int (4 : Int32))] rfl (lenOf pd1 rfl) (Ls := #[.val (.int p0), .val (.int p1), .val (.int (5 : Int32)), .val (.int (4 : Int32)), .val (.ref (w4_UDP6 Z)), .unset]) (by rw [hml]; rfl) (rest := []) (Nat.le_of_eq rfl) (hb hby at_23) e137 (by decide) (by decide)
      refine st138 _ ?_
      obtain ⟨rfl, N138q, e138⟩ := hQ138
      have N138 := Fr.app N137 N138q
      show own_Wp p e below _ T138 (mkF m 26 #[.val (.int p0), .val (.int p1), .val (.int (5 : Int32)), .val (.int (4 : Int32)), .val (.ref (w4_UDP6 Z)), .unset] [(.ref (w5_UDP Z))])
      refine own_step (fun _ k => XS.astore X138.here hx rfl (hb hby at_26) rfl rfl (l' := #[.val (.int p0), .val (.int p1), .val (.int (5 : Int32)), .val (.int (4 : Int32)), .val (.ref (w4_UDP6 Z)), .val (.ref (w5_UDP Z))]) rfl k) ?_
      show own_Wp p e below _ T138 (mkF m 28 #[.val (.int p0), .val (.int p1), .val (.int (5 : Int32)), .val (.int (4 : Int32)), .val (.ref (w4_UDP6 Z)), .val (.ref (w5_UDP Z))] [])
      refine own_step (fun _ k => XS.aload X138.here hx rfl (hb hby at_28) rfl rfl k) ?_
      show own_Wp p e below _ T138 (mkF m 30 #[.val (.int p0), .val (.int p1), .val (.int (5 : Int32)), .val (.int (4 : Int32)), .val (.ref (w4_UDP6 Z)), .val (.ref (w5_UDP Z))] [(.ref (w4_UDP6 Z))])
      refine own_step (fun _ k => XS.aload X138.here hx rfl (hb hby at_30) rfl rfl k) ?_
      show own_Wp p e below _ T138 (mkF m 32 #[.val (.int p0), .val (.int p1), .val (.int (5 : Int32)), .val (.int (4 : Int32)), .val (.ref (w4_UDP6 Z)), .val (.ref (w5_UDP Z))] [(.ref (w5_UDP Z)), (.ref (w4_UDP6 Z))])
      obtain ⟨_, T139, L139, X139, hQ139, st139⟩ := own_callV X138 hx hZ hown (hw _ (List.mem_of_getElem? (i := 10) rfl)) (hw _ (List.mem_of_getElem? (i := 11) rfl)) (notFace_of_selects (args := #[]) (mvT hZ (hw _ (List.mem_of_getElem? (i := 13) rfl)))) (hw _ (List.mem_of_getElem? (i := 13) rfl)) (hw _ (List.mem_of_getElem? (i := 12) rfl)) (hw _ (List.mem_of_getElem? (i := 6) rfl)) (hw _ (List.mem_of_getElem? (i := 14) rfl)) (by decide) ((ex_w4_UDP6 hw hA).ext O0.2) (rm2_25 l Z a0 hw hA [] (w4_UDP6 Z) (w5_UDP Z) h0 n0 O0 (fl4 hw hA) (fl5 hw hA)) (W := 0) (by decide) (by decide) [(.ref (w5_UDP Z))] rfl (lenOf pd3 rfl) (Ls := #[.val (.int p0), .val (.int p1), .val (.int (5 : Int32)), .val (.int (4 : Int32)), .val (.ref (w4_UDP6 Z)), .val (.ref (w5_UDP Z))]) (by rw [hml]; rfl) (rest := []) (Nat.le_of_eq rfl) (hb hby at_32) e138 (by decide) (by decide)
      refine st139 _ ?_
      obtain ⟨rfl, N139q, e139⟩ := hQ139
      have N139 := Fr.app N138 N139q
      show own_Wp p e below _ T139 (mkF m 35 #[.val (.int p0), .val (.int p1), .val (.int (5 : Int32)), .val (.int (4 : Int32)), .val (.ref (w4_UDP6 Z)), .val (.ref (w5_UDP Z))] [(.int (0 : Int32))])
      refine own_step (fun _ k => XS.iloadN X139.here hx rfl (hb hby at_35) rfl k) ?_
      show own_Wp p e below _ T139 (mkF m 36 #[.val (.int p0), .val (.int p1), .val (.int (5 : Int32)), .val (.int (4 : Int32)), .val (.ref (w4_UDP6 Z)), .val (.ref (w5_UDP Z))] [(.int (5 : Int32)), (.int (0 : Int32))])
      refine own_step (fun _ k => XS.iloadN X139.here hx rfl (hb hby at_36) rfl k) ?_
      show own_Wp p e below _ T139 (mkF m 37 #[.val (.int p0), .val (.int p1), .val (.int (5 : Int32)), .val (.int (4 : Int32)), .val (.ref (w4_UDP6 Z)), .val (.ref (w5_UDP Z))] [(.int (4 : Int32)), (.int (5 : Int32)), (.int (0 : Int32))])
      obtain ⟨_, T140, L140, X140, hQ140, st140⟩ := own_callS X139 hx hZ hown (hw _ (List.mem_of_getElem? (i := 17) rfl)) (hw _ (List.mem_of_getElem? (i := 18) rfl)) (hw _ (List.mem_of_getElem? (i := 3) rfl)) (hw _ (List.mem_of_getElem? (i := 19) rfl)) (by decide) (rm3_110 l Z a0 hw hA [] h0 n0 O0) (W := 1) (by decide) (by decide) [(.int (5 : Int32)), (.int (4 : Int32))] rfl (lenOf pd4 rfl) (Ls := #[.val (.int p0), .val (.int p1), .val (.int (5 : Int32)), .val (.int (4 : Int32)), .val (.ref (w4_UDP6 Z)), .val (.ref (w5_UDP Z))]) (by rw [hml]; rfl) (rest := [(.int (0 : Int32))]) (Nat.le_of_eq rfl) (hb hby at_37) e139 (by decide) (by decide)
      refine st140 _ ?_
      obtain ⟨rfl, N140q, e140⟩ := hQ140
      have N140 := Fr.app N139 N140q
      show own_Wp p e below _ T140 (mkF m 40 #[.val (.int p0), .val (.int p1), .val (.int (5 : Int32)), .val (.int (4 : Int32)), .val (.ref (w4_UDP6 Z)), .val (.ref (w5_UDP Z))] [(.int (0 : Int32)), (.int (0 : Int32))])
      refine own_step (fun _ k => XS.icmpNo X140.here hx rfl (hb hby at_40) rfl (by decide) k) ?_
      show own_Wp p e below _ T140 (mkF m 43 #[.val (.int p0), .val (.int p1), .val (.int (5 : Int32)), .val (.int (4 : Int32)), .val (.ref (w4_UDP6 Z)), .val (.ref (w5_UDP Z))] [])
      refine own_step (fun _ k => XS.iconst X140.here hx rfl (hb hby at_43) k) ?_
      show own_Wp p e below _ T140 (mkF m 44 #[.val (.int p0), .val (.int p1), .val (.int (5 : Int32)), .val (.int (4 : Int32)), .val (.ref (w4_UDP6 Z)), .val (.ref (w5_UDP Z))] [(.int (1 : Int32))])
      refine own_step (fun _ k => XS.goto X140.here hx rfl (pc0 := 44) (pc' := 48) rfl (hb hby at_44) (by decide) (by decide) k) ?_
      show own_Wp p e below _ T140 (mkF m 48 #[.val (.int p0), .val (.int p1), .val (.int (5 : Int32)), .val (.int (4 : Int32)), .val (.ref (w4_UDP6 Z)), .val (.ref (w5_UDP Z))] [(.int (1 : Int32))])
      exact own_retN X140 hx (t := .boolean) hret (by simp) hlk (hb hby at_48) (by decide) (by decide) ⟨rfl, N140⟩
    · skip
      rw [hm]
      show own_Wp p e below _ s₁ (mkF m 15 #[.val (.int p0), .val (.int p1), .val (.int (5 : Int32)), .unset, .unset, .unset] [(.int (5 : Int32))])
      refine own_step (fun _ k => XS.istoreN X0.here hx rfl (hb hby at_15) rfl (l' := #[.val (.int p0), .val (.int p1), .val (.int (5 : Int32)), .val (.int (5 : Int32)), .unset, .unset]) rfl k) ?_
      show own_Wp p e below _ s₁ (mkF m 16 #[.val (.int p0), .val (.int p1), .val (.int (5 : Int32)), .val (.int (5 : Int32)), .unset, .unset] [])
      refine own_step (fun _ k => XS.iloadN X0.here hx rfl (hb hby at_16) rfl k) ?_
      show own_Wp p e below _ s₁ (mkF m 17 #[.val (.int p0), .val (.int p1), .val (.int (5 : Int32)), .val (.int (5 : Int32)), .unset, .unset] [(.int (5 : Int32))])
      obtain ⟨_, T141, L141, X141, hQ141, st141⟩ := own_callS X0 hx hZ hown (hw _ (List.mem_of_getElem? (i := 1) rfl)) (hw _ (List.mem_of_getElem? (i := 2) rfl)) (hw _ (List.mem_of_getElem? (i := 3) rfl)) (hw _ (List.mem_of_getElem? (i := 4) rfl)) (by decide) (rm1_21 l Z a0 hw hA [] h0 n0 O0) (W := 0) (by decide) (by decide) [(.int (5 : Int32))] rfl (lenOf pd1 rfl) (Ls := #[.val (.int p0), .val (.int p1), .val (.int (5 : Int32)), .val (.int (5 : Int32)), .unset, .unset]) (by rw [hml]; rfl) (rest := []) (Nat.le_of_eq rfl) (hb hby at_17) e0 (by decide) (by decide)
      refine st141 _ ?_
      obtain ⟨rfl, N141q, e141⟩ := hQ141
      have N141 := Fr.app (Fr.nil n0) N141q
      show own_Wp p e below _ T141 (mkF m 20 #[.val (.int p0), .val (.int p1), .val (.int (5 : Int32)), .val (.int (5 : Int32)), .unset, .unset] [(.ref (w4_UDP6 Z))])
      refine own_step (fun _ k => XS.astore X141.here hx rfl (hb hby at_20) rfl rfl (l' := #[.val (.int p0), .val (.int p1), .val (.int (5 : Int32)), .val (.int (5 : Int32)), .val (.ref (w4_UDP6 Z)), .unset]) rfl k) ?_
      show own_Wp p e below _ T141 (mkF m 22 #[.val (.int p0), .val (.int p1), .val (.int (5 : Int32)), .val (.int (5 : Int32)), .val (.ref (w4_UDP6 Z)), .unset] [])
      refine own_step (fun _ k => XS.iloadN X141.here hx rfl (hb hby at_22) rfl k) ?_
      show own_Wp p e below _ T141 (mkF m 23 #[.val (.int p0), .val (.int p1), .val (.int (5 : Int32)), .val (.int (5 : Int32)), .val (.ref (w4_UDP6 Z)), .unset] [(.int (5 : Int32))])
      obtain ⟨_, T142, L142, X142, hQ142, st142⟩ := own_callS X141 hx hZ hown (hw _ (List.mem_of_getElem? (i := 1) rfl)) (hw _ (List.mem_of_getElem? (i := 2) rfl)) (hw _ (List.mem_of_getElem? (i := 3) rfl)) (hw _ (List.mem_of_getElem? (i := 4) rfl)) (by decide) (rm1_21 l Z a0 hw hA [] h0 n0 O0) (W := 0) (by decide) (by decide) [(.int (5 : Int32))] rfl (lenOf pd1 rfl) (Ls := #[.val (.int p0), .val (.int p1), .val (.int (5 : Int32)), .val (.int (5 : Int32)), .val (.ref (w4_UDP6 Z)), .unset]) (by rw [hml]; rfl) (rest := []) (Nat.le_of_eq rfl) (hb hby at_23) e141 (by decide) (by decide)
      refine st142 _ ?_
      obtain ⟨rfl, N142q, e142⟩ := hQ142
      have N142 := Fr.app N141 N142q
      show own_Wp p e below _ T142 (mkF m 26 #[.val (.int p0), .val (.int p1), .val (.int (5 : Int32)), .val (.int (5 : Int32)), .val (.ref (w4_UDP6 Z)), .unset] [(.ref (w4_UDP6 Z))])
      refine own_step (fun _ k => XS.astore X142.here hx rfl (hb hby at_26) rfl rfl (l' := #[.val (.int p0), .val (.int p1), .val (.int (5 : Int32)), .val (.int (5 : Int32)), .val (.ref (w4_UDP6 Z)), .val (.ref (w4_UDP6 Z))]) rfl k) ?_
      show own_Wp p e below _ T142 (mkF m 28 #[.val (.int p0), .val (.int p1), .val (.int (5 : Int32)), .val (.int (5 : Int32)), .val (.ref (w4_UDP6 Z)), .val (.ref (w4_UDP6 Z))] [])
      refine own_step (fun _ k => XS.aload X142.here hx rfl (hb hby at_28) rfl rfl k) ?_
      show own_Wp p e below _ T142 (mkF m 30 #[.val (.int p0), .val (.int p1), .val (.int (5 : Int32)), .val (.int (5 : Int32)), .val (.ref (w4_UDP6 Z)), .val (.ref (w4_UDP6 Z))] [(.ref (w4_UDP6 Z))])
      refine own_step (fun _ k => XS.aload X142.here hx rfl (hb hby at_30) rfl rfl k) ?_
      show own_Wp p e below _ T142 (mkF m 32 #[.val (.int p0), .val (.int p1), .val (.int (5 : Int32)), .val (.int (5 : Int32)), .val (.ref (w4_UDP6 Z)), .val (.ref (w4_UDP6 Z))] [(.ref (w4_UDP6 Z)), (.ref (w4_UDP6 Z))])
      obtain ⟨_, T143, L143, X143, hQ143, st143⟩ := own_callV X142 hx hZ hown (hw _ (List.mem_of_getElem? (i := 10) rfl)) (hw _ (List.mem_of_getElem? (i := 11) rfl)) (notFace_of_selects (args := #[]) (mvT hZ (hw _ (List.mem_of_getElem? (i := 13) rfl)))) (hw _ (List.mem_of_getElem? (i := 13) rfl)) (hw _ (List.mem_of_getElem? (i := 12) rfl)) (hw _ (List.mem_of_getElem? (i := 6) rfl)) (hw _ (List.mem_of_getElem? (i := 14) rfl)) (by decide) ((ex_w4_UDP6 hw hA).ext O0.2) (rm2_29 l Z a0 hw hA [] (w4_UDP6 Z) h0 n0 O0 (fl4 hw hA)) (W := 0) (by decide) (by decide) [(.ref (w4_UDP6 Z))] rfl (lenOf pd3 rfl) (Ls := #[.val (.int p0), .val (.int p1), .val (.int (5 : Int32)), .val (.int (5 : Int32)), .val (.ref (w4_UDP6 Z)), .val (.ref (w4_UDP6 Z))]) (by rw [hml]; rfl) (rest := []) (Nat.le_of_eq rfl) (hb hby at_32) e142 (by decide) (by decide)
      refine st143 _ ?_
      obtain ⟨rfl, N143q, e143⟩ := hQ143
      have N143 := Fr.app N142 N143q
      show own_Wp p e below _ T143 (mkF m 35 #[.val (.int p0), .val (.int p1), .val (.int (5 : Int32)), .val (.int (5 : Int32)), .val (.ref (w4_UDP6 Z)), .val (.ref (w4_UDP6 Z))] [(.int (1 : Int32))])
      refine own_step (fun _ k => XS.iloadN X143.here hx rfl (hb hby at_35) rfl k) ?_
      show own_Wp p e below _ T143 (mkF m 36 #[.val (.int p0), .val (.int p1), .val (.int (5 : Int32)), .val (.int (5 : Int32)), .val (.ref (w4_UDP6 Z)), .val (.ref (w4_UDP6 Z))] [(.int (5 : Int32)), (.int (1 : Int32))])
      refine own_step (fun _ k => XS.iloadN X143.here hx rfl (hb hby at_36) rfl k) ?_
      show own_Wp p e below _ T143 (mkF m 37 #[.val (.int p0), .val (.int p1), .val (.int (5 : Int32)), .val (.int (5 : Int32)), .val (.ref (w4_UDP6 Z)), .val (.ref (w4_UDP6 Z))] [(.int (5 : Int32)), (.int (5 : Int32)), (.int (1 : Int32))])
      obtain ⟨_, T144, L144, X144, hQ144, st144⟩ := own_callS X143 hx hZ hown (hw _ (List.mem_of_getElem? (i := 17) rfl)) (hw _ (List.mem_of_getElem? (i := 18) rfl)) (hw _ (List.mem_of_getElem? (i := 3) rfl)) (hw _ (List.mem_of_getElem? (i := 19) rfl)) (by decide) (rm3_111 l Z a0 hw hA [] h0 n0 O0) (W := 1) (by decide) (by decide) [(.int (5 : Int32)), (.int (5 : Int32))] rfl (lenOf pd4 rfl) (Ls := #[.val (.int p0), .val (.int p1), .val (.int (5 : Int32)), .val (.int (5 : Int32)), .val (.ref (w4_UDP6 Z)), .val (.ref (w4_UDP6 Z))]) (by rw [hml]; rfl) (rest := [(.int (1 : Int32))]) (Nat.le_of_eq rfl) (hb hby at_37) e143 (by decide) (by decide)
      refine st144 _ ?_
      obtain ⟨rfl, N144q, e144⟩ := hQ144
      have N144 := Fr.app N143 N144q
      show own_Wp p e below _ T144 (mkF m 40 #[.val (.int p0), .val (.int p1), .val (.int (5 : Int32)), .val (.int (5 : Int32)), .val (.ref (w4_UDP6 Z)), .val (.ref (w4_UDP6 Z))] [(.int (1 : Int32)), (.int (1 : Int32))])
      refine own_step (fun _ k => XS.icmpNo X144.here hx rfl (hb hby at_40) rfl (by decide) k) ?_
      show own_Wp p e below _ T144 (mkF m 43 #[.val (.int p0), .val (.int p1), .val (.int (5 : Int32)), .val (.int (5 : Int32)), .val (.ref (w4_UDP6 Z)), .val (.ref (w4_UDP6 Z))] [])
      refine own_step (fun _ k => XS.iconst X144.here hx rfl (hb hby at_43) k) ?_
      show own_Wp p e below _ T144 (mkF m 44 #[.val (.int p0), .val (.int p1), .val (.int (5 : Int32)), .val (.int (5 : Int32)), .val (.ref (w4_UDP6 Z)), .val (.ref (w4_UDP6 Z))] [(.int (1 : Int32))])
      refine own_step (fun _ k => XS.goto X144.here hx rfl (pc0 := 44) (pc' := 48) rfl (hb hby at_44) (by decide) (by decide) k) ?_
      show own_Wp p e below _ T144 (mkF m 48 #[.val (.int p0), .val (.int p1), .val (.int (5 : Int32)), .val (.int (5 : Int32)), .val (.ref (w4_UDP6 Z)), .val (.ref (w4_UDP6 Z))] [(.int (1 : Int32))])
      exact own_retN X144 hx (t := .boolean) hret (by simp) hlk (hb hby at_48) (by decide) (by decide) ⟨rfl, N144⟩
set_option maxRecDepth 65536 in
set_option maxHeartbeats 40000000 in
theorem comes_1 {Post : Tables → Env → Array Value → State → Outcome → State → Prop} (hpost : ∀ tb e args s v u, (limb_1_1.after args s (.returned v) u = true ∧ limb_1_2.after args s (.returned v) u = true ∧ True) → FrameEnd s (.returned v) u (Jvm.fieldLocs frame_1_writes args s ++ Jvm.arrayLocs frame_1_arrays args s ++ Jvm.staticLocs frame_1_statics s) 0 0 → Post tb e args s (.returned v) u) :
    ArmFor flags0 classFile x code maxLocals ret World_1 tables_1 room_1 Calls_1 rest_1 Pre_1 Post := by
  intro l hfl _ _ p e ha hc hk s m args below hf hA hF happ hP
  obtain ⟨hcalls, hrest, hpre⟩ := hP
  obtain ⟨-, -, -, hnamed, -, -, -, hat⟩ := (Spec.applies_iff hf).mp happ
  obtain ⟨hg, hn⟩ := and_e (Cond.before_iff.mp (show (Jvm.Cond.and given_1 narrow_1).before args s = true from hpre))
  obtain ⟨gg1, gg2⟩ := and_e hg
  obtain ⟨gg3, gg4⟩ := and_e gg2
  obtain ⟨w0, w1, rfl⟩ : ∃ w0 w1 : Value, args = #[w0, w1] := by
    have hs : args.size = 2 := by simpa [Cond.value, given_1] using gg1
    obtain ⟨L⟩ := args
    match L, hs with
    | [w0, w1], _ => exact ⟨w0, w1, rfl⟩
  have hw := fun d (hd : d ∈ tables_1) => atoms_spec (ws := Jvm.Cond.code x code maxLocals ret :: tables_1) hat d (List.mem_cons_of_mem _ hd)
  have hfit : Fit s := fun {y c} hc i hi => by
    obtain ⟨ha, rfl⟩ := Array.getElem?_eq_some_iff.mp hc
    have q := List.all_eq_true.mp ((Array.all_eq_true_iff_forall_mem.mp hF) _ (Array.getElem_mem ha)) i (List.mem_range.mpr hi)
    simpa [Array.getElem?_eq_getElem hi] using q
  obtain ⟨i0, ei0⟩ := is_v gg3
  obtain rfl : w0 = (.int i0) := Option.some.inj ei0
  obtain ⟨i1, ei1⟩ := is_v gg4
  obtain rfl : w1 = (.int i1) := Option.some.inj ei1
  obtain ⟨n, o, h1, h2, h3, _, L, rfl, ⟨rfl, N⟩, hq⟩ := rm0 l s _ hw (own_mem narrow_1 hn) tables_1 i0 i1 s.heap s.heap.size (Old.start s) p e ha hc hk s m _ below hf ((Spec.applies_iff_loose hf).mp happ).1 ⟨rfl, State.Warmed39.refl s, rfl⟩ trivial
  refine ⟨n, _, h1, h2, h3, hpost _ _ _ _ _ _ ⟨Cond.after_iff.mpr rfl, Cond.after_iff.mpr (eq_i res_at (Term.int_eval (1)) rfl), trivial⟩ ⟨hq.1, hq.2.1, (hq.2.2.sift fun y hy => Or.inr (N y hy)).mono (by decide) (by decide)⟩⟩
theorem main_1_1 : Claimed_1_1 := comes_1 fun _ _ _ _ _ _ h hF => ⟨h.1, hF⟩
theorem main_1_2 : Claimed_1_2 := comes_1 fun _ _ _ _ _ _ h hF => ⟨h.2.1, hF⟩

end Jvm.Pilot.@@N@@
namespace Jvm.Pilot.@@N@@
open Jvm Jvm.ClassFile Sem Op Lib Jvm.Free Jvm.Stand Jvm.Pilot.@@N@@.Jvm.D
/-! MADE BY PROGRAM (witnessworld.py) out of the Statement's table words and the real class files: 13 classes; the members and pool entries that the words name. The judged class is class 1, her method 3. -/
namespace start1
open Jvm.ClassFile
def u (s : String) : CpInfo := .utf8 (stringToUtf16 s)
/-- a pool by its gaps: so many unusable entries, then the entry; so many at the end -/
def gap : Nat → List CpInfo → List CpInfo
  | 0, r => r
  | n + 1, r => .unusable :: gap n r
def poolList (es : List (Nat × CpInfo)) (last : Nat) : List CpInfo := es.foldr (fun e r => gap e.1 (e.2 :: r)) (gap last [])
def pool (es : List (Nat × CpInfo)) (last : Nat) : Array CpInfo := ⟨poolList es last⟩
def fileOf (pool : Array CpInfo) (this : Nat) (attrs : Array Attribute := #[]) (ms : Array MethodInfo := #[]) (fl : Nat := 33) (sup : Nat := 0) (ifs : Array Nat := #[]) (fds : Array FieldInfo := #[]) : ClassFile where
  minorVersion := 0
  majorVersion := 65
  constantPool := pool
  accessFlags := fl
  thisClass := this
  superClass := sup
  interfaces := ifs
  fields := fds
  methods := ms
  attributes := attrs
def plain (name : String) (sup : Option ClassId) : Class where
  name := name
  kind := .ordinary
  loader := none
  accessFlags := 33
  super := sup
  interfaces := #[]
  cf := none
  fields := #[]
  methods := #[]
  instanceTypes := #[]
  staticTypes := #[]
  resolved := #[]
  callSites := []
  init := .initialized
  statics := none
  mirror := none

def pool0 : Array CpInfo := pool [(5, u "<init>"), (0, u "()V"), (1, .class_ 10), (1, u "java/lang/Object")] 113

def k0m0 : Method := { name := "<init>", desc := "()V", sig := { parameters := [], returnType := none }, accessFlags := 1, code := none }
/-- java/lang/Object -/
def k0 : Class := { plain "java/lang/Object" none with
  accessFlags := 33
  interfaces := #[]
  cf := some (fileOf pool0 8 #[] #[{ accessFlags := 1, nameIndex := 5, descriptorIndex := 6, attributes := #[] }] 33 0 #[] #[])
  fields := #[]
  methods := #[k0m0]
  instanceTypes := #[]
  staticTypes := #[]
  resolved := Array.replicate 124 none
  statics := none }

def pool1 : Array CpInfo := pool [(2, .class_ 4), (1, u "java/lang/Object"), (0, u "<init>"), (0, u "()V"), (0, .fieldref 8 9), (0, .class_ 10), (0, .nameAndType 11 12), (0, u "com/example/pathfare/pathfare/alto/EndpointAddress$Type"), (0, u "IPV4"), (0, u "Lcom/example/pathfare/pathfare/alto/EndpointAddress$Type;"), (0, .fieldref 8 14), (0, .nameAndType 15 12), (0, u "IPV6"), (0, .fieldref 8 17), (0, .nameAndType 18 12), (0, u "TCP"), (0, .fieldref 8 20), (0, .nameAndType 21 12), (0, u "TCP6"), (0, .fieldref 8 23), (0, .nameAndType 24 12), (0, u "UDP"), (0, .fieldref 8 26), (0, .nameAndType 27 12), (0, u "UDP6"), (0, .methodref 29 30), (0, .class_ 31), (0, .nameAndType 32 33), (0, u "java/lang/Math"), (0, u "min"), (0, u "(II)I"), (0, .methodref 29 35), (0, .nameAndType 36 33), (0, u "max"), (0, .integer 2147483647), (0, .methodref 39 40), (0, .class_ 41), (0, .nameAndType 42 43), (0, u "com/example/pathfare/pathfare/alto/TypeIsCompatibleWithPinLaw"), (0, u "pick"), (0, u "(I)Lcom/example/pathfare/pathfare/alto/EndpointAddress$Type;"), (0, .methodref 8 45), (0, .nameAndType 46 47), (0, u "isCompatibleWith"), (0, u "(Lcom/example/pathfare/pathfare/alto/EndpointAddress$Type;)Z"), (0, .methodref 39 49), (0, .nameAndType 50 51), (0, u "expected"), (0, u "(II)Z"), (3, u "law")] 6

def k1m0 : Method := { name := "<init>", desc := "()V", sig := { parameters := [], returnType := none }, accessFlags := 1, code := none }
def k1c1 : Code := { maxStack := 2, maxLocals := 1, code := method_2_code, exceptionTable := #[], attributes := #[] }
def k1m1 : Method := { name := "pick", desc := "(I)Lcom/example/pathfare/pathfare/alto/EndpointAddress$Type;", sig := { parameters := [.int], returnType := some (.object "com/example/pathfare/pathfare/alto/EndpointAddress$Type") }, accessFlags := 10, code := some k1c1 }
def k1c2 : Code := { maxStack := 2, maxLocals := 4, code := method_3_code, exceptionTable := #[], attributes := #[] }
def k1m2 : Method := { name := "expected", desc := "(II)Z", sig := { parameters := [.int, .int], returnType := some .boolean }, accessFlags := 10, code := some k1c2 }
def k1c3 : Code := { maxStack := 3, maxLocals := 6, code := code, exceptionTable := #[], attributes := #[] }
def k1m3 : Method := { name := "law", desc := "(II)Z", sig := { parameters := [.int, .int], returnType := some .boolean }, accessFlags := 9, code := some k1c3 }
/-- com/example/pathfare/pathfare/alto/TypeIsCompatibleWithPinLaw -/
def k1 : Class := { plain "com/example/pathfare/pathfare/alto/TypeIsCompatibleWithPinLaw" (some 0) with
  accessFlags := 49
  interfaces := #[]
  cf := some (fileOf pool1 39 #[] #[{ accessFlags := 1, nameIndex := 5, descriptorIndex := 6, attributes := #[] }, { accessFlags := 10, nameIndex := 42, descriptorIndex := 43, attributes := #[] }, { accessFlags := 10, nameIndex := 50, descriptorIndex := 51, attributes := #[] }, { accessFlags := 9, nameIndex := 55, descriptorIndex := 51, attributes := #[] }] 49 2 #[] #[])
  fields := #[]
  methods := #[k1m0, k1m1, k1m2, k1m3]
  instanceTypes := #[]
  staticTypes := #[]
  resolved := Array.replicate 62 none
  statics := none }

def pool2 : Array CpInfo := pool [(1, .class_ 2), (0, u "java/lang/constant/Constable"), (0, .class_ 4), (0, u "java/lang/Object")] 6

/-- java/lang/constant/Constable -/
def k2 : Class := { plain "java/lang/constant/Constable" (some 0) with
  accessFlags := 1537
  interfaces := #[]
  cf := some (fileOf pool2 1 #[] #[] 1537 3 #[] #[])
  fields := #[]
  methods := #[]
  instanceTypes := #[]
  staticTypes := #[]
  resolved := Array.replicate 11 none
  statics := none }

def pool3 : Array CpInfo := pool [(1, .class_ 2), (0, u "java/lang/Comparable"), (0, .class_ 4), (0, u "java/lang/Object")] 7

/-- java/lang/Comparable -/
def k3 : Class := { plain "java/lang/Comparable" (some 0) with
  accessFlags := 1537
  interfaces := #[]
  cf := some (fileOf pool3 1 #[] #[] 1537 3 #[] #[])
  fields := #[]
  methods := #[]
  instanceTypes := #[]
  staticTypes := #[]
  resolved := Array.replicate 12 none
  statics := none }

def pool4 : Array CpInfo := pool [(1, .class_ 2), (0, u "java/io/Serializable"), (0, .class_ 4), (0, u "java/lang/Object")] 2

/-- java/io/Serializable -/
def k4 : Class := { plain "java/io/Serializable" (some 0) with
  accessFlags := 1537
  interfaces := #[]
  cf := some (fileOf pool4 1 #[] #[] 1537 3 #[] #[])
  fields := #[]
  methods := #[]
  instanceTypes := #[]
  staticTypes := #[]
  resolved := Array.replicate 7 none
  statics := none }

def pool5 : Array CpInfo := pool [(2, .class_ 4), (1, u "java/lang/Enum"), (0, u "name"), (0, u "Ljava/lang/String;"), (2, u "ordinal"), (0, u "I"), (1, .class_ 14), (1, u "java/lang/Object"), (4, u "hash"), (86, .class_ 108), (1, u "java/lang/Enum$EnumDesc"), (2, .class_ 112), (0, u "java/lang/constant/Constable"), (0, .class_ 114), (0, u "java/lang/Comparable"), (0, .class_ 116), (0, u "java/io/Serializable")] 87

/-- java/lang/Enum -/
def k5 : Class := { plain "java/lang/Enum" (some 0) with
  accessFlags := 1057
  interfaces := #[2, 3, 4]
  cf := some (fileOf pool5 2 #[.nestMembers #[106]] #[] 1057 12 #[111, 113, 115] #[{ accessFlags := 18, nameIndex := 5, descriptorIndex := 6, attributes := #[] }, { accessFlags := 18, nameIndex := 9, descriptorIndex := 10, attributes := #[] }, { accessFlags := 2, nameIndex := 19, descriptorIndex := 10, attributes := #[] }])
  fields := #[{ name := "name", type := (.object "java/lang/String"), accessFlags := 18, slot := 0, constantValue := 0 }, { name := "ordinal", type := .int, accessFlags := 18, slot := 1, constantValue := 0 }, { name := "hash", type := .int, accessFlags := 2, slot := 2, constantValue := 0 }]
  methods := #[]
  instanceTypes := #[(.object "java/lang/String"), .int, .int]
  staticTypes := #[]
  resolved := Array.replicate 204 none
  statics := none }

def pool6 : Array CpInfo := pool [(1, .class_ 2), (0, u "com/example/pathfare/pathfare/alto/EndpointAddress$Type"), (2, u "IPV4"), (0, u "Lcom/example/pathfare/pathfare/alto/EndpointAddress$Type;"), (2, u "IPV6"), (2, u "TCP"), (2, u "TCP6"), (2, u "UDP"), (2, u "UDP6"), (2, u "$VALUES"), (0, u "[Lcom/example/pathfare/pathfare/alto/EndpointAddress$Type;"), (6, .class_ 34), (1, u "java/lang/Enum"), (8, u "written"), (0, u "Ljava/lang/String;"), (0, .fieldref 1 46), (0, .nameAndType 47 48), (0, u "ipv4"), (0, u "Z"), (0, .fieldref 1 50), (0, .nameAndType 51 48), (0, u "socket"), (42, u "isCompatibleWith"), (0, u "(Lcom/example/pathfare/pathfare/alto/EndpointAddress$Type;)Z"), (8, .class_ 105), (0, u "com/example/pathfare/pathfare/alto/EndpointAddress")] 2

def k6c0 : Code := { maxStack := 2, maxLocals := 2, code := prog_3_method_6_code, exceptionTable := #[], attributes := #[] }
def k6m0 : Method := { name := "isCompatibleWith", desc := "(Lcom/example/pathfare/pathfare/alto/EndpointAddress$Type;)Z", sig := { parameters := [(.object "com/example/pathfare/pathfare/alto/EndpointAddress$Type")], returnType := some .boolean }, accessFlags := 0, code := some k6c0 }
/-- com/example/pathfare/pathfare/alto/EndpointAddress$Type -/
def k6 : Class := { plain "com/example/pathfare/pathfare/alto/EndpointAddress$Type" (some 5) with
  accessFlags := 16432
  interfaces := #[]
  cf := some (fileOf pool6 1 #[.nestHost 104] #[{ accessFlags := 0, nameIndex := 94, descriptorIndex := 95, attributes := #[] }] 16432 32 #[] #[{ accessFlags := 16409, nameIndex := 5, descriptorIndex := 6, attributes := #[] }, { accessFlags := 16409, nameIndex := 9, descriptorIndex := 6, attributes := #[] }, { accessFlags := 16409, nameIndex := 12, descriptorIndex := 6, attributes := #[] }, { accessFlags := 16409, nameIndex := 15, descriptorIndex := 6, attributes := #[] }, { accessFlags := 16409, nameIndex := 18, descriptorIndex := 6, attributes := #[] }, { accessFlags := 16409, nameIndex := 21, descriptorIndex := 6, attributes := #[] }, { accessFlags := 18, nameIndex := 43, descriptorIndex := 44, attributes := #[] }, { accessFlags := 18, nameIndex := 47, descriptorIndex := 48, attributes := #[] }, { accessFlags := 18, nameIndex := 51, descriptorIndex := 48, attributes := #[] }, { accessFlags := 4122, nameIndex := 24, descriptorIndex := 25, attributes := #[] }])
  fields := #[{ name := "IPV4", type := (.object "com/example/pathfare/pathfare/alto/EndpointAddress$Type"), accessFlags := 16409, slot := 0, constantValue := 0 }, { name := "IPV6", type := (.object "com/example/pathfare/pathfare/alto/EndpointAddress$Type"), accessFlags := 16409, slot := 1, constantValue := 0 }, { name := "TCP", type := (.object "com/example/pathfare/pathfare/alto/EndpointAddress$Type"), accessFlags := 16409, slot := 2, constantValue := 0 }, { name := "TCP6", type := (.object "com/example/pathfare/pathfare/alto/EndpointAddress$Type"), accessFlags := 16409, slot := 3, constantValue := 0 }, { name := "UDP", type := (.object "com/example/pathfare/pathfare/alto/EndpointAddress$Type"), accessFlags := 16409, slot := 4, constantValue := 0 }, { name := "UDP6", type := (.object "com/example/pathfare/pathfare/alto/EndpointAddress$Type"), accessFlags := 16409, slot := 5, constantValue := 0 }, { name := "written", type := (.object "java/lang/String"), accessFlags := 18, slot := 3, constantValue := 0 }, { name := "ipv4", type := .boolean, accessFlags := 18, slot := 4, constantValue := 0 }, { name := "socket", type := .boolean, accessFlags := 18, slot := 5, constantValue := 0 }, { name := "$VALUES", type := (.array (.object "com/example/pathfare/pathfare/alto/EndpointAddress$Type")), accessFlags := 4122, slot := 6, constantValue := 0 }]
  methods := #[k6m0]
  instanceTypes := #[(.object "java/lang/String"), .int, .int, (.object "java/lang/String"), .boolean, .boolean]
  staticTypes := #[(.object "com/example/pathfare/pathfare/alto/EndpointAddress$Type"), (.object "com/example/pathfare/pathfare/alto/EndpointAddress$Type"), (.object "com/example/pathfare/pathfare/alto/EndpointAddress$Type"), (.object "com/example/pathfare/pathfare/alto/EndpointAddress$Type"), (.object "com/example/pathfare/pathfare/alto/EndpointAddress$Type"), (.object "com/example/pathfare/pathfare/alto/EndpointAddress$Type"), (.array (.object "com/example/pathfare/pathfare/alto/EndpointAddress$Type"))]
  resolved := Array.replicate 108 none
  statics := some 0 }

def pool7 : Array CpInfo := pool [(1, .class_ 2), (0, u "java/lang/Math"), (1, .class_ 6), (1, u "java/lang/Object"), (0, u "<init>"), (0, u "()V"), (89, .class_ 100), (1, u "java/lang/Math$RandomNumberGeneratorHolder"), (71, u "negativeZeroFloatBits"), (0, u "J"), (2, u "negativeZeroDoubleBits"), (21, u "max"), (2, u "min"), (43, u "$assertionsDisabled"), (0, u "Z"), (88, u "(II)I"), (2, u "twoToTheDoubleScaleDown"), (0, u "D"), (4, u "twoToTheDoubleScaleUp"), (9, u "E"), (3, u "PI"), (2, u "TAU"), (2, u "DEGREES_TO_RADIANS"), (0, u "RADIANS_TO_DEGREES")] 94

def k7m0 : Method := { name := "<init>", desc := "()V", sig := { parameters := [], returnType := none }, accessFlags := 2, code := none }
def k7c1 : Code := { maxStack := 2, maxLocals := 2, code := jdk_29_method_65_code, exceptionTable := #[], attributes := #[] }
def k7m1 : Method := { name := "max", desc := "(II)I", sig := { parameters := [.int, .int], returnType := some .int }, accessFlags := 9, code := some k7c1 }
def k7c2 : Code := { maxStack := 2, maxLocals := 2, code := jdk_29_method_69_code, exceptionTable := #[], attributes := #[] }
def k7m2 : Method := { name := "min", desc := "(II)I", sig := { parameters := [.int, .int], returnType := some .int }, accessFlags := 9, code := some k7c2 }
/-- java/lang/Math -/
def k7 : Class := { plain "java/lang/Math" (some 0) with
  accessFlags := 49
  interfaces := #[]
  cf := some (fileOf pool7 1 #[.nestMembers #[98]] #[{ accessFlags := 2, nameIndex := 7, descriptorIndex := 8, attributes := #[] }, { accessFlags := 9, nameIndex := 198, descriptorIndex := 335, attributes := #[] }, { accessFlags := 9, nameIndex := 201, descriptorIndex := 335, attributes := #[] }] 49 4 #[] #[{ accessFlags := 25, nameIndex := 354, descriptorIndex := 339, attributes := #[] }, { accessFlags := 25, nameIndex := 358, descriptorIndex := 339, attributes := #[] }, { accessFlags := 25, nameIndex := 361, descriptorIndex := 339, attributes := #[] }, { accessFlags := 26, nameIndex := 364, descriptorIndex := 339, attributes := #[] }, { accessFlags := 26, nameIndex := 365, descriptorIndex := 339, attributes := #[] }, { accessFlags := 26, nameIndex := 172, descriptorIndex := 173, attributes := #[] }, { accessFlags := 26, nameIndex := 176, descriptorIndex := 173, attributes := #[] }, { accessFlags := 8, nameIndex := 344, descriptorIndex := 339, attributes := #[] }, { accessFlags := 8, nameIndex := 338, descriptorIndex := 339, attributes := #[] }, { accessFlags := 4120, nameIndex := 245, descriptorIndex := 246, attributes := #[] }])
  fields := #[{ name := "E", type := .double, accessFlags := 25, slot := 0, constantValue := 0 }, { name := "PI", type := .double, accessFlags := 25, slot := 1, constantValue := 0 }, { name := "TAU", type := .double, accessFlags := 25, slot := 2, constantValue := 0 }, { name := "DEGREES_TO_RADIANS", type := .double, accessFlags := 26, slot := 3, constantValue := 0 }, { name := "RADIANS_TO_DEGREES", type := .double, accessFlags := 26, slot := 4, constantValue := 0 }, { name := "negativeZeroFloatBits", type := .long, accessFlags := 26, slot := 5, constantValue := 0 }, { name := "negativeZeroDoubleBits", type := .long, accessFlags := 26, slot := 6, constantValue := 0 }, { name := "twoToTheDoubleScaleUp", type := .double, accessFlags := 8, slot := 7, constantValue := 0 }, { name := "twoToTheDoubleScaleDown", type := .double, accessFlags := 8, slot := 8, constantValue := 0 }, { name := "$assertionsDisabled", type := .boolean, accessFlags := 4120, slot := 9, constantValue := 0 }]
  methods := #[k7m0, k7m1, k7m2]
  instanceTypes := #[]
  staticTypes := #[.double, .double, .double, .double, .double, .long, .long, .double, .double, .boolean]
  resolved := Array.replicate 460 none
  statics := none }

def pool8 : Array CpInfo := pool [(1, u "java/lang/Cloneable"), (0, .class_ 1), (0, u "java/lang/Object"), (0, .class_ 3)] 3

/-- java/lang/Cloneable -/
def k8 : Class := { plain "java/lang/Cloneable" (some 0) with
  accessFlags := 1537
  interfaces := #[]
  cf := some (fileOf pool8 2 #[] #[] 1537 4 #[] #[])
  fields := #[]
  methods := #[]
  instanceTypes := #[]
  staticTypes := #[]
  resolved := Array.replicate 8 none
  statics := none }

/-- the primitive byte -/
def k9 : Class := { plain "byte" none with kind := .primitive 'B', accessFlags := 0x411 }
/-- [B -/
def k10 : Class := { plain "[B" (some 0) with kind := .array 9 .byte, interfaces := #[8, 4], accessFlags := 1041 }

/-- the primitive int -/
def k11 : Class := { plain "int" none with kind := .primitive 'I', accessFlags := 0x411 }
/-- [I -/
def k12 : Class := { plain "[I" (some 0) with kind := .array 11 .int, interfaces := #[8, 4], accessFlags := 1041 }

def heap : Heap := #[{ cls := 6, slots := #[.ref 1, .ref 4, .ref 3, .ref 2, .ref 6, .ref 5, .null], vm := .statics 6 },
  { cls := 6, slots := #[.null, .int 0, .int 0, .null, .int 1, .int 0], vm := .none },
  { cls := 6, slots := #[.null, .int 3, .int 0, .null, .int 0, .int 1], vm := .none },
  { cls := 6, slots := #[.null, .int 2, .int 0, .null, .int 1, .int 1], vm := .none },
  { cls := 6, slots := #[.null, .int 1, .int 0, .null, .int 0, .int 0], vm := .none },
  { cls := 6, slots := #[.null, .int 5, .int 0, .null, .int 0, .int 1], vm := .none },
  { cls := 6, slots := #[.null, .int 4, .int 0, .null, .int 1, .int 1], vm := .none }]
def classes : Array Class := #[k0, k1, k2, k3, k4, k5, k6, k7, k8, k9, k10, k11, k12]
def interned : List (Array UInt16 × Addr) := []
def slotsUsed : Nat := 43
def theMethod : MethodId := ⟨1, 3⟩
def args0 : Array Value := #[.int 5, .int 3]
def aboutOver (below : List Frame) : State where
  vm := { classes := classes, interned := interned.toArray }
  heap := heap
  slotsUsed := slotsUsed
  threads := #[{ frames := .invoking theMethod args0 :: below }]
def below0 : List Frame := [.native { method := ⟨0, 0⟩, args := #[] }]
def about1 : State := aboutOver below0
def p0 : Program := .bare "" "" ""
def e0 : Env := launch0.env 0 0 0
theorem w_frames : about1.frames = Frame.invoking theMethod args0 :: below0 := rfl
set_option maxRecDepth 65536 in
theorem w_args : argsFit about1.vm theMethod args0 = true := by decide +kernel
set_option maxRecDepth 65536 in
theorem w_heap : heapFits about1 = true := by decide +kernel
set_option maxRecDepth 65536 in
theorem w_runnable : about1.curStatus? = some .runnable := by decide +kernel
set_option maxRecDepth 65536 in
theorem w_alone : about1.alone = true := by decide +kernel
set_option maxRecDepth 65536 in
theorem w_named : about1.methodNamed? x = some theMethod := by decide +kernel
set_option maxRecDepth 65536 in
theorem w_hears : about1.hears theMethod below0 = true := by decide +kernel
set_option maxRecDepth 65536 in
theorem w_ripe : about1.ripe theMethod args0 below0 = true := by decide +kernel
theorem w_running : about1.status = .running := rfl
set_option maxRecDepth 65536 in
theorem w_room : about1.hasRoom e0.platform room_1 = true :=
  launch0.hasRoom_least _ room_1 (by decide +kernel) (by decide +kernel) (by decide +kernel) (by decide +kernel) (by decide +kernel) (by decide +kernel)
theorem allAtoms_all (ts : List Jvm.Cond) (a : Array Jvm.Value) (st : Jvm.State) : (allAtoms ts).before a st = ts.all (fun c => c.before a st) := by
  induction ts with
  | nil => rfl
  | cons c t ih =>
    show (Jvm.Cond.and c (allAtoms t)).before a st = _
    rw [Jvm.Cond.before_and, ih, List.all_cons]
def words1 : List Jvm.Cond := Jvm.Cond.code x code maxLocals ret :: tables_1
/-- a 'code' word, met by the world's own term for the bytes: nothing is compared byte by byte -/
theorem code_word {y : MethodName} {bytes : ByteArray} {mx : Nat} {rt : Option FieldType} {a : Array Value} {s : State} {m : MethodId} {meth : Method} {c : Code} (h1 : s.methodNamed? y = some m) (h2 : s.vm.method? m = some meth) (h3 : meth.code = some c) (h4 : c.code = bytes)
    (h5 : (c.maxLocals == mx && c.exceptionTable.isEmpty && decide (c.maxStack ≤ mostOperands) && decide (meth.sig.returnType = rt) && !meth.locks && decide (parseMethodDescriptor y.desc = some meth.sig)) = true) : (Jvm.Cond.code y bytes mx rt).before a s = true := by
  simp only [Bool.and_eq_true, beq_iff_eq, Bool.not_eq_true', decide_eq_true_eq] at h5
  obtain ⟨⟨⟨⟨⟨g1, g2⟩, g3⟩, g4⟩, g5⟩, g6⟩ := h5
  simp [Cond.before, Cond.holds, Cond.value, h1, h2, h3, h4, g1, g2, g3, g4, g5, g6]
def isCode : Jvm.Cond → Bool
  | .code _ _ _ _ => true
  | _ => false
theorem all_split {L : List Jvm.Cond} {P : Jvm.Cond → Bool} (h1 : L.all (fun c => isCode c || P c) = true) (h2 : ∀ c ∈ L.filter isCode, P c = true) : L.all P = true := by
  refine List.all_eq_true.mpr fun c hc => ?_
  have h := List.all_eq_true.mp h1 c hc
  rcases Bool.eq_false_or_eq_true (isCode c) with hi | hi
  · exact h2 c (List.mem_filter.mpr ⟨hc, hi⟩)
  · simpa [hi] using h
set_option maxRecDepth 65536 in
theorem w_c0 : (Jvm.Cond.code x code maxLocals ret).before args0 about1 = true := code_word (m := ⟨1, 3⟩) (meth := k1m3) (c := k1c3) (by decide +kernel) rfl rfl rfl (by decide +kernel)
set_option maxRecDepth 65536 in
theorem w_c1 : (Jvm.Cond.code ({ cls := "com/example/pathfare/pathfare/alto/TypeIsCompatibleWithPinLaw", name := "pick", desc := "(I)Lcom/example/pathfare/pathfare/alto/EndpointAddress$Type;" } : Jvm.MethodName) method_2_code (1 : Nat) (Option.some (Jvm.ClassFile.FieldType.object "com/example/pathfare/pathfare/alto/EndpointAddress$Type"))).before args0 about1 = true := code_word (m := ⟨1, 1⟩) (meth := k1m1) (c := k1c1) (by decide +kernel) rfl rfl rfl (by decide +kernel)
set_option maxRecDepth 65536 in
theorem w_c2 : (Jvm.Cond.code ({ cls := "com/example/pathfare/pathfare/alto/EndpointAddress$Type", name := "isCompatibleWith", desc := "(Lcom/example/pathfare/pathfare/alto/EndpointAddress$Type;)Z" } : Jvm.MethodName) prog_3_method_6_code (2 : Nat) (Option.some Jvm.ClassFile.FieldType.boolean)).before args0 about1 = true := code_word (m := ⟨6, 0⟩) (meth := k6m0) (c := k6c0) (by decide +kernel) rfl rfl rfl (by decide +kernel)
set_option maxRecDepth 65536 in
theorem w_c3 : (Jvm.Cond.code ({ cls := "com/example/pathfare/pathfare/alto/TypeIsCompatibleWithPinLaw", name := "expected", desc := "(II)Z" } : Jvm.MethodName) method_3_code (4 : Nat) (Option.some Jvm.ClassFile.FieldType.boolean)).before args0 about1 = true := code_word (m := ⟨1, 2⟩) (meth := k1m2) (c := k1c2) (by decide +kernel) rfl rfl rfl (by decide +kernel)
set_option maxRecDepth 65536 in
theorem w_c4 : (Jvm.Cond.code ({ cls := "java/lang/Math", name := "min", desc := "(II)I" } : Jvm.MethodName) jdk_29_method_69_code (2 : Nat) (Option.some Jvm.ClassFile.FieldType.int)).before args0 about1 = true := code_word (m := ⟨7, 2⟩) (meth := k7m2) (c := k7c2) (by decide +kernel) rfl rfl rfl (by decide +kernel)
set_option maxRecDepth 65536 in
theorem w_c5 : (Jvm.Cond.code ({ cls := "java/lang/Math", name := "max", desc := "(II)I" } : Jvm.MethodName) jdk_29_method_65_code (2 : Nat) (Option.some Jvm.ClassFile.FieldType.int)).before args0 about1 = true := code_word (m := ⟨7, 1⟩) (meth := k7m1) (c := k7c1) (by decide +kernel) rfl rfl rfl (by decide +kernel)
def codes1 : List Jvm.Cond := [Jvm.Cond.code x code maxLocals ret, Jvm.Cond.code ({ cls := "com/example/pathfare/pathfare/alto/TypeIsCompatibleWithPinLaw", name := "pick", desc := "(I)Lcom/example/pathfare/pathfare/alto/EndpointAddress$Type;" } : Jvm.MethodName) method_2_code (1 : Nat) (Option.some (Jvm.ClassFile.FieldType.object "com/example/pathfare/pathfare/alto/EndpointAddress$Type")), Jvm.Cond.code ({ cls := "com/example/pathfare/pathfare/alto/EndpointAddress$Type", name := "isCompatibleWith", desc := "(Lcom/example/pathfare/pathfare/alto/EndpointAddress$Type;)Z" } : Jvm.MethodName) prog_3_method_6_code (2 : Nat) (Option.some Jvm.ClassFile.FieldType.boolean), Jvm.Cond.code ({ cls := "com/example/pathfare/pathfare/alto/TypeIsCompatibleWithPinLaw", name := "expected", desc := "(II)Z" } : Jvm.MethodName) method_3_code (4 : Nat) (Option.some Jvm.ClassFile.FieldType.boolean), Jvm.Cond.code ({ cls := "java/lang/Math", name := "min", desc := "(II)I" } : Jvm.MethodName) jdk_29_method_69_code (2 : Nat) (Option.some Jvm.ClassFile.FieldType.int), Jvm.Cond.code ({ cls := "java/lang/Math", name := "max", desc := "(II)I" } : Jvm.MethodName) jdk_29_method_65_code (2 : Nat) (Option.some Jvm.ClassFile.FieldType.int)]
set_option maxRecDepth 65536 in
theorem codes_eq : words1.filter isCode = codes1 := rfl
theorem w_codes : ∀ c ∈ words1.filter isCode, c.before args0 about1 = true := by
  rw [codes_eq]
  intro c hc
  simp only [codes1, List.mem_cons, List.not_mem_nil, or_false] at hc
  rcases hc with rfl | rfl | rfl | rfl | rfl | rfl
  · exact w_c0
  · exact w_c1
  · exact w_c2
  · exact w_c3
  · exact w_c4
  · exact w_c5
set_option maxRecDepth 65536 in
theorem w_t1 : (words1.take 24).all (fun c => isCode c || c.before args0 about1) = true := by decide +kernel
set_option maxRecDepth 65536 in
theorem w_t2 : (words1.drop 24).all (fun c => isCode c || c.before args0 about1) = true := by decide +kernel
theorem w_tables : (allAtoms (Jvm.Cond.code x code maxLocals ret :: tables_1)).before args0 about1 = true := by
  rw [allAtoms_all]
  show words1.all (fun c => c.before args0 about1) = true
  refine all_split ?_ w_codes
  rw [← List.take_append_drop 24 words1, List.all_append, w_t1, w_t2]
  rfl
set_option maxRecDepth 65536 in
theorem w_case : (Jvm.Cond.and given_1 narrow_1).before args0 about1 = true := by decide +kernel
theorem w_applies : (headSpec (Jvm.Cond.code x code maxLocals ret :: tables_1) room_1).applies x e0.platform about1 = true :=
  (Spec.applies_iff w_frames).mpr ⟨w_running, w_runnable, w_alone, w_named, w_hears, w_ripe, w_room, w_tables⟩
theorem atStart : AtStart classFile x code maxLocals ret World_1 tables_1 room_1 Calls_1 rest_1 Pre_1 launch0 p0 e0 about1 theMethod args0 below0 :=
  ⟨lists_1, trivial, launch0.admits_env _ _ _, launch0.least_env, fairChoices_fair.cas, fairChoices_fair.clock, w_frames, w_args, w_heap, w_applies, trivial, trivial, w_case⟩
end start1
theorem witness_1 : WitnessClaimed_1 := ⟨start1.p0, start1.e0, start1.about1, start1.theMethod, start1.args0, start1.below0, start1.atStart⟩
end Jvm.Pilot.@@N@@
