import JvmDerived
import JvmDerived.Pilot.@@N@@Statement
import JvmDerived.Pilot.@@N@@Code
set_option linter.unusedVariables false
set_option linter.unusedSimpArgs false
@@BLOCK:Masks.lean.txt@@
@@BLOCK:NumsL.lean.txt@@
namespace Jvm.Pilot.@@N@@
open Jvm Jvm.ClassFile Sem Op Lib Jvm.Free Jvm.Stand Jvm.LawKit Jvm.RoadKit Bundle Jvm.Pilot.@@N@@.Jvm.D
set_option maxRecDepth 65536
set_option maxHeartbeats 40000000
theorem oW {P : Jvm.Cond → Prop} {L : List Jvm.Cond} (h : ∀ d ∈ L, P d) (i : Nat) {d : Jvm.Cond} (e : L[i]? = some d) : P d := h d (List.mem_of_getElem? e)
def oH (a0 : Array Value) (Z : State) : Prop := ∀ d ∈ tables_1, d.before a0 Z = true
def oJ (a0 : Array Value) (Z : State) : Prop := ∀ d ∈ jdkStatics_1, d.before a0 Z = true
abbrev oR (f c s l : Nat) : Room := { frames := f, cells := c, slots := s, locals := l }
abbrev oLo (c : Int32) : Int32 := nar .byte ((c >>> ((0 : Int32) &&& 31)).toInt8.toInt32)
abbrev oHi (c : Int32) : Int32 := nar .byte ((c >>> ((8 : Int32) &&& 31)).toInt8.toInt32)
abbrev oBy (c : Int32) : Int32 := nar .byte (c.toInt8.toInt32)
/-! own layer: a walk as "from here the body comes to a good end" (own_Wp), so that a walk may fork in its middle -/
section OwnLayer
variable {p : Program} {l : Launch} {e : Env} {R : Room} {s : State} {m : MethodId} {args : Array Value} {below : List Frame} {meth : Method} {c : Code} {T T' : State} {locs : List Loc} {cells slots cs sl pc : Nat} {g g' : JFrame} {F : State → Outcome → Prop} {Q : Option Value → Heap → List Loc → Prop} {Ls : Array Slot} {rest : List Value} {Z : State} {a0 : Array Value} {h : Heap}
def own_Wp (p : Program) (e : Env) (below : List Frame) (F : State → Outcome → Prop) (T : State) (g : JFrame) : Prop := ∃ s₂ o, Steps p.tables e below (T.setTop g) s₂ ∧ F s₂ o
def own_Fin (below : List Frame) (s : State) (Q : Option Value → Heap → List Loc → Prop) (cs sl : Nat) (s₂ : State) (o : Outcome) : Prop := s₂.status = .running ∧ Ended s₂ below o ∧ ∃ v L, o = .returned v ∧ Q v s₂.heap L ∧ FrameEnd s o s₂ L cs sl
theorem own_step (st : ∀ target, Steps p.tables e below (T'.setTop g') target → Steps p.tables e below (T.setTop g) target) (k : own_Wp p e below F T' g') : own_Wp p e below F T g := by
  obtain ⟨a, b, h1, h2⟩ := k
  exact ⟨a, b, st _ h1, h2⟩
theorem oS (st : ∀ {target}, Steps p.tables e below (T'.setTop g') target → Steps p.tables e below (T.setTop g) target) (k : own_Wp p e below F T' g') : own_Wp p e below F T g := own_step (fun _ q => st q) k
theorem own_cast (q : g = g') (k : own_Wp p e below F T g') : own_Wp p e below F T g := q ▸ k
theorem own_leave {v : Option Value} {fs : List Frame} (st : Steps p.tables e below (T.setTop g) (T.setFrames fs)) (hrun : (T.setFrames fs).status = .running) (hended : Ended (T.setFrames fs) below (.returned v)) (hW : s.WarmedH (T.setFrames fs).vm) (hsame : s.sameButNew ({ T.setFrames fs with vm := s.vm } : State) locs cells slots) (hc : cells ≤ cs) (hs : slots ≤ sl) (hQ : Q v T.heap locs) : own_Wp p e below (own_Fin below s Q cs sl) T g :=
  ⟨_, _, st, hrun, hended, v, locs, rfl, hQ, ⟨_, rfl⟩, hW, hsame.mono hc hs⟩
theorem own_retN (X : Stand p l e R s m args below meth c T locs cells slots) (hx : p.tables.exec = Jvm.exec) {t : FieldType} {z : Int32} (hret : meth.sig.returnType = some t) (ht : t = .boolean ∨ t = .byte ∨ t = .char ∨ t = .short) (hlocks : meth.locks = false) (hd : decode c.code pc = .ok (.ireturn, 1)) (hc : cells ≤ cs) (hs : slots ≤ sl) (hQ : Q (some (.int (nar t z))) T.heap locs) : own_Wp p e below (own_Fin below s Q cs sl) T (mkF m pc Ls (.int z :: rest)) := by
  obtain ⟨fs, hr, hrun, hended, hW, hsame⟩ := X.leave (v := some (.int (nar t z))) (fun h => by rw [hret] at h; cases h) hlocks
  exact own_leave (retN X hx hret ht hd hr) hrun hended hW hsame hc hs hQ
theorem own_retI (X : Stand p l e R s m args below meth c T locs cells slots) (hx : p.tables.exec = Jvm.exec) {z : Int32} (hret : meth.sig.returnType = some .int) (hlocks : meth.locks = false) (hd : decode c.code pc = .ok (.ireturn, 1)) (hc : cells ≤ cs) (hs : slots ≤ sl) (hQ : Q (some (.int z)) T.heap locs) : own_Wp p e below (own_Fin below s Q cs sl) T (mkF m pc Ls (.int z :: rest)) := by
  obtain ⟨fs, hr, hrun, hended, hW, hsame⟩ := X.leave (v := some (.int z)) (fun h => by rw [hret] at h; cases h) hlocks
  refine own_leave ?_ hrun hended hW hsame hc hs hQ
  have hm' : T.vm.method? m = some meth := X.method'
  have hn : narrow .int (.int z) = .int z := rfl
  show Steps p.tables e below (T.setTop { method := m, pc := pc, locals := Ls, stack := _ :: rest, locked := none }) _
  jvm_step X.here [X.here.top, hx, hd, hm', hret, hn]
  first | (intro acts; rw [hr _ acts rfl rfl rfl]) | rw [hr _ _ rfl rfl rfl]
  exact Steps.refl _
theorem own_retA (X : Stand p l e R s m args below meth c T locs cells slots) (hx : p.tables.exec = Jvm.exec) {t : FieldType} {v : Value} (hret : meth.sig.returnType = some t) (ht : t.isReference = true) (hv : v.isRef = true) (hlocks : meth.locks = false) (hd : decode c.code pc = .ok (.areturn, 1)) (hc : cells ≤ cs) (hs : slots ≤ sl) (hQ : Q (some v) T.heap locs) : own_Wp p e below (own_Fin below s Q cs sl) T (mkF m pc Ls (v :: rest)) := by
  obtain ⟨fs, hr, hrun, hended, hW, hsame⟩ := X.leave (v := some v) (fun h => by rw [hret] at h; cases h) hlocks
  refine own_leave ?_ hrun hended hW hsame hc hs hQ
  have hm' : T.vm.method? m = some meth := X.method'
  rcases ref_cases hv with rfl | ⟨a, rfl⟩
  · show Steps p.tables e below (T.setTop { method := m, pc := pc, locals := Ls, stack := _ :: rest, locked := none }) _
    jvm_step X.here [X.here.top, hx, hd, hm', hret, Value.isRef, ht]
    first | (intro acts; rw [hr _ acts rfl rfl rfl]) | rw [hr _ _ rfl rfl rfl]
    exact Steps.refl _
  · show Steps p.tables e below (T.setTop { method := m, pc := pc, locals := Ls, stack := _ :: rest, locked := none }) _
    jvm_step X.here [X.here.top, hx, hd, hm', hret, Value.isRef, ht]
    first | (intro acts; rw [hr _ acts rfl rfl rfl]) | rw [hr _ _ rfl rfl rfl]
    exact Steps.refl _
theorem own_retV (X : Stand p l e R s m args below meth c T locs cells slots) (hx : p.tables.exec = Jvm.exec) (hret : meth.sig.returnType = none) (hlocks : meth.locks = false) (hd : decode c.code pc = .ok (.return_, 1)) (hc : cells ≤ cs) (hs : slots ≤ sl) (hQ : Q none T.heap locs) : own_Wp p e below (own_Fin below s Q cs sl) T (mkF m pc Ls []) := by
  obtain ⟨fs, hr, hrun, hended, hW, hsame⟩ := X.leave (v := none) (fun _ => rfl) hlocks
  exact own_leave (X.returnOut hx hret hd hr) hrun hended hW hsame hc hs hQ
def own_Met (l : Launch) (Z : State) (y : MethodName) (cd : Cond) (ws : List Cond) (rm : Room) (as' : Array Value) (h : Heap) (Q : Option Value → Heap → List Loc → Prop) : Prop :=
  MetFree l y (head1 (cd :: ws) rm) (fun a U => a = as' ∧ Z.Warmed39 U.vm ∧ U.heap = h) (fun _ _ _ _ _ => True) (fun _ U o U' => ∃ v L, o = .returned v ∧ Q v U'.heap L ∧ FrameEnd U o U' L rm.cells rm.slots)
theorem own_met {y : MethodName} {bytes : ByteArray} {maxL : Nat} {ret : Option FieldType} {ws : List Cond} {rm : Room} {as' : Array Value} {own : String} (hpl : plainFor y = true) (ho : y.cls = own)
    (body : ∀ p e s m below meth c s₁, p.tables.exec = Jvm.exec → c.code = bytes → c.maxLocals = maxL → s.vm.findClass own = some m.cls → meth.name = y.name → meth.sig.returnType = ret → meth.locks = false → Z.Warmed39 s.vm → s₁.heap = h →
      Stand p l e rm s m as' below meth c s₁ [] 0 0 → own_Wp p e below (own_Fin below s Q rm.cells rm.slots) s₁ (entryFrame m as' maxL)) : own_Met l Z y (Cond.code y bytes maxL ret) ws rm as' h Q := by
  refine MetFree.of_bodySF hpl hisR ?_
  intro p e s m args below meth c s₁ Bd hml0 hP hK
  obtain ⟨rfl, hZ, hh⟩ := hP
  exact body p e s m below meth c s₁ Bd.exec Bd.bytes hml0 (ho ▸ findClass_of_methodNamed Bd.named) (name_of_methodNamed Bd.named Bd.method).1 Bd.returns Bd.notSynchronized hZ (by rw [← hh, Bd.state]; rfl) (Stand.of_body Bd)
theorem own_callS (X : Stand p l e R s m args below meth c T locs cells slots) (hx : p.tables.exec = Jvm.exec) (hZ : Z.Warmed39 s.vm) {own : String} {index : Nat} {y : MethodName} {bytes : ByteArray} {maxL W : Nat} {ret : Option FieldType} {rm : Room} {as' : Array Value}
    (hown : s.vm.findClass own = some m.cls) (w1 : (Cond.methodLink own index y).before a0 Z = true) (w2 : (Cond.static y).before a0 Z = true) (w3 : (Cond.initialized y.cls).before a0 Z = true) (w4 : (Cond.code y bytes maxL ret).before a0 Z = true) (hy : y.cls ≠ "java/lang/invoke/MethodHandle" ∧ y.cls ≠ "java/lang/invoke/VarHandle")
    (hM : own_Met l Z y (Cond.code y bytes maxL ret) [] rm as' h Q) (hf : rm.frames + 1 ≤ R.frames) (hl : W + (maxL + 11) + rm.locals ≤ R.locals) (argsL : List Value) (ha : argsL.toArray = as') (hlen : ∀ sig, parseMethodDescriptor y.desc = some sig → argsL.length = sig.parameters.length)
    (hsz : Ls.size = c.maxLocals) (hW : (rest.map fun v => v.category).sum ≤ W) (hd : decode c.code pc = .ok (.invokestatic index, 3)) (eT : T.heap = h) (hc : cells + rm.cells ≤ R.cells) (hs : slots + rm.slots ≤ R.slots) :
    ∃ (v : Option Value) (T' : State) (L : List Loc), Stand p l e R s m args below meth c T' (locs ++ L) (cells + rm.cells) (slots + rm.slots) ∧ Q v T'.heap L ∧ ∀ F, own_Wp p e below F T' (mkF m (pc + 3) Ls (v.toList ++ rest)) → own_Wp p e below F T (mkF m pc Ls (argsL.reverse ++ rest)) := by
  obtain ⟨v, _, ⟨T1, L1, k1, n1⟩, -, X1, ⟨Lc, hQ, l1, y1, z1⟩, st⟩ := Jvm.LawKit.callS X hx (y := y) hown (mvT hZ w1) (mvT hZ w2) (mvT hZ w3) (mvT hZ w4) hy (backOf (W := W) hM hZ w4 w3 hf hl) (g := mkF m pc Ls (argsL.reverse ++ rest)) rfl hsz (argsL := argsL) (rest := rest) hlen rfl (by show 2 * 0 + _ ≤ _; omega) hd (fun _ _ => ⟨ha, eT, hc, hs⟩)
  dsimp only [Pt.U, Pt.locs, Pt.cells, Pt.slots] at X1 l1 y1 z1 st hQ
  subst l1 y1 z1
  exact ⟨v, T1, Lc, X1, hQ, fun F k => own_step st k⟩
theorem own_callV (X : Stand p l e R s m args below meth c T locs cells slots) (hx : p.tables.exec = Jvm.exec) (hZ : Z.Warmed39 s.vm) {own C : String} {index : Nat} {y z : MethodName} {bytes : ByteArray} {maxL W : Nat} {ret : Option FieldType} {rm : Room} {as' : Array Value} {b : Addr}
    (hown : s.vm.findClass own = some m.cls) (w1 : (Cond.methodLink own index y).before a0 Z = true) (w2 : (Cond.declares y).before a0 Z = true) (hnf : NotFace s y) (w3 : (Cond.selects C y z).before a0 Z = true) (w5 : (Cond.instanceMethod z).before a0 Z = true) (w6 : (Cond.initialized z.cls).before a0 Z = true) (w4 : (Cond.code z bytes maxL ret).before a0 Z = true) (hy : y.cls ≠ "java/lang/invoke/MethodHandle" ∧ y.cls ≠ "java/lang/invoke/VarHandle") (E : Exa Z h b C)
    (hM : own_Met l Z z (Cond.code z bytes maxL ret) [] rm as' h Q) (hf : rm.frames + 1 ≤ R.frames) (hl : W + (maxL + 11) + rm.locals ≤ R.locals) (argsL : List Value) (ha : (.ref b :: argsL).toArray = as') (hlen : ∀ sig, parseMethodDescriptor y.desc = some sig → argsL.length = sig.parameters.length)
    (hsz : Ls.size = c.maxLocals) (hW : (rest.map fun v => v.category).sum ≤ W) (hd : decode c.code pc = .ok (.invokevirtual index, 3)) (eT : T.heap = h) (hc : cells + rm.cells ≤ R.cells) (hs : slots + rm.slots ≤ R.slots) :
    ∃ (v : Option Value) (T' : State) (L : List Loc), Stand p l e R s m args below meth c T' (locs ++ L) (cells + rm.cells) (slots + rm.slots) ∧ Q v T'.heap L ∧ ∀ F, own_Wp p e below F T' (mkF m (pc + 3) Ls (v.toList ++ rest)) → own_Wp p e below F T (mkF m pc Ls (argsL.reverse ++ .ref b :: rest)) := by
  obtain ⟨cq, kq, qa, qb, qc⟩ := isOf hZ eT E
  obtain ⟨v, _, ⟨T1, L1, k1, n1⟩, -, X1, ⟨Lc, hQ, l1, y1, z1⟩, st⟩ := X.virtualBack hx (y := y) (z := z) hown (mvT hZ w1) (mvT hZ w2) hnf (mvT hZ w3) (mvT hZ w5) hy (backOf (W := W) hM hZ w4 w6 hf hl) qa qc (g := mkF m pc Ls (argsL.reverse ++ .ref b :: rest)) rfl hsz (Steps.refl _) (argsL := argsL) (rest := rest) hlen rfl (by show 2 * 0 + _ ≤ _; omega) hd (fun _ _ => ⟨ha, eT, hc, hs⟩)
  dsimp only [Pt.U, Pt.locs, Pt.cells, Pt.slots] at X1 l1 y1 z1 st hQ
  subst l1 y1 z1
  exact ⟨v, T1, Lc, X1, hQ, fun F k => own_step (fun _ q => st.trans q) k⟩
theorem own_callN (X : Stand p l e R s m args below meth c T locs cells slots) (hx : p.tables.exec = Jvm.exec) (hZ : Z.Warmed39 s.vm) {own : String} {index : Nat} {y : MethodName} {bytes : ByteArray} {maxL W : Nat} {rm : Room} {as' : Array Value} {b : Addr}
    (hn : y.name = "<init>") (hown : s.vm.findClass own = some m.cls) (w1 : (Cond.methodLink own index y).before a0 Z = true) (w5 : (Cond.instanceMethod y).before a0 Z = true) (w6 : (Cond.initialized y.cls).before a0 Z = true) (w4 : (Cond.code y bytes maxL none).before a0 Z = true) (hy : y.cls ≠ "java/lang/invoke/MethodHandle" ∧ y.cls ≠ "java/lang/invoke/VarHandle")
    (hM : own_Met l Z y (Cond.code y bytes maxL none) [] rm as' h Q) (hf : rm.frames + 1 ≤ R.frames) (hl : W + (maxL + 11) + rm.locals ≤ R.locals) (argsL : List Value) (ha : (.ref b :: argsL).toArray = as') (hlen : ∀ sig, parseMethodDescriptor y.desc = some sig → argsL.length = sig.parameters.length)
    (hsz : Ls.size = c.maxLocals) (hW : (rest.map fun v => v.category).sum ≤ W) (hd : decode c.code pc = .ok (.invokespecial index, 3)) (eT : T.heap = h) (hc : cells + rm.cells ≤ R.cells) (hs : slots + rm.slots ≤ R.slots) :
    ∃ (v : Option Value) (T' : State) (L : List Loc), Stand p l e R s m args below meth c T' (locs ++ L) (cells + rm.cells) (slots + rm.slots) ∧ Q v T'.heap L ∧ ∀ F, own_Wp p e below F T' (mkF m (pc + 3) Ls (v.toList ++ rest)) → own_Wp p e below F T (mkF m pc Ls (argsL.reverse ++ .ref b :: rest)) := by
  obtain ⟨v, _, ⟨T1, L1, k1, n1⟩, -, X1, ⟨Lc, hQ, l1, y1, z1⟩, st⟩ := X.specialBack hx (y := y) hn hown (mvT hZ w1) (mvT hZ w5) (mvT hZ w4) hy (backOf (W := W) hM hZ w4 w6 hf hl) (g := mkF m pc Ls (argsL.reverse ++ .ref b :: rest)) rfl hsz (Steps.refl _) (a := b) (argsL := argsL) (rest := rest) hlen rfl (by show 2 * 0 + _ ≤ _; omega) hd (fun _ _ => ⟨ha, eT, hc, hs⟩)
  dsimp only [Pt.U, Pt.locs, Pt.cells, Pt.slots] at X1 l1 y1 z1 st hQ
  subst l1 y1 z1
  exact ⟨v, T1, Lc, X1, hQ, fun F k => own_step (fun _ q => st.trans q) k⟩
theorem own_eqI {t : Term} {z : Int32} (q : (Cond.eq t (.int z)).value a0 Z none Z [] = some true) : t.eval a0 Z none [] Z = some (.int z) := by
  cases hf : t.eval a0 Z none [] Z with
  | none => simp [Cond.value, hf] at q
  | some v => cases v <;> simp [Cond.value, Term.eval, hf] at q <;> first | (rw [q]; done) | exact congrArg (fun z => some (Value.int z)) q | skip
def own_i (Z : State) (t : Term) : Int32 := match t.eval #[] Z none [] Z with
  | some (.int a) => a
  | _ => 0
theorem own_evI {t : Term} (h : (Cond.isInt t).value a0 Z none Z [] = some true) (hr : t.eval a0 Z none [] Z = t.eval #[] Z none [] Z) : t.eval a0 Z none [] Z = some (.int (own_i Z t)) := by
  obtain ⟨a, ev⟩ := is_v h
  have q := ev
  rw [hr] at q
  have e : own_i Z t = a := by simp only [own_i, q]
  rw [e]
  exact ev
theorem own_neI {t : Term} {z a : Int32} (h : (Cond.not (.eq t (.int z))).value a0 Z none Z [] = some true) (ev : t.eval a0 Z none [] Z = some (.int a)) : ¬ (a = z) := by
  have q := not_v h
  simp only [Cond.value, ev, Term.eval] at q
  intro e
  subst e
  simp at q
theorem own_isref {t : Term} (h : (Cond.isRef t).value a0 Z none Z [] = some true) : ∃ v, t.eval a0 Z none [] Z = some v ∧ v.isRef = true := Cond.isRef_spec (t := t) (args := a0) (first := Z) (o := none) (s := Z) (idx := []) (by simp [Cond.holds, h])
theorem own_fitc {c : Int32} (h : nar .char c = c) : fits .char (.int c) = true := by
  have q := fits_nar_char c
  rw [h] at q
  exact q
end OwnLayer
theorem own_get {c : Cell} {vs : List Value} {d : Value} {z j : Int32} (S : c.slots.size = z.toNatClampNeg) (H : Has c vs d) (q : ¬ (j < 0 ∨ c.slots.size ≤ j.toNatClampNeg)) (i : Nat) (hj : j.toNatClampNeg = i) : c.slots[j.toNatClampNeg]? = some (vs.getD i d) := by
  subst hj
  exact H _ (Nat.lt_of_not_le fun r => q (Or.inr r))
theorem own_mod (x : Int32) {n : Int32} (hn : 0 < n.toInt) : 0 ≤ ((x &&& (2147483647 : Int32)) % n).toInt ∧ ((x &&& (2147483647 : Int32)) % n).toInt < n.toInt := by
  have h := (Jvm.Kit.i32_and_bounds x (m := (2147483647 : Int32)) (by decide)).1
  have h0 : 0 ≤ (x &&& (2147483647 : Int32)).toInt := Jvm.Kit.i32_nonneg.mp h
  rw [Int32.toInt_mod]
  exact ⟨Int.tmod_nonneg _ h0, Int.tmod_lt_of_pos _ hn⟩
abbrev oD (c : ByteArray) (pc : Nat) (i : Instr) (n : Nat) : Prop := decode c pc = .ok (i, n)
section OwnTiny
variable {p : Program} {l : Launch} {e : Env} {R : Room} {s : State} {m : MethodId} {args : Array Value} {below : List Frame} {meth : Method} {c : Code} {T : State} {locs : List Loc} {cells slots pc : Nat} {F : State → Outcome → Prop} {Q : Option Value → Heap → List Loc → Prop} {Ls : Array Slot} {rest st : List Value} {Z : State} {a0 : Array Value} {h : Heap} {code : ByteArray}
theorem sA (X : Stand p l e R s m args below meth c T locs cells slots) (hx : p.tables.exec = Jvm.exec) (y : c.code = code) {n : Fin 4} {v : Value} {q0 : Nat} (d : decode code q0 = .ok (.aload_n n, 1)) (hl : Ls[n.val]? = some (.val v)) (hv : v.isRef = true) (k : own_Wp p e below F T (mkF m (q0 + 1) Ls (v :: st))) (hq0 : pc = q0 := by rfl) {m' : MethodId} (hm0 : m = m' := by rfl) : own_Wp p e below F T (mkF m' pc Ls st) := by subst hq0 hm0; exact own_step (fun _ q => XS.aloadN (g := mkF m pc Ls st) X.here hx rfl (hb y d) hl hv q) k
theorem sB (X : Stand p l e R s m args below meth c T locs cells slots) (hx : p.tables.exec = Jvm.exec) (y : c.code = code) {n : Nat} {v : Value} {q0 : Nat} (d : decode code q0 = .ok (.aload n, 2)) (hl : Ls[n]? = some (.val v)) (hv : v.isRef = true) (k : own_Wp p e below F T (mkF m (q0 + 2) Ls (v :: st))) (hq0 : pc = q0 := by rfl) {m' : MethodId} (hm0 : m = m' := by rfl) : own_Wp p e below F T (mkF m' pc Ls st) := by subst hq0 hm0; exact own_step (fun _ q => XS.aload (g := mkF m pc Ls st) X.here hx rfl (hb y d) hl hv q) k
theorem sI (X : Stand p l e R s m args below meth c T locs cells slots) (hx : p.tables.exec = Jvm.exec) (y : c.code = code) {n : Fin 4} {v : Int32} {q0 : Nat} (d : decode code q0 = .ok (.iload_n n, 1)) (hl : Ls[n.val]? = some (.val (.int v))) (k : own_Wp p e below F T (mkF m (q0 + 1) Ls (.int v :: st))) (hq0 : pc = q0 := by rfl) {m' : MethodId} (hm0 : m = m' := by rfl) : own_Wp p e below F T (mkF m' pc Ls st) := by subst hq0 hm0; exact own_step (fun _ q => XS.iloadN (g := mkF m pc Ls st) X.here hx rfl (hb y d) hl q) k
theorem sJ (X : Stand p l e R s m args below meth c T locs cells slots) (hx : p.tables.exec = Jvm.exec) (y : c.code = code) {n : Nat} {v : Int32} {q0 : Nat} (d : decode code q0 = .ok (.iload n, 2)) (hl : Ls[n]? = some (.val (.int v))) (k : own_Wp p e below F T (mkF m (q0 + 2) Ls (.int v :: st))) (hq0 : pc = q0 := by rfl) {m' : MethodId} (hm0 : m = m' := by rfl) : own_Wp p e below F T (mkF m' pc Ls st) := by subst hq0 hm0; exact own_step (fun _ q => XS.iload (g := mkF m pc Ls st) X.here hx rfl (hb y d) hl q) k
theorem sC (X : Stand p l e R s m args below meth c T locs cells slots) (hx : p.tables.exec = Jvm.exec) (y : c.code = code) {i : Int} {q0 : Nat} (d : decode code q0 = .ok (.iconst i, 1)) (k : own_Wp p e below F T (mkF m (q0 + 1) Ls (.int (Int32.ofInt i) :: st))) (hq0 : pc = q0 := by rfl) {m' : MethodId} (hm0 : m = m' := by rfl) : own_Wp p e below F T (mkF m' pc Ls st) := by subst hq0 hm0; exact own_step (fun _ q => XS.iconst (g := mkF m pc Ls st) X.here hx rfl (hb y d) q) k
theorem sD (X : Stand p l e R s m args below meth c T locs cells slots) (hx : p.tables.exec = Jvm.exec) (y : c.code = code) {i : Int} {q0 : Nat} (d : decode code q0 = .ok (.bipush i, 2)) (k : own_Wp p e below F T (mkF m (q0 + 2) Ls (.int (Int8.ofInt i).toInt32 :: st))) (hq0 : pc = q0 := by rfl) {m' : MethodId} (hm0 : m = m' := by rfl) : own_Wp p e below F T (mkF m' pc Ls st) := by subst hq0 hm0; exact own_step (fun _ q => XS.bipush (g := mkF m pc Ls st) X.here hx rfl (hb y d) q) k
theorem sF (X : Stand p l e R s m args below meth c T locs cells slots) (hx : p.tables.exec = Jvm.exec) (y : c.code = code) {v : Value} {q0 : Nat} (d : decode code q0 = .ok (.dup, 1)) (hc : v.category = 1) (k : own_Wp p e below F T (mkF m (q0 + 1) Ls (v :: v :: st))) (hq0 : pc = q0 := by rfl) {m' : MethodId} (hm0 : m = m' := by rfl) : own_Wp p e below F T (mkF m' pc Ls (v :: st)) := by subst hq0 hm0; exact own_step (fun _ q => XS.dup (g := mkF m pc Ls (v :: st)) X.here hx rfl (hb y d) rfl hc q) k
theorem sG (X : Stand p l e R s m args below meth c T locs cells slots) (hx : p.tables.exec = Jvm.exec) (y : c.code = code) {v : Value} {q0 : Nat} (d : decode code q0 = .ok (.pop, 1)) (hc : v.category = 1) (k : own_Wp p e below F T (mkF m (q0 + 1) Ls st)) (hq0 : pc = q0 := by rfl) {m' : MethodId} (hm0 : m = m' := by rfl) : own_Wp p e below F T (mkF m' pc Ls (v :: st)) := by subst hq0 hm0; exact own_step (fun _ q => XS.pop (g := mkF m pc Ls (v :: st)) X.here hx rfl (hb y d) rfl hc q) k
theorem sH (X : Stand p l e R s m args below meth c T locs cells slots) (hx : p.tables.exec = Jvm.exec) (y : c.code = code) {a b : Int32} {q0 : Nat} (d : decode code q0 = .ok (.iadd, 1)) (k : own_Wp p e below F T (mkF m (q0 + 1) Ls (.int (a + b) :: st))) (hq0 : pc = q0 := by rfl) {m' : MethodId} (hm0 : m = m' := by rfl) : own_Wp p e below F T (mkF m' pc Ls (.int b :: .int a :: st)) := by subst hq0 hm0; exact own_step (fun _ q => XS.iadd (g := mkF m pc Ls (.int b :: .int a :: st)) X.here hx rfl (hb y d) rfl q) k
theorem sK (X : Stand p l e R s m args below meth c T locs cells slots) (hx : p.tables.exec = Jvm.exec) (y : c.code = code) {a b : Int32} {q0 : Nat} (d : decode code q0 = .ok (.isub, 1)) (k : own_Wp p e below F T (mkF m (q0 + 1) Ls (.int (a - b) :: st))) (hq0 : pc = q0 := by rfl) {m' : MethodId} (hm0 : m = m' := by rfl) : own_Wp p e below F T (mkF m' pc Ls (.int b :: .int a :: st)) := by subst hq0 hm0; exact own_step (fun _ q => XS.isub (g := mkF m pc Ls (.int b :: .int a :: st)) X.here hx rfl (hb y d) rfl q) k
theorem sL (X : Stand p l e R s m args below meth c T locs cells slots) (hx : p.tables.exec = Jvm.exec) (y : c.code = code) {a b : Int32} {q0 : Nat} (d : decode code q0 = .ok (.ishl, 1)) (k : own_Wp p e below F T (mkF m (q0 + 1) Ls (.int (a <<< (b &&& 31)) :: st))) (hq0 : pc = q0 := by rfl) {m' : MethodId} (hm0 : m = m' := by rfl) : own_Wp p e below F T (mkF m' pc Ls (.int b :: .int a :: st)) := by subst hq0 hm0; exact own_step (fun _ q => XS.ishl (g := mkF m pc Ls (.int b :: .int a :: st)) X.here hx rfl (hb y d) rfl q) k
theorem sM (X : Stand p l e R s m args below meth c T locs cells slots) (hx : p.tables.exec = Jvm.exec) (y : c.code = code) {a b : Int32} {q0 : Nat} (d : decode code q0 = .ok (.ishr, 1)) (k : own_Wp p e below F T (mkF m (q0 + 1) Ls (.int (a >>> (b &&& 31)) :: st))) (hq0 : pc = q0 := by rfl) {m' : MethodId} (hm0 : m = m' := by rfl) : own_Wp p e below F T (mkF m' pc Ls (.int b :: .int a :: st)) := by subst hq0 hm0; exact own_step (fun _ q => XS.ishr (g := mkF m pc Ls (.int b :: .int a :: st)) X.here hx rfl (hb y d) rfl q) k
theorem sN (X : Stand p l e R s m args below meth c T locs cells slots) (hx : p.tables.exec = Jvm.exec) (y : c.code = code) {n : Fin 4} {v : Int32} {q0 : Nat} (d : decode code q0 = .ok (.istore_n n, 1)) (l' : Array Slot) (hl : storeLocals Ls n.val (.int v) = some l') (k : own_Wp p e below F T (mkF m (q0 + 1) l' st)) (hq0 : pc = q0 := by rfl) {m' : MethodId} (hm0 : m = m' := by rfl) : own_Wp p e below F T (mkF m' pc Ls (.int v :: st)) := by subst hq0 hm0; exact own_step (fun _ q => XS.istoreN (g := mkF m pc Ls (.int v :: st)) X.here hx rfl (hb y d) rfl hl q) k
theorem sO (X : Stand p l e R s m args below meth c T locs cells slots) (hx : p.tables.exec = Jvm.exec) (y : c.code = code) {n : Nat} {v : Int32} {q0 : Nat} (d : decode code q0 = .ok (.istore n, 2)) (l' : Array Slot) (hl : storeLocals Ls n (.int v) = some l') (k : own_Wp p e below F T (mkF m (q0 + 2) l' st)) (hq0 : pc = q0 := by rfl) {m' : MethodId} (hm0 : m = m' := by rfl) : own_Wp p e below F T (mkF m' pc Ls (.int v :: st)) := by subst hq0 hm0; exact own_step (fun _ q => XS.istore (g := mkF m pc Ls (.int v :: st)) X.here hx rfl (hb y d) rfl hl q) k
theorem sP (X : Stand p l e R s m args below meth c T locs cells slots) (hx : p.tables.exec = Jvm.exec) (y : c.code = code) {n : Fin 4} {v : Value} {q0 : Nat} (d : decode code q0 = .ok (.astore_n n, 1)) (hv : v.isRef = true) (l' : Array Slot) (hl : storeLocals Ls n.val v = some l') (k : own_Wp p e below F T (mkF m (q0 + 1) l' st)) (hq0 : pc = q0 := by rfl) {m' : MethodId} (hm0 : m = m' := by rfl) : own_Wp p e below F T (mkF m' pc Ls (v :: st)) := by subst hq0 hm0; exact own_step (fun _ q => XS.astoreN (g := mkF m pc Ls (v :: st)) X.here hx rfl (hb y d) rfl hv hl q) k
theorem sQ (X : Stand p l e R s m args below meth c T locs cells slots) (hx : p.tables.exec = Jvm.exec) (y : c.code = code) {n : Nat} {v : Value} {q0 : Nat} (d : decode code q0 = .ok (.astore n, 2)) (hv : v.isRef = true) (l' : Array Slot) (hl : storeLocals Ls n v = some l') (k : own_Wp p e below F T (mkF m (q0 + 2) l' st)) (hq0 : pc = q0 := by rfl) {m' : MethodId} (hm0 : m = m' := by rfl) : own_Wp p e below F T (mkF m' pc Ls (v :: st)) := by subst hq0 hm0; exact own_step (fun _ q => XS.astore (g := mkF m pc Ls (v :: st)) X.here hx rfl (hb y d) rfl hv hl q) k
theorem sR (X : Stand p l e R s m args below meth c T locs cells slots) (hx : p.tables.exec = Jvm.exec) (y : c.code = code) {o : Int} {q0 : Nat} (d : decode code q0 = .ok (.goto o, 3)) (t : Nat) (ht : 0 ≤ (q0 : Int) + o ∧ ((q0 : Int) + o).toNat = t) (k : own_Wp p e below F T (mkF m t Ls st)) (hq0 : pc = q0 := by rfl) {m' : MethodId} (hm0 : m = m' := by rfl) : own_Wp p e below F T (mkF m' pc Ls st) := by subst hq0 hm0; exact own_step (fun _ q => XS.goto (g := mkF m pc Ls st) X.here hx rfl (pc0 := pc) (pc' := t) rfl (hb y d) ht.1 ht.2 q) k
theorem sS (X : Stand p l e R s m args below meth c T locs cells slots) (hx : p.tables.exec = Jvm.exec) (y : c.code = code) {o : Int} {cd : ClassFile.Cond} {a : Int32} {q0 : Nat} (d : decode code q0 = .ok (.ifCond cd o, 3)) (hc : ifCond.holds cd a = true) (t : Nat) (ht : 0 ≤ (q0 : Int) + o ∧ ((q0 : Int) + o).toNat = t) (k : own_Wp p e below F T (mkF m t Ls st)) (hq0 : pc = q0 := by rfl) {m' : MethodId} (hm0 : m = m' := by rfl) : own_Wp p e below F T (mkF m' pc Ls (.int a :: st)) := by subst hq0 hm0; exact own_step (fun _ q => XS.ifYes (g := mkF m pc Ls (.int a :: st)) X.here hx rfl (pc0 := pc) (pc' := t) rfl (hb y d) rfl hc ht.1 ht.2 q) k
theorem sT (X : Stand p l e R s m args below meth c T locs cells slots) (hx : p.tables.exec = Jvm.exec) (y : c.code = code) {o : Int} {cd : ClassFile.Cond} {a : Int32} {q0 : Nat} (d : decode code q0 = .ok (.ifCond cd o, 3)) (hc : ifCond.holds cd a = false) (k : own_Wp p e below F T (mkF m (q0 + 3) Ls st)) (hq0 : pc = q0 := by rfl) {m' : MethodId} (hm0 : m = m' := by rfl) : own_Wp p e below F T (mkF m' pc Ls (.int a :: st)) := by subst hq0 hm0; exact own_step (fun _ q => XS.ifNo (g := mkF m pc Ls (.int a :: st)) X.here hx rfl (hb y d) rfl hc q) k
theorem sU (X : Stand p l e R s m args below meth c T locs cells slots) (hx : p.tables.exec = Jvm.exec) (y : c.code = code) {o : Int} {cd : ClassFile.Cond} {a b : Int32} {q0 : Nat} (d : decode code q0 = .ok (.if_icmp cd o, 3)) (hc : if_icmp.holds cd a b = true) (t : Nat) (ht : 0 ≤ (q0 : Int) + o ∧ ((q0 : Int) + o).toNat = t) (k : own_Wp p e below F T (mkF m t Ls st)) (hq0 : pc = q0 := by rfl) {m' : MethodId} (hm0 : m = m' := by rfl) : own_Wp p e below F T (mkF m' pc Ls (.int b :: .int a :: st)) := by subst hq0 hm0; exact own_step (fun _ q => XS.icmpYes (g := mkF m pc Ls (.int b :: .int a :: st)) X.here hx rfl (pc0 := pc) (pc' := t) rfl (hb y d) rfl hc ht.1 ht.2 q) k
theorem sV (X : Stand p l e R s m args below meth c T locs cells slots) (hx : p.tables.exec = Jvm.exec) (y : c.code = code) {o : Int} {cd : ClassFile.Cond} {a b : Int32} {q0 : Nat} (d : decode code q0 = .ok (.if_icmp cd o, 3)) (hc : if_icmp.holds cd a b = false) (k : own_Wp p e below F T (mkF m (q0 + 3) Ls st)) (hq0 : pc = q0 := by rfl) {m' : MethodId} (hm0 : m = m' := by rfl) : own_Wp p e below F T (mkF m' pc Ls (.int b :: .int a :: st)) := by subst hq0 hm0; exact own_step (fun _ q => XS.icmpNo (g := mkF m pc Ls (.int b :: .int a :: st)) X.here hx rfl (hb y d) rfl hc q) k
theorem sW (X : Stand p l e R s m args below meth c T locs cells slots) (hx : p.tables.exec = Jvm.exec) (y : c.code = code) {o : Int} {a : Addr} {q0 : Nat} (d : decode code q0 = .ok (.ifnonnull o, 3)) (t : Nat) (ht : 0 ≤ (q0 : Int) + o ∧ ((q0 : Int) + o).toNat = t) (k : own_Wp p e below F T (mkF m t Ls st)) (hq0 : pc = q0 := by rfl) {m' : MethodId} (hm0 : m = m' := by rfl) : own_Wp p e below F T (mkF m' pc Ls (.ref a :: st)) := by subst hq0 hm0; exact own_step (fun _ q => XS.ifnonnullYes (g := mkF m pc Ls (.ref a :: st)) X.here hx rfl (pc0 := pc) (pc' := t) rfl (hb y d) rfl ht.1 ht.2 q) k
theorem sY (X : Stand p l e R s m args below meth c T locs cells slots) (hx : p.tables.exec = Jvm.exec) (y : c.code = code) {n : Nat} {z : Int} {v : Int32} {q0 : Nat} (d : decode code q0 = .ok (.iinc n z, 3)) (l' : Array Slot) (hv : Ls[n]? = some (.val (.int v))) (hl : storeLocals Ls n (.int (v + Int32.ofInt z)) = some l') (k : own_Wp p e below F T (mkF m (q0 + 3) l' st)) (hq0 : pc = q0 := by rfl) {m' : MethodId} (hm0 : m = m' := by rfl) : own_Wp p e below F T (mkF m' pc Ls st) := by subst hq0 hm0; exact own_step (fun _ q => XS.iinc (g := mkF m pc Ls st) X.here hx rfl (hb y d) hv hl q) k
theorem oV {a b : Int32} (q : a = b) (k : own_Wp p e below F T (mkF m pc Ls (.int b :: st))) : own_Wp p e below F T (mkF m pc Ls (.int a :: st)) := q ▸ k
theorem sa (X : Stand p l e R s m args below meth c T locs cells slots) (hx : p.tables.exec = Jvm.exec) (hZ : Z.Warmed39 s.vm) (eT : T.heap = h) {a : Addr} {kk : ClassId} {ty : FieldType} {N : Int32} {vs : List Value} {dv : Value} (V : Arv Z h a kk ty N vs dv) (y : c.code = code) {q0 : Nat} (d : decode code q0 = .ok (.arraylength, 1)) (k : own_Wp p e below F T (mkF m (q0 + 1) Ls (.int N :: st))) (hq0 : pc = q0 := by rfl) {m' : MethodId} (hm0 : m = m' := by rfl) : own_Wp p e below F T (mkF m' pc Ls (.ref a :: st)) := by
  subst hm0
  subst hq0
  obtain ⟨c2, r2, q2, t2, u2, y2h, y2g⟩ := id V
  refine own_step (fun _ k => X.arraylength hx (by rw [eT]; exact r2.1) (State.isArrayOf_alike hZ.alike r2.2.1) (g := mkF m pc Ls (.ref a :: st)) rfl rfl (hb y d) _ k) ?_
  rw [len_of t2 u2]
  exact k
theorem sg (X : Stand p l e R s m args below meth c T locs cells slots) (hx : p.tables.exec = Jvm.exec) (hZ : Z.Warmed39 s.vm) {own O f t : String} {index : Nat} (hown : s.vm.findClass own = some m.cls) (w : (Cond.fieldLink own index O f t).before a0 Z = true) (eT : T.heap = h) {a : Addr} {v : Value} (f0 : Fld Z h a O f t v) (y : c.code = code) {q0 : Nat} (d : decode code q0 = .ok (.getfield index, 3)) (k : ∀ T', Stand p l e R s m args below meth c T' locs cells slots → T'.heap = h → own_Wp p e below F T' (mkF m (q0 + 3) Ls (v :: st))) (hq0 : pc = q0 := by rfl) {m' : MethodId} (hm0 : m = m' := by rfl) : own_Wp p e below F T (mkF m' pc Ls (.ref a :: st)) := by
  subst hm0
  subst hq0
  obtain ⟨T', X', e', q⟩ := getF X hx hZ hown (host := "") (Or.inl w) Via.refl eT f0 (g := mkF m pc Ls (.ref a :: st)) rfl rfl (hb y d)
  exact own_step q (k T' X' e')
theorem sp (X : Stand p l e R s m args below meth c T locs cells slots) (hx : p.tables.exec = Jvm.exec) (hZ : Z.Warmed39 s.vm) {own O f t C : String} {index kk : Nat} {ty : FieldType} (hown : s.vm.findClass own = some m.cls) (w : (Cond.fieldLink own index O f t).before a0 Z = true) (eT : T.heap = h) {a : Addr} {v old : Value} (f0 : Fld Z h a O f t old) (E : Exa Z h a C) (L : (Cond.lays C O f t).before a0 Z = true ∨ ((Cond.laysFinal C O f t).before a0 Z = true ∧ own = O ∧ meth.name = "<init>")) (wi : (Cond.instantiable C kk).before a0 Z = true) (hty : parseFieldDescriptor t = some ty) (hn : narrow ty v = v) (hf : fits ty v = true) (y : c.code = code) {q0 : Nat} (d : decode code q0 = .ok (.putfield index, 3)) (k : ∀ T' h', Stand p l e R s m args below meth c T' (locs ++ [⟨a, RoadKit.slotOf Z O f t⟩]) cells slots → T'.heap = h' → Wr h h' a (RoadKit.slotOf Z O f t) v → own_Wp p e below F T' (mkF m (q0 + 3) Ls st)) (hq0 : pc = q0 := by rfl) {m' : MethodId} (hm0 : m = m' := by rfl) : own_Wp p e below F T (mkF m' pc Ls (v :: .ref a :: st)) := by
  subst hm0
  subst hq0
  obtain ⟨T', h', X', e', W', q⟩ := putF X hx hZ hown (host := "") (Or.inl w) Via.refl eT f0 E L wi hty hn hf (g := mkF m pc Ls (v :: .ref a :: st)) rfl rfl (hb y d)
  exact own_step q (k T' h' X' e' W')
abbrev oNH (y : MethodName) : Prop := y.cls ≠ "java/lang/invoke/MethodHandle" ∧ y.cls ≠ "java/lang/invoke/VarHandle"
abbrev oBV (a0 : Array Value) (Z : State) (C : String) (y z : MethodName) (cd : Jvm.Cond) : Prop := (Cond.declares y).before a0 Z = true ∧ (∀ {s : State}, Z.Warmed39 s.vm → NotFace s y) ∧ (Cond.selects C y z).before a0 Z = true ∧ (Cond.instanceMethod z).before a0 Z = true ∧ (Cond.initialized z.cls).before a0 Z = true ∧ cd.before a0 Z = true ∧ oNH y
abbrev oBS (a0 : Array Value) (Z : State) (y : MethodName) (cd : Jvm.Cond) : Prop := (Cond.static y).before a0 Z = true ∧ (Cond.initialized y.cls).before a0 Z = true ∧ cd.before a0 Z = true ∧ oNH y
abbrev oBN (a0 : Array Value) (Z : State) (y : MethodName) (cd : Jvm.Cond) : Prop := y.name = "<init>" ∧ (Cond.instanceMethod y).before a0 Z = true ∧ (Cond.initialized y.cls).before a0 Z = true ∧ cd.before a0 Z = true ∧ oNH y
theorem oCV (X : Stand p l e R s m args below meth c T locs cells slots) (hx : p.tables.exec = Jvm.exec) (hZ : Z.Warmed39 s.vm) {own C : String} {index : Nat} {y z : MethodName} {bytes : ByteArray} {maxL n : Nat} {ret : Option FieldType} {rm : Room} {as' : Array Value} {b : Addr} (hown : s.vm.findClass own = some m.cls) (w1 : (Cond.methodLink own index y).before a0 Z = true) (B : oBV a0 Z C y z (Cond.code z bytes maxL ret)) (E : Exa Z h b C) (hM : own_Met l Z z (Cond.code z bytes maxL ret) [] rm as' h Q) (W : Nat) (hq : rm.frames + 1 ≤ R.frames ∧ W + (maxL + 11) + rm.locals ≤ R.locals ∧ cells + rm.cells ≤ R.cells ∧ slots + rm.slots ≤ R.slots) (argsL : List Value) (ha : (.ref b :: argsL).toArray = as') (hlen : ∀ sig, parseMethodDescriptor y.desc = some sig → argsL.length = sig.parameters.length) (hml : c.maxLocals = n) (hsz : Ls.size = n) (hst : st = argsL.reverse ++ .ref b :: rest) (hW : (rest.map fun v => v.category).sum = W) (hc : c.code = code) {q0 : Nat} (d : decode code q0 = .ok (.invokevirtual index, 3)) (eT : T.heap = h) (k : ∀ v T' L, Stand p l e R s m args below meth c T' (locs ++ L) (cells + rm.cells) (slots + rm.slots) → Q v T'.heap L → own_Wp p e below F T' (mkF m (q0 + 3) Ls (v.toList ++ rest))) (hq0 : pc = q0 := by rfl) {m' : MethodId} (hm0 : m = m' := by rfl) : own_Wp p e below F T (mkF m' pc Ls st) := by
  subst hm0
  subst hq0
  subst hst
  obtain ⟨v, T', L, X', hQ, q⟩ := own_callV X hx hZ hown w1 B.1 (B.2.1 hZ) B.2.2.1 B.2.2.2.1 B.2.2.2.2.1 B.2.2.2.2.2.1 B.2.2.2.2.2.2 E hM hq.1 hq.2.1 argsL ha hlen (hsz.trans hml.symm) (Nat.le_of_eq hW) (hb hc d) eT hq.2.2.1 hq.2.2.2
  exact q F (k v T' L X' hQ)
theorem oCS (X : Stand p l e R s m args below meth c T locs cells slots) (hx : p.tables.exec = Jvm.exec) (hZ : Z.Warmed39 s.vm) {own : String} {index : Nat} {y : MethodName} {bytes : ByteArray} {maxL n : Nat} {ret : Option FieldType} {rm : Room} {as' : Array Value} (hown : s.vm.findClass own = some m.cls) (w1 : (Cond.methodLink own index y).before a0 Z = true) (B : oBS a0 Z y (Cond.code y bytes maxL ret)) (hM : own_Met l Z y (Cond.code y bytes maxL ret) [] rm as' h Q) (W : Nat) (hq : rm.frames + 1 ≤ R.frames ∧ W + (maxL + 11) + rm.locals ≤ R.locals ∧ cells + rm.cells ≤ R.cells ∧ slots + rm.slots ≤ R.slots) (argsL : List Value) (ha : argsL.toArray = as') (hlen : ∀ sig, parseMethodDescriptor y.desc = some sig → argsL.length = sig.parameters.length) (hml : c.maxLocals = n) (hsz : Ls.size = n) (hst : st = argsL.reverse ++ rest) (hW : (rest.map fun v => v.category).sum = W) (hc : c.code = code) {q0 : Nat} (d : decode code q0 = .ok (.invokestatic index, 3)) (eT : T.heap = h) (k : ∀ v T' L, Stand p l e R s m args below meth c T' (locs ++ L) (cells + rm.cells) (slots + rm.slots) → Q v T'.heap L → own_Wp p e below F T' (mkF m (q0 + 3) Ls (v.toList ++ rest))) (hq0 : pc = q0 := by rfl) {m' : MethodId} (hm0 : m = m' := by rfl) : own_Wp p e below F T (mkF m' pc Ls st) := by
  subst hm0
  subst hq0
  subst hst
  obtain ⟨v, T', L, X', hQ, q⟩ := own_callS X hx hZ hown w1 B.1 B.2.1 B.2.2.1 B.2.2.2 hM hq.1 hq.2.1 argsL ha hlen (hsz.trans hml.symm) (Nat.le_of_eq hW) (hb hc d) eT hq.2.2.1 hq.2.2.2
  exact q F (k v T' L X' hQ)
theorem oCN (X : Stand p l e R s m args below meth c T locs cells slots) (hx : p.tables.exec = Jvm.exec) (hZ : Z.Warmed39 s.vm) {own : String} {index : Nat} {y : MethodName} {bytes : ByteArray} {maxL n : Nat} {rm : Room} {as' : Array Value} {b : Addr} (hown : s.vm.findClass own = some m.cls) (w1 : (Cond.methodLink own index y).before a0 Z = true) (B : oBN a0 Z y (Cond.code y bytes maxL none)) (hM : own_Met l Z y (Cond.code y bytes maxL none) [] rm as' h Q) (W : Nat) (hq : rm.frames + 1 ≤ R.frames ∧ W + (maxL + 11) + rm.locals ≤ R.locals ∧ cells + rm.cells ≤ R.cells ∧ slots + rm.slots ≤ R.slots) (argsL : List Value) (ha : (.ref b :: argsL).toArray = as') (hlen : ∀ sig, parseMethodDescriptor y.desc = some sig → argsL.length = sig.parameters.length) (hml : c.maxLocals = n) (hsz : Ls.size = n) (hst : st = argsL.reverse ++ .ref b :: rest) (hW : (rest.map fun v => v.category).sum = W) (hc : c.code = code) {q0 : Nat} (d : decode code q0 = .ok (.invokespecial index, 3)) (eT : T.heap = h) (k : ∀ v T' L, Stand p l e R s m args below meth c T' (locs ++ L) (cells + rm.cells) (slots + rm.slots) → Q v T'.heap L → own_Wp p e below F T' (mkF m (q0 + 3) Ls (v.toList ++ rest))) (hq0 : pc = q0 := by rfl) {m' : MethodId} (hm0 : m = m' := by rfl) : own_Wp p e below F T (mkF m' pc Ls st) := by
  subst hm0
  subst hq0
  subst hst
  obtain ⟨v, T', L, X', hQ, q⟩ := own_callN X hx hZ B.1 hown w1 B.2.1 B.2.2.1 B.2.2.2.1 B.2.2.2.2 hM hq.1 hq.2.1 argsL ha hlen (hsz.trans hml.symm) (Nat.le_of_eq hW) (hb hc d) eT hq.2.2.1 hq.2.2.2
  exact q F (k v T' L X' hQ)
end OwnTiny
section OwnHeld
variable {p : Program} {l : Launch} {e : Env} {R : Room} {s : State} {m : MethodId} {args : Array Value} {below : List Frame} {meth : Method} {c : Code} {T T' : State} {locs : List Loc} {cells slots cs sl pc k0 : Nat} {vm0 : Vm} {g g' : JFrame} {F : State → Outcome → Prop} {Q : Option Value → Heap → List Loc → Prop} {Ls : Array Slot} {rest : List Value} {Z : State} {a0 : Array Value} {h h0 : Heap} {EL : List (String × Nat)}
def own_FinH (below : List Frame) (s : State) (Z : State) (EL : List (String × Nat)) (h0 : Heap) (Q : Option Value → Heap → List Loc → Prop) (cs sl : Nat) (s₂ : State) (o : Outcome) : Prop := s₂.status = .running ∧ Ended s₂ below o ∧ ∃ v L, o = .returned v ∧ Q v s₂.heap L ∧ CHr Z EL s.vm h0 s₂.vm s₂.heap ∧ ReturnedEndW s o s₂ L cs sl
theorem own_leaveH {v : Option Value} {fs : List Frame} (st : Steps p.tables e below (T.setTop g) (T.setFrames fs)) (hrun : (T.setFrames fs).status = .running) (hended : Ended (T.setFrames fs) below (.returned v)) (hE : ReturnedEndW s (.returned v) (T.setFrames fs) locs cells slots) (hc : cells ≤ cs) (hs : slots ≤ sl) (hC : CHr Z EL s.vm h0 T.vm T.heap) (hQ : Q v T.heap locs) : own_Wp p e below (own_FinH below s Z EL h0 Q cs sl) T g :=
  ⟨_, _, st, hrun, hended, v, locs, rfl, hQ, hC, hE.1, hE.2.1, hE.2.2.1, hE.2.2.2.mono hc hs⟩
theorem own_retNH (X : Stand p l e R (s.setVm vm0) m args below meth c T locs cells slots) (hS : s.Since vm0 k0) (hn0 : k0 ≤ T.heap.size) (hZ : Z.Warmed39 (s.setVm vm0).vm) (hEL : EW Z a0 EL) (hR : CHr Z EL s.vm h0 vm0 T.heap) (hx : p.tables.exec = Jvm.exec) {t : FieldType} {z : Int32} (hret : meth.sig.returnType = some t) (ht : t = .boolean ∨ t = .byte ∨ t = .char ∨ t = .short) (hlocks : meth.locks = false) (hd : decode c.code pc = .ok (.ireturn, 1)) (hc : cells ≤ cs) (hs : slots ≤ sl) (hQ : Q (some (.int (nar t z))) T.heap locs) : own_Wp p e below (own_FinH below s Z EL h0 Q cs sl) T (mkF m pc Ls (.int z :: rest)) := by
  obtain ⟨fs, hr, hrun, hended, hE⟩ := X.leaveW hS hn0 (v := some (.int (nar t z))) (fun h => by rw [hret] at h; cases h) hlocks
  exact own_leaveH (retN X hx hret ht hd hr) hrun hended hE hc hs (hR.trans (CHv.at X hZ hEL hR.1)) hQ
theorem own_retAH (X : Stand p l e R (s.setVm vm0) m args below meth c T locs cells slots) (hS : s.Since vm0 k0) (hn0 : k0 ≤ T.heap.size) (hZ : Z.Warmed39 (s.setVm vm0).vm) (hEL : EW Z a0 EL) (hR : CHr Z EL s.vm h0 vm0 T.heap) (hx : p.tables.exec = Jvm.exec) {t : FieldType} {v : Value} (hret : meth.sig.returnType = some t) (ht : t.isReference = true) (hv : v.isRef = true) (hlocks : meth.locks = false) (hd : decode c.code pc = .ok (.areturn, 1)) (hc : cells ≤ cs) (hs : slots ≤ sl) (hQ : Q (some v) T.heap locs) : own_Wp p e below (own_FinH below s Z EL h0 Q cs sl) T (mkF m pc Ls (v :: rest)) := by
  obtain ⟨fs, hr, hrun, hended, hE⟩ := X.leaveW hS hn0 (v := some v) (fun h => by rw [hret] at h; cases h) hlocks
  refine own_leaveH ?_ hrun hended hE hc hs (hR.trans (CHv.at X hZ hEL hR.1)) hQ
  have hm' : T.vm.method? m = some meth := X.method'
  rcases ref_cases hv with rfl | ⟨a, rfl⟩
  · show Steps p.tables e below (T.setTop { method := m, pc := pc, locals := Ls, stack := _ :: rest, locked := none }) _
    jvm_step X.here [X.here.top, hx, hd, hm', hret, Value.isRef, ht]
    first | (intro acts; rw [hr _ acts rfl rfl rfl]) | rw [hr _ _ rfl rfl rfl]
    exact Steps.refl _
  · show Steps p.tables e below (T.setTop { method := m, pc := pc, locals := Ls, stack := _ :: rest, locked := none }) _
    jvm_step X.here [X.here.top, hx, hd, hm', hret, Value.isRef, ht]
    first | (intro acts; rw [hr _ acts rfl rfl rfl]) | rw [hr _ _ rfl rfl rfl]
    exact Steps.refl _
def own_MetH (l : Launch) (Z : State) (EL : List (String × Nat)) (y : MethodName) (cd : Cond) (ws : List Cond) (rm : Room) (as' : Array Value) (h : Heap) (Q : Option Value → Heap → List Loc → Prop) : Prop :=
  MetFree l y (head1 (cd :: ws) rm) (fun a U => a = as' ∧ Z.Warmed39 U.vm ∧ U.heap = h ∧ CHv Z EL U.vm h) (fun _ _ _ _ _ => True) (fun _ U o U' => ∃ v L, o = .returned v ∧ Q v U'.heap L ∧ CHr Z EL U.vm U.heap U'.vm U'.heap ∧ ReturnedEndW U o U' L rm.cells rm.slots)
theorem own_metH {y : MethodName} {bytes : ByteArray} {maxL : Nat} {ret : Option FieldType} {ws : List Cond} {rm : Room} {as' : Array Value} {own : String} (hpl : plainFor y = true) (ho : y.cls = own)
    (body : ∀ p e s m below meth c s₁, p.tables.exec = Jvm.exec → c.code = bytes → c.maxLocals = maxL → (s.setVm s.vm).vm.findClass own = some m.cls → meth.name = y.name → meth.sig.returnType = ret → meth.locks = false → Z.Warmed39 (s.setVm s.vm).vm → s₁.heap = h →
      Stand p l e rm (s.setVm s.vm) m as' below meth c s₁ [] 0 0 → s.Since s.vm 0 → CHv Z EL s.vm h → own_Wp p e below (own_FinH below s Z EL h Q rm.cells rm.slots) s₁ (entryFrame m as' maxL)) : own_MetH l Z EL y (Cond.code y bytes maxL ret) ws rm as' h Q := by
  refine MetFree.of_bodySF hpl hisR ?_
  intro p e s m args below meth c s₁ Bd hml0 hP hK
  obtain ⟨rfl, hZ, hh, hC⟩ := hP
  obtain ⟨s2, o, st, h1, h2, v, L, h3, h4, h5, h6⟩ := body p e s m below meth c s₁ Bd.exec Bd.bytes hml0 (ho ▸ findClass_of_methodNamed Bd.named) (name_of_methodNamed Bd.named Bd.method).1 Bd.returns Bd.notSynchronized hZ (by rw [← hh, Bd.state]; rfl) (Stand.of_body Bd) ((State.WarmedH.refl s).since 0) hC
  exact ⟨s2, o, st, h1, h2, v, L, h3, h4, by rw [hh]; exact h5, h6⟩
theorem own_callSH (X : Stand p l e R (s.setVm vm0) m args below meth c T locs cells slots) (hx : p.tables.exec = Jvm.exec) (hZ : Z.Warmed39 (s.setVm vm0).vm) (hS : s.Since vm0 k0) (hk : k0 ≤ h.size) (hEL : EW Z a0 EL) (hC : CHv Z EL vm0 h) {own : String} {index : Nat} {y : MethodName} {bytes : ByteArray} {maxL W : Nat} {ret : Option FieldType} {rm : Room} {as' : Array Value}
    (hown : (s.setVm vm0).vm.findClass own = some m.cls) (w1 : (Cond.methodLink own index y).before a0 Z = true) (w2 : (Cond.static y).before a0 Z = true) (w3 : (Cond.initialized y.cls).before a0 Z = true) (w4 : (Cond.code y bytes maxL ret).before a0 Z = true) (hy : y.cls ≠ "java/lang/invoke/MethodHandle" ∧ y.cls ≠ "java/lang/invoke/VarHandle")
    (hM : own_MetH l Z EL y (Cond.code y bytes maxL ret) [] rm as' h Q) (hf : rm.frames + 1 ≤ R.frames) (hl : W + (maxL + 11) + rm.locals ≤ R.locals) (argsL : List Value) (ha : argsL.toArray = as') (hlen : ∀ sig, parseMethodDescriptor y.desc = some sig → argsL.length = sig.parameters.length)
    (hsz : Ls.size = c.maxLocals) (hW : (rest.map fun v => v.category).sum ≤ W) (hd : decode c.code pc = .ok (.invokestatic index, 3)) (eT : T.heap = h) (hc : cells + rm.cells ≤ R.cells) (hs : slots + rm.slots ≤ R.slots) :
    ∃ (v : Option Value) (T' : State) (L : List Loc), Stand p l e R (s.setVm T'.vm) m args below meth c T' (locs ++ L) (cells + rm.cells) (slots + rm.slots) ∧ s.Since T'.vm T'.heap.size ∧ Z.Warmed39 (s.setVm T'.vm).vm ∧ (s.setVm T'.vm).vm.findClass own = some m.cls ∧ CHr Z EL vm0 h T'.vm T'.heap ∧ Q v T'.heap L ∧ ∀ F, own_Wp p e below F T' (mkF m (pc + 3) Ls (v.toList ++ rest)) → own_Wp p e below F T (mkF m pc Ls (argsL.reverse ++ rest)) := by
  obtain ⟨v, _, ⟨T1, L1, k1, n1⟩, -, X1, hS1, hg1, ⟨Lc, hQ, l1, y1, z1, hC1⟩, st⟩ := callSS X hx (y := y) hown (mvT hZ w1) (mvT hZ w2) (mvT hZ w3) (mvT hZ w4) hy (backOfSH (W := W) hM hZ w4 w3 hf hl hEL hC) (g := mkF m pc Ls (argsL.reverse ++ rest)) rfl hsz (argsL := argsL) (rest := rest) hlen rfl (by show 2 * 0 + _ ≤ _; omega) hd (fun _ _ => ⟨ha, eT, hc, hs⟩)
  dsimp only [Pt.U, Pt.locs, Pt.cells, Pt.slots] at X1 l1 y1 z1 st hQ hS1 hg1 hC1
  subst l1 y1 z1
  have hk' : k0 ≤ T.heap.size := by rw [eT]; exact hk
  obtain ⟨X2, hS2, hZ2, ho2⟩ := rebS hS hk' X1 hS1 hg1 hZ hown
  exact ⟨v, T1, Lc, X2, hS2, hZ2, ho2, hC1, hQ, fun F k => own_step (fun _ q => st.trans q) k⟩
end OwnHeld
theorem own_satoms : ∀ d ∈ Bundle.stringAtoms, d ∈ tables_1 := by decide +kernel
def own_EL : List (String × Nat) := [("com/example/linepack/linepack/Values", 70), ("com/example/linepack/linepack/ValuesIdPinLaw", 22)]
theorem own_EW {Z : State} {a0 : Array Value} (hw : ∀ d ∈ tables_1, d.before a0 Z = true) : EW Z a0 own_EL := (EW.cons (oW hw 86 rfl) (by decide) (EW.cons (oW hw 42 rfl) (by decide) EW.nil))
theorem own_u16 (u : UInt16) : (u.toUInt32.toInt32).toInt = u.toNat := by
  have hu := u.toNat_lt
  show ((u.toUInt32).toBitVec).toInt = _
  have hm : (u.toUInt32).toBitVec.toNat = u.toNat := by
    show (u.toUInt32).toNat = _
    simp
  rw [BitVec.toInt_eq_toNat_cond, hm, if_pos (by omega)]
theorem own_c16 (y : Int32) : ¬ (y.toUInt32.toUInt16.toUInt32.toInt32 < (0 : Int32)) ∧ ¬ ((65535 : Int32) < y.toUInt32.toUInt16.toUInt32.toInt32) ∧ nar .char y.toUInt32.toUInt16.toUInt32.toInt32 = y.toUInt32.toUInt16.toUInt32.toInt32 := by
  refine ⟨?_, ?_, ?_⟩
  · rw [Int32.lt_iff_toInt_lt, own_u16]; show ¬ ((y.toUInt32.toUInt16.toNat : Int) < 0); omega
  · rw [Int32.lt_iff_toInt_lt, own_u16]; show ¬ ((65535 : Int) < (y.toUInt32.toUInt16.toNat : Int)); have := y.toUInt32.toUInt16.toNat_lt; omega
  · have h : ∀ u : UInt16, u.toUInt32.toInt32.toUInt32.toUInt16 = u := fun u => by simp
    show y.toUInt32.toUInt16.toUInt32.toInt32.toUInt32.toUInt16.toUInt32.toInt32 = _
    rw [h]
theorem own_nat {c : Int32} {n : Int32} (h0 : ¬ (c < (0 : Int32))) (h1 : ¬ (n < c)) (k : Nat) (hk : n.toInt < k) (hk2 : k ≤ 2 ^ 31) : ∃ i : Nat, i < k ∧ c = Int32.ofNat i := by
  refine ⟨c.toInt.toNat, ?_, ?_⟩
  · rw [Int32.lt_iff_toInt_lt] at h0 h1
    have e0 : (0 : Int32).toInt = 0 := rfl
    omega
  · rw [Int32.lt_iff_toInt_lt] at h0
    have e0 : (0 : Int32).toInt = 0 := rfl
    have := c.toInt_lt
    rw [← Int32.toInt_inj, Int32.toInt_ofNat_of_lt] <;> omega
theorem own_b8 {c : Int32} (h0 : ¬ (c < (0 : Int32))) (h1 : ¬ ((255 : Int32) < c)) : (((nar .byte (c.toInt8.toInt32)) &&& (255 : Int32)).toUInt32.toUInt16.toUInt32.toInt32) = c := by
  obtain ⟨i, hi, rfl⟩ := own_nat h0 h1 256 (by decide) (by decide)
  have t : ∀ k : Fin 256, (((nar .byte ((Int32.ofNat k.val).toInt8.toInt32)) &&& (255 : Int32)).toUInt32.toUInt16.toUInt32.toInt32) = Int32.ofNat k.val := by decide +kernel
  exact t ⟨i, hi⟩
theorem own_i8 (k : Int32) (hk : k = 61 ∨ k = 43 ∨ k = 45 ∨ k = 64) {c : Int32} (h0 : ¬ (c < (0 : Int32))) (h1 : ¬ ((255 : Int32) < c)) (hn : ¬ (c = k)) : ¬ (k = (c.toInt8.toInt32)) := by
  obtain ⟨i, hi, rfl⟩ := own_nat h0 h1 256 (by decide) (by decide)
  have t : ∀ j : Fin 256, (¬ (Int32.ofNat j.val = (61 : Int32)) → ¬ ((61 : Int32) = ((Int32.ofNat j.val).toInt8.toInt32))) ∧ (¬ (Int32.ofNat j.val = (43 : Int32)) → ¬ ((43 : Int32) = ((Int32.ofNat j.val).toInt8.toInt32))) ∧ (¬ (Int32.ofNat j.val = (45 : Int32)) → ¬ ((45 : Int32) = ((Int32.ofNat j.val).toInt8.toInt32))) ∧ (¬ (Int32.ofNat j.val = (64 : Int32)) → ¬ ((64 : Int32) = ((Int32.ofNat j.val).toInt8.toInt32))) := by decide +kernel
  have q := t ⟨i, hi⟩
  rcases hk with rfl | rfl | rfl | rfl
  · exact q.1 hn
  · exact q.2.1 hn
  · exact q.2.2.1 hn
  · exact q.2.2.2 hn
theorem own_255 (j : Nat) (hj : j < 32) : (255#32)[j] = decide (j < 8) := by
  have t : ∀ k : Fin 32, (255#32)[k.val]'k.isLt = decide (k.val < 8) := by decide +kernel
  exact t ⟨j, hj⟩
theorem own_nb8 (y : Int32) : (nar .byte (y.toInt8.toInt32)) &&& (255 : Int32) = y &&& (255 : Int32) := by
  apply Int32.toBitVec_inj.mp
  show ((((y.toBitVec.signExtend 8).signExtend 32).signExtend 8).signExtend 32) &&& 255#32 = y.toBitVec &&& 255#32
  generalize y.toBitVec = v
  ext j hj
  simp only [BitVec.getElem_signExtend, BitVec.getElem_and, own_255 j hj]
  by_cases q : j < 8 <;> simp [q, hj]
theorem own_b16 {c : Int32} (h0 : ¬ (c < (0 : Int32))) (h1 : ¬ ((65535 : Int32) < c)) : (((((nar .byte ((c >>> ((0 : Int32) &&& 31)).toInt8.toInt32)) &&& (255 : Int32)) <<< ((0 : Int32) &&& 31)) ||| (((nar .byte ((c >>> ((8 : Int32) &&& 31)).toInt8.toInt32)) &&& (255 : Int32)) <<< ((8 : Int32) &&& 31))).toUInt32.toUInt16.toUInt32.toInt32) = c := by
  rw [own_nb8, own_nb8]
  have e1 : (0 : Int32) &&& 31 = 0 := by decide
  have e2 : (8 : Int32) &&& 31 = 8 := by decide
  rw [e1, e2]
  obtain ⟨i, hi, rfl⟩ := own_nat h0 h1 65536 (by decide) (by decide)
  apply Int32.toBitVec_inj.mp
  have hb : ∀ j, 16 ≤ j → i.testBit j = false := fun j hj => Nat.testBit_lt_two_pow (Nat.lt_of_lt_of_le hi (Nat.pow_le_pow_right (n := 2) (by decide) hj))
  show (((((BitVec.ofNat 32 i).sshiftRight 0 &&& 255#32) <<< 0) ||| (((BitVec.ofNat 32 i).sshiftRight 8 &&& 255#32) <<< 8)).setWidth 16).setWidth 32 = BitVec.ofNat 32 i
  have hm : (BitVec.ofNat 32 i).msb = false := by
    rw [BitVec.msb_eq_getLsbD_last, BitVec.getLsbD_ofNat]
    simp [hb 31 (by decide)]
  rw [BitVec.sshiftRight_eq_of_msb_false hm, BitVec.sshiftRight_eq_of_msb_false hm]
  apply BitVec.eq_of_getLsbD_eq
  intro j hj
  have t : ∀ j, (255#32).getLsbD j = decide (j < 8) := fun j => by
    by_cases q : j < 32
    · have := own_255 j q
      rwa [← BitVec.getLsbD_eq_getElem] at this
    · rw [BitVec.getLsbD_of_ge _ _ (by omega)]; simp; omega
  simp only [BitVec.getLsbD_setWidth, BitVec.getLsbD_or, BitVec.getLsbD_shiftLeft, BitVec.getLsbD_and, BitVec.getLsbD_ushiftRight, BitVec.getLsbD_ofNat, t]
  have q3 : j - 8 < 8 ↔ j < 16 := by omega
  have q4 : j - 8 < 32 := by omega
  by_cases q1 : j < 8
  · have q2 : j < 16 := by omega
    simp [q1, q2, hj]
  · by_cases q2 : j < 16
    · have q5 : 8 + (j - 8) = j := by omega
      simp [q1, q2, q3, q4, q5, hj]
    · simp [q1, q2, hj, hb j (by omega)]
theorem own_mod5 (x : Int32) : (x &&& (2147483647 : Int32)) % (5 : Int32) = (0 : Int32) ∨ (x &&& (2147483647 : Int32)) % (5 : Int32) = (1 : Int32) ∨ (x &&& (2147483647 : Int32)) % (5 : Int32) = (2 : Int32) ∨ (x &&& (2147483647 : Int32)) % (5 : Int32) = (3 : Int32) ∨ (x &&& (2147483647 : Int32)) % (5 : Int32) = (4 : Int32) := by
  have h := own_mod x (n := (5 : Int32)) (by decide)
  generalize (x &&& (2147483647 : Int32)) % (5 : Int32) = y at h ⊢
  have e : (5 : Int32).toInt = 5 := rfl
  rw [e] at h
  simp only [← Int32.toInt_inj]
  show y.toInt = 0 ∨ y.toInt = 1 ∨ y.toInt = 2 ∨ y.toInt = 3 ∨ y.toInt = 4
  omega
abbrev oM {Z : State} {a0 : Array Value} {n0 : Nat} {h0 : Heap} (_ : oH a0 Z) (_ : oJ a0 Z) (_ : Old Z n0 h0) (l : Launch) (y : MethodName) (cd : Jvm.Cond) (R : Room) (as : Array Value) (Q : Option Value → Heap → List Loc → Prop) : Prop := own_Met l Z y cd [] R as h0 Q
abbrev oMH {Z : State} {a0 : Array Value} {n0 : Nat} {h0 : Heap} (_ : oH a0 Z) (_ : oJ a0 Z) (_ : Old Z n0 h0) (l : Launch) (y : MethodName) (cd : Jvm.Cond) (R : Room) (as : Array Value) (Q : Option Value → Heap → List Loc → Prop) : Prop := own_MetH l Z own_EL y cd [] R as h0 Q
abbrev Fa (Z : State) (h : Heap) (a : Addr) (v : Value) : Prop := Fld Z h a "java/lang/String" "coder" "B" v
abbrev Fb (Z : State) (h : Heap) (a : Addr) (v : Value) : Prop := Fld Z h a "java/lang/String" "value" "[B" v
abbrev Ga (Z : State) (h : Heap) (a : Addr) : Prop := Exa Z h a "java/lang/String"
theorem si0 {Z : State} {a0 : Array Value} (hw : oH a0 Z) (hS : oJ a0 Z) : Sta Z Z.heap "java/lang/StringUTF16" "$assertionsDisabled" "Z" (.int 1) := Sta.start (own_eqI (Cond.before_iff.mp (hS _ (List.mem_of_getElem? (i := 12) rfl)))) (Or.inl (hS _ (List.mem_of_getElem? (i := 11) rfl)))
theorem si1 {Z : State} {a0 : Array Value} (hw : oH a0 Z) (hS : oJ a0 Z) : Sta Z Z.heap "java/lang/StringUTF16" "HI_BYTE_SHIFT" "I" (.int 0) := Sta.start (own_eqI (Cond.before_iff.mp (hS _ (List.mem_of_getElem? (i := 15) rfl)))) (Or.inl (hS _ (List.mem_of_getElem? (i := 14) rfl)))
theorem si2 {Z : State} {a0 : Array Value} (hw : oH a0 Z) (hS : oJ a0 Z) : Sta Z Z.heap "java/lang/StringUTF16" "LO_BYTE_SHIFT" "I" (.int 8) := Sta.start (own_eqI (Cond.before_iff.mp (hS _ (List.mem_of_getElem? (i := 18) rfl)))) (Or.inl (hS _ (List.mem_of_getElem? (i := 17) rfl)))
theorem sr0 {Z : State} {a0 : Array Value} (hw : oH a0 Z) (hS : oJ a0 Z) : Sta Z Z.heap "jdk/internal/util/Preconditions" "SIOOBE_FORMATTER" "Ljava/util/function/BiFunction;" .null ∨ ∃ a, Sta Z Z.heap "jdk/internal/util/Preconditions" "SIOOBE_FORMATTER" "Ljava/util/function/BiFunction;" (.ref a) := by
  obtain ⟨v, ev, hv⟩ := own_isref (Cond.before_iff.mp (hS _ (List.mem_of_getElem? (i := 8) rfl)))
  rcases ref_cases hv with rfl | ⟨a, rfl⟩
  · exact Or.inl (Sta.start ev (Or.inl (hS _ (List.mem_of_getElem? (i := 7) rfl))))
  · exact Or.inr ⟨a, Sta.start ev (Or.inl (hS _ (List.mem_of_getElem? (i := 7) rfl)))⟩
def w3i_COMPACT_STRINGS (Z : State) : Int32 := own_i Z (Jvm.Term.static "java/lang/String" "COMPACT_STRINGS" "Z")
theorem ev_w3i_COMPACT_STRINGS {Z : State} {a0 : Array Value} (hw : oH a0 Z) (hS : oJ a0 Z) : (Jvm.Term.static "java/lang/String" "COMPACT_STRINGS" "Z").eval a0 Z none [] Z = some (.int (w3i_COMPACT_STRINGS Z)) := own_evI (Cond.before_iff.mp (hS _ (List.mem_of_getElem? (i := 1) rfl))) rfl
theorem st_w3i_COMPACT_STRINGS {Z : State} {a0 : Array Value} (hw : oH a0 Z) (hS : oJ a0 Z) : Sta Z Z.heap "java/lang/String" "COMPACT_STRINGS" "Z" (.int (w3i_COMPACT_STRINGS Z)) := Sta.start (ev_w3i_COMPACT_STRINGS hw hS) (Or.inl (hS _ (List.mem_of_getElem? (i := 0) rfl)))
theorem ne_w3i_COMPACT_STRINGS {Z : State} {a0 : Array Value} (hw : oH a0 Z) (hS : oJ a0 Z) : ¬ (w3i_COMPACT_STRINGS Z = (0 : Int32)) := own_neI (Cond.before_iff.mp (hS _ (List.mem_of_getElem? (i := 2) rfl))) (ev_w3i_COMPACT_STRINGS hw hS)
abbrev c1_ := method_3_code
theorem d1_0 : oD c1_ 0 (.iload_n 0) 1 := by decide +kernel
theorem d1_1 : oD c1_ 1 (.bipush 32) 2 := by decide +kernel
theorem d1_3 : oD c1_ 3 (.if_icmp .lt 13) 3 := by decide +kernel
theorem d1_16 : oD c1_ 16 (.iconst 0) 1 := by decide +kernel
theorem d1_17 : oD c1_ 17 (.ireturn) 1 := by decide +kernel
theorem d1_6 : oD c1_ 6 (.iload_n 0) 1 := by decide +kernel
theorem d1_7 : oD c1_ 7 (.bipush 127) 2 := by decide +kernel
theorem d1_9 : oD c1_ 9 (.if_icmp .eq 7) 3 := by decide +kernel
theorem d1_12 : oD c1_ 12 (.iconst 1) 1 := by decide +kernel
theorem d1_13 : oD c1_ 13 (.goto 4) 3 := by decide +kernel
abbrev y1 : MethodName := (⟨"com/example/linepack/linepack/ValuesIdPinLaw", "plain", "(C)Z"⟩ : MethodName)
abbrev cd1 : Jvm.Cond := Jvm.Cond.code y1 method_3_code 1 (some .boolean)
theorem pn2 : plainName "com/example/linepack/linepack/ValuesIdPinLaw" = true := by first | (simp [plainName, overriddenIn]; done) | decide +kernel
theorem bu3 {Z : State} {a0 : Array Value} (hw : oH a0 Z) : oBS a0 Z y1 cd1 := ⟨(oW hw 3 rfl), (oW hw 4 rfl), (oW hw 5 rfl), by decide⟩
theorem pd4 : parseMethodDescriptor "(C)Z" = some ⟨[.char], some .boolean⟩ := by decide +kernel
abbrev c2_ := method_4_code
theorem d2_0 : oD c2_ 0 (.iload_n 0) 1 := by decide +kernel
theorem d2_1 : oD c2_ 1 (.bipush 61) 2 := by decide +kernel
theorem d2_3 : oD c2_ 3 (.if_icmp .eq 21) 3 := by decide +kernel
theorem d2_24 : oD c2_ 24 (.iconst 1) 1 := by decide +kernel
theorem d2_25 : oD c2_ 25 (.goto 4) 3 := by decide +kernel
theorem d2_29 : oD c2_ 29 (.ireturn) 1 := by decide +kernel
theorem d2_6 : oD c2_ 6 (.iload_n 0) 1 := by decide +kernel
theorem d2_7 : oD c2_ 7 (.bipush 43) 2 := by decide +kernel
theorem d2_9 : oD c2_ 9 (.if_icmp .eq 15) 3 := by decide +kernel
theorem d2_12 : oD c2_ 12 (.iload_n 0) 1 := by decide +kernel
theorem d2_13 : oD c2_ 13 (.bipush 45) 2 := by decide +kernel
theorem d2_15 : oD c2_ 15 (.if_icmp .eq 9) 3 := by decide +kernel
theorem d2_18 : oD c2_ 18 (.iload_n 0) 1 := by decide +kernel
theorem d2_19 : oD c2_ 19 (.bipush 64) 2 := by decide +kernel
theorem d2_21 : oD c2_ 21 (.if_icmp .ne 7) 3 := by decide +kernel
theorem d2_28 : oD c2_ 28 (.iconst 0) 1 := by decide +kernel
abbrev y2 : MethodName := (⟨"com/example/linepack/linepack/ValuesIdPinLaw", "formulaStart", "(C)Z"⟩ : MethodName)
abbrev cd2 : Jvm.Cond := Jvm.Cond.code y2 method_4_code 1 (some .boolean)
theorem bu7 {Z : State} {a0 : Array Value} (hw : oH a0 Z) : oBS a0 Z y2 cd2 := ⟨(oW hw 7 rfl), (oW hw 4 rfl), (oW hw 8 rfl), by decide⟩
abbrev c3_ := method_5_code
theorem d3_0 : oD c3_ 0 (.iload_n 0) 1 := by decide +kernel
theorem d3_1 : oD c3_ 1 (.iconst 1) 1 := by decide +kernel
theorem d3_2 : oD c3_ 2 (.if_icmp .ne 18) 3 := by decide +kernel
theorem d3_5 : oD c3_ 5 (.new 31) 3 := by decide +kernel
theorem d3_8 : oD c3_ 8 (.dup) 1 := by decide +kernel
theorem d3_9 : oD c3_ 9 (.iconst 1) 1 := by decide +kernel
theorem d3_10 : oD c3_ 10 (.newarray .char) 2 := by decide +kernel
theorem d3_12 : oD c3_ 12 (.dup) 1 := by decide +kernel
theorem d3_13 : oD c3_ 13 (.iconst 0) 1 := by decide +kernel
theorem d3_14 : oD c3_ 14 (.iload_n 1) 1 := by decide +kernel
theorem d3_15 : oD c3_ 15 (.castore) 1 := by decide +kernel
theorem d3_16 : oD c3_ 16 (.invokespecial 40) 3 := by decide +kernel
abbrev c4_ := jdk_42_method_3_code
theorem d4_0 : oD c4_ 0 (.aload_n 0) 1 := by decide +kernel
theorem d4_1 : oD c4_ 1 (.aload_n 1) 1 := by decide +kernel
theorem d4_2 : oD c4_ 2 (.iconst 0) 1 := by decide +kernel
theorem d4_3 : oD c4_ 3 (.aload_n 1) 1 := by decide +kernel
theorem d4_4 : oD c4_ 4 (.arraylength) 1 := by decide +kernel
theorem d4_5 : oD c4_ 5 (.aconst_null) 1 := by decide +kernel
theorem d4_6 : oD c4_ 6 (.invokespecial 27) 3 := by decide +kernel
abbrev c5_ := jdk_42_method_149_code
theorem d5_0 : oD c5_ 0 (.aload_n 0) 1 := by decide +kernel
theorem d5_1 : oD c5_ 1 (.invokespecial 1) 3 := by decide +kernel
theorem d5_4 : oD c5_ 4 (.iload_n 3) 1 := by decide +kernel
theorem d5_5 : oD c5_ 5 (.ifCond .ne 22) 3 := by decide +kernel
theorem d5_27 : oD c5_ 27 (.getstatic 38) 3 := by decide +kernel
theorem d5_30 : oD c5_ 30 (.ifCond .eq 28) 3 := by decide +kernel
theorem d5_33 : oD c5_ 33 (.aload_n 1) 1 := by decide +kernel
theorem d5_34 : oD c5_ 34 (.iload_n 2) 1 := by decide +kernel
theorem d5_35 : oD c5_ 35 (.iload_n 3) 1 := by decide +kernel
theorem d5_36 : oD c5_ 36 (.invokestatic 177) 3 := by decide +kernel
abbrev c7_ := jdk_52_method_16_code
theorem d7_0 : oD c7_ 0 (.iload_n 2) 1 := by decide +kernel
theorem d7_1 : oD c7_ 1 (.newarray .byte) 2 := by decide +kernel
theorem d7_3 : oD c7_ 3 (.astore_n 3) 1 := by decide +kernel
theorem d7_4 : oD c7_ 4 (.aload_n 0) 1 := by decide +kernel
theorem d7_5 : oD c7_ 5 (.iload_n 1) 1 := by decide +kernel
theorem d7_6 : oD c7_ 6 (.aload_n 3) 1 := by decide +kernel
theorem d7_7 : oD c7_ 7 (.iconst 0) 1 := by decide +kernel
theorem d7_8 : oD c7_ 8 (.iload_n 2) 1 := by decide +kernel
theorem d7_9 : oD c7_ 9 (.invokestatic 115) 3 := by decide +kernel
abbrev c8_ := jdk_52_method_21_code
theorem d8_0 : oD c8_ 0 (.iconst 0) 1 := by decide +kernel
theorem d8_1 : oD c8_ 1 (.istore 5) 2 := by decide +kernel
theorem d8_3 : oD c8_ 3 (.iload 5) 2 := by decide +kernel
theorem d8_5 : oD c8_ 5 (.iload 4) 2 := by decide +kernel
theorem d8_7 : oD c8_ 7 (.if_icmp .ge 37) 3 := by decide +kernel
theorem d8_10 : oD c8_ 10 (.aload_n 0) 1 := by decide +kernel
theorem d8_11 : oD c8_ 11 (.iload_n 1) 1 := by decide +kernel
theorem d8_12 : oD c8_ 12 (.caload) 1 := by decide +kernel
theorem d8_13 : oD c8_ 13 (.istore 6) 2 := by decide +kernel
theorem d8_15 : oD c8_ 15 (.iload 6) 2 := by decide +kernel
theorem d8_17 : oD c8_ 17 (.sipush 255) 3 := by decide +kernel
theorem d8_20 : oD c8_ 20 (.if_icmp .le 6) 3 := by decide +kernel
theorem d8_23 : oD c8_ 23 (.iload 5) 2 := by decide +kernel
theorem d8_25 : oD c8_ 25 (.ireturn) 1 := by decide +kernel
theorem d8_26 : oD c8_ 26 (.aload_n 2) 1 := by decide +kernel
theorem d8_27 : oD c8_ 27 (.iload_n 3) 1 := by decide +kernel
theorem d8_28 : oD c8_ 28 (.iload 6) 2 := by decide +kernel
theorem d8_30 : oD c8_ 30 (.i2b) 1 := by decide +kernel
theorem d8_31 : oD c8_ 31 (.bastore) 1 := by decide +kernel
theorem d8_32 : oD c8_ 32 (.iinc 1 1) 3 := by decide +kernel
theorem d8_35 : oD c8_ 35 (.iinc 3 1) 3 := by decide +kernel
theorem d8_38 : oD c8_ 38 (.iinc 5 1) 3 := by decide +kernel
theorem d8_41 : oD c8_ 41 (.goto (-38)) 3 := by decide +kernel
theorem d8_44 : oD c8_ 44 (.iload 4) 2 := by decide +kernel
theorem d8_46 : oD c8_ 46 (.ireturn) 1 := by decide +kernel
abbrev y8 : MethodName := (⟨"java/lang/StringUTF16", "compress", "([CI[BII)I"⟩ : MethodName)
abbrev cd8 : Jvm.Cond := Jvm.Cond.code y8 jdk_52_method_21_code 7 (some .int)
theorem pn14 : plainName "java/lang/StringUTF16" = true := by first | (simp [plainName, overriddenIn]; done) | decide +kernel
theorem bu15 {Z : State} {a0 : Array Value} (hw : oH a0 Z) : oBS a0 Z y8 cd8 := ⟨(oW hw 33 rfl), (oW hw 29 rfl), (oW hw 34 rfl), by decide⟩
theorem pd16 : parseMethodDescriptor "([CI[BII)I" = some ⟨[(.array .char), .int, (.array .byte), .int, .int], some .int⟩ := by decide +kernel
theorem d7_12 : oD c7_ 12 (.istore 4) 2 := by decide +kernel
theorem d7_14 : oD c7_ 14 (.iload 4) 2 := by decide +kernel
theorem d7_16 : oD c7_ 16 (.iload_n 2) 1 := by decide +kernel
theorem d7_17 : oD c7_ 17 (.if_icmp .eq 40) 3 := by decide +kernel
theorem d7_20 : oD c7_ 20 (.aload_n 0) 1 := by decide +kernel
theorem d7_21 : oD c7_ 21 (.iload_n 1) 1 := by decide +kernel
theorem d7_22 : oD c7_ 22 (.iload_n 2) 1 := by decide +kernel
theorem d7_23 : oD c7_ 23 (.invokestatic 119) 3 := by decide +kernel
abbrev c27_ := jdk_52_method_14_code
theorem d27_0 : oD c27_ 0 (.iload_n 2) 1 := by decide +kernel
theorem d27_1 : oD c27_ 1 (.invokestatic 107) 3 := by decide +kernel
abbrev c28_ := jdk_52_method_2_code
theorem d28_0 : oD c28_ 0 (.iload_n 0) 1 := by decide +kernel
theorem d28_1 : oD c28_ 1 (.invokestatic 11) 3 := by decide +kernel
abbrev c29_ := jdk_52_method_3_code
theorem d29_0 : oD c29_ 0 (.iload_n 0) 1 := by decide +kernel
theorem d29_1 : oD c29_ 1 (.ifCond .ge 11) 3 := by decide +kernel
theorem d29_12 : oD c29_ 12 (.iload_n 0) 1 := by decide +kernel
theorem d29_13 : oD c29_ 13 (.ldc 20) 2 := by decide +kernel
theorem d29_15 : oD c29_ 15 (.if_icmp .lt 40) 3 := by decide +kernel
theorem d29_55 : oD c29_ 55 (.iload_n 0) 1 := by decide +kernel
theorem d29_56 : oD c29_ 56 (.iconst 1) 1 := by decide +kernel
theorem d29_57 : oD c29_ 57 (.ishl) 1 := by decide +kernel
theorem d29_58 : oD c29_ 58 (.ireturn) 1 := by decide +kernel
abbrev y29 : MethodName := (⟨"java/lang/StringUTF16", "newBytesLength", "(I)I"⟩ : MethodName)
abbrev cd29 : Jvm.Cond := Jvm.Cond.code y29 jdk_52_method_3_code 1 (some .int)
theorem bu21 {Z : State} {a0 : Array Value} (hw : oH a0 Z) : oBS a0 Z y29 cd29 := ⟨(oW hw 127 rfl), (oW hw 29 rfl), (oW hw 128 rfl), by decide⟩
theorem pd22 : parseMethodDescriptor "(I)I" = some ⟨[.int], some .int⟩ := by decide +kernel
theorem d28_4 : oD c28_ 4 (.newarray .byte) 2 := by decide +kernel
theorem d28_6 : oD c28_ 6 (.areturn) 1 := by decide +kernel
abbrev y28 : MethodName := (⟨"java/lang/StringUTF16", "newBytesFor", "(I)[B"⟩ : MethodName)
abbrev cd28 : Jvm.Cond := Jvm.Cond.code y28 jdk_52_method_2_code 1 (some (.array .byte))
theorem bu24 {Z : State} {a0 : Array Value} (hw : oH a0 Z) : oBS a0 Z y28 cd28 := ⟨(oW hw 124 rfl), (oW hw 29 rfl), (oW hw 125 rfl), by decide⟩
theorem pd25 : parseMethodDescriptor "(I)[B" = some ⟨[.int], some (.array .byte)⟩ := by decide +kernel
theorem d27_4 : oD c27_ 4 (.astore_n 3) 1 := by decide +kernel
theorem d27_5 : oD c27_ 5 (.iconst 0) 1 := by decide +kernel
theorem d27_6 : oD c27_ 6 (.istore 4) 2 := by decide +kernel
theorem d27_8 : oD c27_ 8 (.iload 4) 2 := by decide +kernel
theorem d27_10 : oD c27_ 10 (.iload_n 2) 1 := by decide +kernel
theorem d27_11 : oD c27_ 11 (.if_icmp .ge 21) 3 := by decide +kernel
theorem d27_14 : oD c27_ 14 (.aload_n 3) 1 := by decide +kernel
theorem d27_15 : oD c27_ 15 (.iload 4) 2 := by decide +kernel
theorem d27_17 : oD c27_ 17 (.aload_n 0) 1 := by decide +kernel
theorem d27_18 : oD c27_ 18 (.iload_n 1) 1 := by decide +kernel
theorem d27_19 : oD c27_ 19 (.caload) 1 := by decide +kernel
theorem d27_20 : oD c27_ 20 (.invokestatic 111) 3 := by decide +kernel
abbrev c30_ := jdk_52_method_4_code
theorem d30_0 : oD c30_ 0 (.getstatic 44) 3 := by decide +kernel
theorem d30_3 : oD c30_ 3 (.ifCond .ne 25) 3 := by decide +kernel
theorem d30_28 : oD c30_ 28 (.iload_n 1) 1 := by decide +kernel
theorem d30_29 : oD c30_ 29 (.iconst 1) 1 := by decide +kernel
theorem d30_30 : oD c30_ 30 (.ishl) 1 := by decide +kernel
theorem d30_31 : oD c30_ 31 (.istore_n 1) 1 := by decide +kernel
theorem d30_32 : oD c30_ 32 (.aload_n 0) 1 := by decide +kernel
theorem d30_33 : oD c30_ 33 (.iload_n 1) 1 := by decide +kernel
theorem d30_34 : oD c30_ 34 (.iinc 1 1) 3 := by decide +kernel
theorem d30_37 : oD c30_ 37 (.iload_n 2) 1 := by decide +kernel
theorem d30_38 : oD c30_ 38 (.getstatic 59) 3 := by decide +kernel
theorem d30_41 : oD c30_ 41 (.ishr) 1 := by decide +kernel
theorem d30_42 : oD c30_ 42 (.i2b) 1 := by decide +kernel
theorem d30_43 : oD c30_ 43 (.bastore) 1 := by decide +kernel
theorem d30_44 : oD c30_ 44 (.aload_n 0) 1 := by decide +kernel
theorem d30_45 : oD c30_ 45 (.iload_n 1) 1 := by decide +kernel
theorem d30_46 : oD c30_ 46 (.iload_n 2) 1 := by decide +kernel
theorem d30_47 : oD c30_ 47 (.getstatic 63) 3 := by decide +kernel
theorem d30_50 : oD c30_ 50 (.ishr) 1 := by decide +kernel
theorem d30_51 : oD c30_ 51 (.i2b) 1 := by decide +kernel
theorem d30_52 : oD c30_ 52 (.bastore) 1 := by decide +kernel
theorem d30_53 : oD c30_ 53 (.return_) 1 := by decide +kernel
abbrev y30 : MethodName := (⟨"java/lang/StringUTF16", "putChar", "([BII)V"⟩ : MethodName)
abbrev cd30 : Jvm.Cond := Jvm.Cond.code y30 jdk_52_method_4_code 3 none
theorem bu28 {Z : State} {a0 : Array Value} (hw : oH a0 Z) : oBS a0 Z y30 cd30 := ⟨(oW hw 131 rfl), (oW hw 29 rfl), (oW hw 132 rfl), by decide⟩
theorem pd29 : parseMethodDescriptor "([BII)V" = some ⟨[(.array .byte), .int, .int], none⟩ := by decide +kernel
theorem d27_23 : oD c27_ 23 (.iinc 1 1) 3 := by decide +kernel
theorem d27_26 : oD c27_ 26 (.iinc 4 1) 3 := by decide +kernel
theorem d27_29 : oD c27_ 29 (.goto (-21)) 3 := by decide +kernel
theorem d27_32 : oD c27_ 32 (.aload_n 3) 1 := by decide +kernel
theorem d27_33 : oD c27_ 33 (.areturn) 1 := by decide +kernel
abbrev y27 : MethodName := (⟨"java/lang/StringUTF16", "toBytes", "([CII)[B"⟩ : MethodName)
abbrev cd27 : Jvm.Cond := Jvm.Cond.code y27 jdk_52_method_14_code 5 (some (.array .byte))
theorem bu31 {Z : State} {a0 : Array Value} (hw : oH a0 Z) : oBS a0 Z y27 cd27 := ⟨(oW hw 121 rfl), (oW hw 29 rfl), (oW hw 122 rfl), by decide⟩
theorem pd32 : parseMethodDescriptor "([CII)[B" = some ⟨[(.array .char), .int, .int], some (.array .byte)⟩ := by decide +kernel
theorem d7_26 : oD c7_ 26 (.astore 5) 2 := by decide +kernel
theorem d7_28 : oD c7_ 28 (.aload 5) 2 := by decide +kernel
theorem d7_30 : oD c7_ 30 (.iload 4) 2 := by decide +kernel
theorem d7_32 : oD c7_ 32 (.invokestatic 71) 3 := by decide +kernel
abbrev c31_ := jdk_52_method_5_code
theorem d31_0 : oD c31_ 0 (.getstatic 44) 3 := by decide +kernel
theorem d31_3 : oD c31_ 3 (.ifCond .ne 25) 3 := by decide +kernel
theorem d31_28 : oD c31_ 28 (.iload_n 1) 1 := by decide +kernel
theorem d31_29 : oD c31_ 29 (.iconst 1) 1 := by decide +kernel
theorem d31_30 : oD c31_ 30 (.ishl) 1 := by decide +kernel
theorem d31_31 : oD c31_ 31 (.istore_n 1) 1 := by decide +kernel
theorem d31_32 : oD c31_ 32 (.aload_n 0) 1 := by decide +kernel
theorem d31_33 : oD c31_ 33 (.iload_n 1) 1 := by decide +kernel
theorem d31_34 : oD c31_ 34 (.iinc 1 1) 3 := by decide +kernel
theorem d31_37 : oD c31_ 37 (.baload) 1 := by decide +kernel
theorem d31_38 : oD c31_ 38 (.sipush 255) 3 := by decide +kernel
theorem d31_41 : oD c31_ 41 (.iand) 1 := by decide +kernel
theorem d31_42 : oD c31_ 42 (.getstatic 59) 3 := by decide +kernel
theorem d31_45 : oD c31_ 45 (.ishl) 1 := by decide +kernel
theorem d31_46 : oD c31_ 46 (.aload_n 0) 1 := by decide +kernel
theorem d31_47 : oD c31_ 47 (.iload_n 1) 1 := by decide +kernel
theorem d31_48 : oD c31_ 48 (.baload) 1 := by decide +kernel
theorem d31_49 : oD c31_ 49 (.sipush 255) 3 := by decide +kernel
theorem d31_52 : oD c31_ 52 (.iand) 1 := by decide +kernel
theorem d31_53 : oD c31_ 53 (.getstatic 63) 3 := by decide +kernel
theorem d31_56 : oD c31_ 56 (.ishl) 1 := by decide +kernel
theorem d31_57 : oD c31_ 57 (.ior) 1 := by decide +kernel
theorem d31_58 : oD c31_ 58 (.i2c) 1 := by decide +kernel
theorem d31_59 : oD c31_ 59 (.ireturn) 1 := by decide +kernel
abbrev y31 : MethodName := (⟨"java/lang/StringUTF16", "getChar", "([BI)C"⟩ : MethodName)
abbrev cd31 : Jvm.Cond := Jvm.Cond.code y31 jdk_52_method_5_code 2 (some .char)
theorem bu35 {Z : State} {a0 : Array Value} (hw : oH a0 Z) : oBS a0 Z y31 cd31 := ⟨(oW hw 137 rfl), (oW hw 29 rfl), (oW hw 138 rfl), by decide⟩
theorem pd36 : parseMethodDescriptor "([BI)C" = some ⟨[(.array .byte), .int], some .char⟩ := by decide +kernel
theorem d7_35 : oD c7_ 35 (.sipush 255) 3 := by decide +kernel
theorem d7_38 : oD c7_ 38 (.if_icmp .gt 16) 3 := by decide +kernel
theorem d7_54 : oD c7_ 54 (.aload 5) 2 := by decide +kernel
theorem d7_56 : oD c7_ 56 (.areturn) 1 := by decide +kernel
theorem d7_57 : oD c7_ 57 (.aload_n 3) 1 := by decide +kernel
theorem d7_58 : oD c7_ 58 (.areturn) 1 := by decide +kernel
abbrev y7 : MethodName := (⟨"java/lang/StringUTF16", "compress", "([CII)[B"⟩ : MethodName)
abbrev cd7 : Jvm.Cond := Jvm.Cond.code y7 jdk_52_method_16_code 6 (some (.array .byte))
theorem bu38 {Z : State} {a0 : Array Value} (hw : oH a0 Z) : oBS a0 Z y7 cd7 := ⟨(oW hw 28 rfl), (oW hw 29 rfl), (oW hw 30 rfl), by decide⟩
theorem d5_39 : oD c5_ 39 (.astore 5) 2 := by decide +kernel
theorem d5_41 : oD c5_ 41 (.aload_n 0) 1 := by decide +kernel
theorem d5_42 : oD c5_ 42 (.aload 5) 2 := by decide +kernel
theorem d5_44 : oD c5_ 44 (.iload_n 3) 1 := by decide +kernel
theorem d5_45 : oD c5_ 45 (.invokestatic 47) 3 := by decide +kernel
abbrev c9_ := jdk_52_method_15_code
theorem d9_0 : oD c9_ 0 (.iload_n 1) 1 := by decide +kernel
theorem d9_1 : oD c9_ 1 (.aload_n 0) 1 := by decide +kernel
theorem d9_2 : oD c9_ 2 (.arraylength) 1 := by decide +kernel
theorem d9_3 : oD c9_ 3 (.isub) 1 := by decide +kernel
theorem d9_4 : oD c9_ 4 (.bipush 31) 2 := by decide +kernel
theorem d9_6 : oD c9_ 6 (.iushr) 1 := by decide +kernel
theorem d9_7 : oD c9_ 7 (.i2b) 1 := by decide +kernel
theorem d9_8 : oD c9_ 8 (.ireturn) 1 := by decide +kernel
abbrev y9 : MethodName := (⟨"java/lang/StringUTF16", "coderFromArrayLen", "([BI)B"⟩ : MethodName)
abbrev cd9 : Jvm.Cond := Jvm.Cond.code y9 jdk_52_method_15_code 2 (some .byte)
theorem bu41 {Z : State} {a0 : Array Value} (hw : oH a0 Z) : oBS a0 Z y9 cd9 := ⟨(oW hw 36 rfl), (oW hw 29 rfl), (oW hw 37 rfl), by decide⟩
theorem pd42 : parseMethodDescriptor "([BI)B" = some ⟨[(.array .byte), .int], some .byte⟩ := by decide +kernel
theorem d5_48 : oD c5_ 48 (.putfield 15) 3 := by decide +kernel
theorem d5_51 : oD c5_ 51 (.aload_n 0) 1 := by decide +kernel
theorem d5_52 : oD c5_ 52 (.aload 5) 2 := by decide +kernel
theorem d5_54 : oD c5_ 54 (.putfield 9) 3 := by decide +kernel
theorem sn43 {Z : State} {a0 : Array Value} (hw : oH a0 Z) : RoadKit.slotOf Z "java/lang/String" "value" "[B" ≠ RoadKit.slotOf Z "java/lang/String" "coder" "B" := slot_ne (Or.inr (oW hw 41 rfl)) (Or.inr (oW hw 39 rfl)) (by decide) (t := (.array .byte)) (t' := .byte) (by decide) (by decide)
theorem d5_57 : oD c5_ 57 (.return_) 1 := by decide +kernel
theorem sn44 {Z : State} {a0 : Array Value} (hw : oH a0 Z) : RoadKit.slotOf Z "java/lang/String" "coder" "B" ≠ RoadKit.slotOf Z "java/lang/String" "value" "[B" := slot_ne (Or.inr (oW hw 39 rfl)) (Or.inr (oW hw 41 rfl)) (by decide) (t := .byte) (t' := (.array .byte)) (by decide) (by decide)
abbrev y5 : MethodName := (⟨"java/lang/String", "<init>", "([CIILjava/lang/Void;)V"⟩ : MethodName)
abbrev cd5 : Jvm.Cond := Jvm.Cond.code y5 jdk_42_method_149_code 6 none
theorem pn46 : plainName "java/lang/String" = true := by first | (simp [plainName, overriddenIn]; done) | decide +kernel
theorem bu47 {Z : State} {a0 : Array Value} (hw : oH a0 Z) : oBN a0 Z y5 cd5 := ⟨rfl, (oW hw 20 rfl), (oW hw 14 rfl), (oW hw 22 rfl), by decide⟩
theorem pd48 : parseMethodDescriptor "([CIILjava/lang/Void;)V" = some ⟨[(.array .char), .int, .int, (.object "java/lang/Void")], none⟩ := by decide +kernel
theorem d4_9 : oD c4_ 9 (.return_) 1 := by decide +kernel
abbrev y4 : MethodName := (⟨"java/lang/String", "<init>", "([C)V"⟩ : MethodName)
abbrev cd4 : Jvm.Cond := Jvm.Cond.code y4 jdk_42_method_3_code 2 none
theorem bu50 {Z : State} {a0 : Array Value} (hw : oH a0 Z) : oBN a0 Z y4 cd4 := ⟨rfl, (oW hw 17 rfl), (oW hw 14 rfl), (oW hw 18 rfl), by decide⟩
theorem pd51 : parseMethodDescriptor "([C)V" = some ⟨[(.array .char)], none⟩ := by decide +kernel
theorem d3_19 : oD c3_ 19 (.areturn) 1 := by decide +kernel
abbrev y3 : MethodName := (⟨"com/example/linepack/linepack/ValuesIdPinLaw", "make", "(ICCCC)Ljava/lang/String;"⟩ : MethodName)
abbrev cd3 : Jvm.Cond := Jvm.Cond.code y3 method_5_code 5 (some (.object "java/lang/String"))
theorem bu53 {Z : State} {a0 : Array Value} (hw : oH a0 Z) : oBS a0 Z y3 cd3 := ⟨(oW hw 10 rfl), (oW hw 4 rfl), (oW hw 11 rfl), by decide⟩
theorem pd54 : parseMethodDescriptor "(ICCCC)Ljava/lang/String;" = some ⟨[.int, .char, .char, .char, .char], some (.object "java/lang/String")⟩ := by decide +kernel
abbrev c10_ := prog_15_method_3_code
theorem d10_0 : oD c10_ 0 (.aload_n 0) 1 := by decide +kernel
theorem d10_1 : oD c10_ 1 (.invokevirtual 54) 3 := by decide +kernel
abbrev c11_ := jdk_42_method_55_code
theorem d11_0 : oD c11_ 0 (.aload_n 0) 1 := by decide +kernel
theorem d11_1 : oD c11_ 1 (.getfield 9) 3 := by decide +kernel
theorem d11_4 : oD c11_ 4 (.arraylength) 1 := by decide +kernel
theorem d11_5 : oD c11_ 5 (.ifCond .ne 7) 3 := by decide +kernel
theorem d11_12 : oD c11_ 12 (.iconst 0) 1 := by decide +kernel
theorem d11_13 : oD c11_ 13 (.ireturn) 1 := by decide +kernel
abbrev y11 : MethodName := (⟨"java/lang/String", "isEmpty", "()Z"⟩ : MethodName)
abbrev cd11 : Jvm.Cond := Jvm.Cond.code y11 jdk_42_method_55_code 1 (some .boolean)
theorem bu58 {Z : State} {a0 : Array Value} (hw : oH a0 Z) : oBV a0 Z "java/lang/String" y11 y11 cd11 := ⟨(oW hw 50 rfl), fun hZ => (notFace_of_selects (args := #[]) (mvT hZ (oW hw 52 rfl))), (oW hw 52 rfl), (oW hw 51 rfl), (oW hw 14 rfl), (oW hw 53 rfl), by decide⟩
theorem pd59 : parseMethodDescriptor "()Z" = some ⟨[], some .boolean⟩ := by decide +kernel
theorem d10_4 : oD c10_ 4 (.ifCond .eq 17) 3 := by decide +kernel
theorem d10_21 : oD c10_ 21 (.iconst 0) 1 := by decide +kernel
theorem d10_22 : oD c10_ 22 (.istore_n 2) 1 := by decide +kernel
theorem d10_23 : oD c10_ 23 (.iload_n 2) 1 := by decide +kernel
theorem d10_24 : oD c10_ 24 (.aload_n 0) 1 := by decide +kernel
theorem d10_25 : oD c10_ 25 (.invokevirtual 61) 3 := by decide +kernel
abbrev c12_ := jdk_42_method_54_code
theorem d12_0 : oD c12_ 0 (.aload_n 0) 1 := by decide +kernel
theorem d12_1 : oD c12_ 1 (.getfield 9) 3 := by decide +kernel
theorem d12_4 : oD c12_ 4 (.arraylength) 1 := by decide +kernel
theorem d12_5 : oD c12_ 5 (.aload_n 0) 1 := by decide +kernel
theorem d12_6 : oD c12_ 6 (.invokevirtual 335) 3 := by decide +kernel
abbrev c13_ := jdk_42_method_152_code
theorem d13_0 : oD c13_ 0 (.getstatic 38) 3 := by decide +kernel
theorem d13_3 : oD c13_ 3 (.ifCond .eq 10) 3 := by decide +kernel
theorem d13_6 : oD c13_ 6 (.aload_n 0) 1 := by decide +kernel
theorem d13_7 : oD c13_ 7 (.getfield 15) 3 := by decide +kernel
theorem d13_10 : oD c13_ 10 (.goto 4) 3 := by decide +kernel
theorem d13_14 : oD c13_ 14 (.ireturn) 1 := by decide +kernel
abbrev y13 : MethodName := (⟨"java/lang/String", "coder", "()B"⟩ : MethodName)
abbrev cd13 : Jvm.Cond := Jvm.Cond.code y13 jdk_42_method_152_code 1 (some .byte)
theorem bu63 {Z : State} {a0 : Array Value} (hw : oH a0 Z) : oBV a0 Z "java/lang/String" y13 y13 cd13 := ⟨(oW hw 60 rfl), fun hZ => (notFace_of_selects (args := #[]) (mvT hZ (oW hw 62 rfl))), (oW hw 62 rfl), (oW hw 61 rfl), (oW hw 14 rfl), (oW hw 63 rfl), by decide⟩
theorem pd64 : parseMethodDescriptor "()B" = some ⟨[], some .byte⟩ := by decide +kernel
theorem d12_9 : oD c12_ 9 (.ishr) 1 := by decide +kernel
theorem d12_10 : oD c12_ 10 (.ireturn) 1 := by decide +kernel
abbrev y12 : MethodName := (⟨"java/lang/String", "length", "()I"⟩ : MethodName)
abbrev cd12 : Jvm.Cond := Jvm.Cond.code y12 jdk_42_method_54_code 1 (some .int)
theorem bu66 {Z : State} {a0 : Array Value} (hw : oH a0 Z) : oBV a0 Z "java/lang/String" y12 y12 cd12 := ⟨(oW hw 55 rfl), fun hZ => (notFace_of_selects (args := #[]) (mvT hZ (oW hw 57 rfl))), (oW hw 57 rfl), (oW hw 56 rfl), (oW hw 14 rfl), (oW hw 58 rfl), by decide⟩
theorem pd67 : parseMethodDescriptor "()I" = some ⟨[], some .int⟩ := by decide +kernel
theorem d10_28 : oD c10_ 28 (.if_icmp .ge 41) 3 := by decide +kernel
theorem d10_31 : oD c10_ 31 (.aload_n 0) 1 := by decide +kernel
theorem d10_32 : oD c10_ 32 (.iload_n 2) 1 := by decide +kernel
theorem d10_33 : oD c10_ 33 (.invokevirtual 65) 3 := by decide +kernel
abbrev c14_ := jdk_42_method_56_code
theorem d14_0 : oD c14_ 0 (.aload_n 0) 1 := by decide +kernel
theorem d14_1 : oD c14_ 1 (.invokevirtual 492) 3 := by decide +kernel
abbrev c15_ := jdk_42_method_154_code
theorem d15_0 : oD c15_ 0 (.getstatic 38) 3 := by decide +kernel
theorem d15_3 : oD c15_ 3 (.ifCond .eq 14) 3 := by decide +kernel
theorem d15_6 : oD c15_ 6 (.aload_n 0) 1 := by decide +kernel
theorem d15_7 : oD c15_ 7 (.getfield 15) 3 := by decide +kernel
theorem d15_10 : oD c15_ 10 (.ifCond .ne 7) 3 := by decide +kernel
theorem d15_17 : oD c15_ 17 (.iconst 0) 1 := by decide +kernel
theorem d15_18 : oD c15_ 18 (.ireturn) 1 := by decide +kernel
abbrev y15 : MethodName := (⟨"java/lang/String", "isLatin1", "()Z"⟩ : MethodName)
abbrev cd15 : Jvm.Cond := Jvm.Cond.code y15 jdk_42_method_154_code 1 (some .boolean)
theorem bu71 {Z : State} {a0 : Array Value} (hw : oH a0 Z) : oBV a0 Z "java/lang/String" y15 y15 cd15 := ⟨(oW hw 70 rfl), fun hZ => (notFace_of_selects (args := #[]) (mvT hZ (oW hw 72 rfl))), (oW hw 72 rfl), (oW hw 71 rfl), (oW hw 14 rfl), (oW hw 73 rfl), by decide⟩
theorem d14_4 : oD c14_ 4 (.ifCond .eq 12) 3 := by decide +kernel
theorem d14_16 : oD c14_ 16 (.aload_n 0) 1 := by decide +kernel
theorem d14_17 : oD c14_ 17 (.getfield 9) 3 := by decide +kernel
theorem d14_20 : oD c14_ 20 (.iload_n 1) 1 := by decide +kernel
theorem d14_21 : oD c14_ 21 (.invokestatic 498) 3 := by decide +kernel
abbrev c32_ := jdk_52_method_83_code
theorem d32_0 : oD c32_ 0 (.iload_n 1) 1 := by decide +kernel
theorem d32_1 : oD c32_ 1 (.aload_n 0) 1 := by decide +kernel
theorem d32_2 : oD c32_ 2 (.invokestatic 67) 3 := by decide +kernel
abbrev c33_ := jdk_52_method_91_code
theorem d33_0 : oD c33_ 0 (.iload_n 0) 1 := by decide +kernel
theorem d33_1 : oD c33_ 1 (.aload_n 1) 1 := by decide +kernel
theorem d33_2 : oD c33_ 2 (.invokestatic 48) 3 := by decide +kernel
abbrev c34_ := jdk_52_method_6_code
theorem d34_0 : oD c34_ 0 (.aload_n 0) 1 := by decide +kernel
theorem d34_1 : oD c34_ 1 (.arraylength) 1 := by decide +kernel
theorem d34_2 : oD c34_ 2 (.iconst 1) 1 := by decide +kernel
theorem d34_3 : oD c34_ 3 (.ishr) 1 := by decide +kernel
theorem d34_4 : oD c34_ 4 (.ireturn) 1 := by decide +kernel
abbrev y34 : MethodName := (⟨"java/lang/StringUTF16", "length", "([B)I"⟩ : MethodName)
abbrev cd34 : Jvm.Cond := Jvm.Cond.code y34 jdk_52_method_6_code 1 (some .int)
theorem bu76 {Z : State} {a0 : Array Value} (hw : oH a0 Z) : oBS a0 Z y34 cd34 := ⟨(oW hw 146 rfl), (oW hw 29 rfl), (oW hw 147 rfl), by decide⟩
theorem pd77 : parseMethodDescriptor "([B)I" = some ⟨[(.array .byte)], some .int⟩ := by decide +kernel
theorem d33_5 : oD c33_ 5 (.invokestatic 414) 3 := by decide +kernel
abbrev c17_ := jdk_42_method_155_code
theorem d17_0 : oD c17_ 0 (.iload_n 0) 1 := by decide +kernel
theorem d17_1 : oD c17_ 1 (.iload_n 1) 1 := by decide +kernel
theorem d17_2 : oD c17_ 2 (.getstatic 1053) 3 := by decide +kernel
theorem d17_5 : oD c17_ 5 (.invokestatic 1059) 3 := by decide +kernel
abbrev c18_ := jdk_41_method_11_code
theorem d18_0 : oD c18_ 0 (.iload_n 0) 1 := by decide +kernel
theorem d18_1 : oD c18_ 1 (.ifCond .lt 8) 3 := by decide +kernel
theorem d18_4 : oD c18_ 4 (.iload_n 0) 1 := by decide +kernel
theorem d18_5 : oD c18_ 5 (.iload_n 1) 1 := by decide +kernel
theorem d18_6 : oD c18_ 6 (.if_icmp .lt 10) 3 := by decide +kernel
theorem d18_16 : oD c18_ 16 (.iload_n 0) 1 := by decide +kernel
theorem d18_17 : oD c18_ 17 (.ireturn) 1 := by decide +kernel
abbrev y18 : MethodName := (⟨"jdk/internal/util/Preconditions", "checkIndex", "(IILjava/util/function/BiFunction;)I"⟩ : MethodName)
abbrev cd18 : Jvm.Cond := Jvm.Cond.code y18 jdk_41_method_11_code 3 (some .int)
theorem pn81 : plainName "jdk/internal/util/Preconditions" = true := by first | (simp [plainName, overriddenIn]; done) | decide +kernel
theorem bu82 {Z : State} {a0 : Array Value} (hw : oH a0 Z) : oBS a0 Z y18 cd18 := ⟨(oW hw 84 rfl), (oW hw 82 rfl), (oW hw 85 rfl), by decide⟩
theorem pd83 : parseMethodDescriptor "(IILjava/util/function/BiFunction;)I" = some ⟨[.int, .int, (.object "java/util/function/BiFunction")], some .int⟩ := by decide +kernel
theorem d17_8 : oD c17_ 8 (.pop) 1 := by decide +kernel
theorem d17_9 : oD c17_ 9 (.return_) 1 := by decide +kernel
abbrev y17 : MethodName := (⟨"java/lang/String", "checkIndex", "(II)V"⟩ : MethodName)
abbrev cd17 : Jvm.Cond := Jvm.Cond.code y17 jdk_42_method_155_code 2 none
theorem bu85 {Z : State} {a0 : Array Value} (hw : oH a0 Z) : oBS a0 Z y17 cd17 := ⟨(oW hw 79 rfl), (oW hw 14 rfl), (oW hw 80 rfl), by decide⟩
theorem pd86 : parseMethodDescriptor "(II)V" = some ⟨[.int, .int], none⟩ := by decide +kernel
theorem d33_8 : oD c33_ 8 (.return_) 1 := by decide +kernel
abbrev y33 : MethodName := (⟨"java/lang/StringUTF16", "checkIndex", "(I[B)V"⟩ : MethodName)
abbrev cd33 : Jvm.Cond := Jvm.Cond.code y33 jdk_52_method_91_code 2 none
theorem bu88 {Z : State} {a0 : Array Value} (hw : oH a0 Z) : oBS a0 Z y33 cd33 := ⟨(oW hw 143 rfl), (oW hw 29 rfl), (oW hw 144 rfl), by decide⟩
theorem pd89 : parseMethodDescriptor "(I[B)V" = some ⟨[.int, (.array .byte)], none⟩ := by decide +kernel
theorem d32_5 : oD c32_ 5 (.aload_n 0) 1 := by decide +kernel
theorem d32_6 : oD c32_ 6 (.iload_n 1) 1 := by decide +kernel
theorem d32_7 : oD c32_ 7 (.invokestatic 71) 3 := by decide +kernel
theorem d32_10 : oD c32_ 10 (.ireturn) 1 := by decide +kernel
abbrev y32 : MethodName := (⟨"java/lang/StringUTF16", "charAt", "([BI)C"⟩ : MethodName)
abbrev cd32 : Jvm.Cond := Jvm.Cond.code y32 jdk_52_method_83_code 2 (some .char)
theorem bu91 {Z : State} {a0 : Array Value} (hw : oH a0 Z) : oBS a0 Z y32 cd32 := ⟨(oW hw 140 rfl), (oW hw 29 rfl), (oW hw 141 rfl), by decide⟩
theorem d14_24 : oD c14_ 24 (.ireturn) 1 := by decide +kernel
abbrev y14 : MethodName := (⟨"java/lang/String", "charAt", "(I)C"⟩ : MethodName)
abbrev cd14 : Jvm.Cond := Jvm.Cond.code y14 jdk_42_method_56_code 2 (some .char)
theorem bu93 {Z : State} {a0 : Array Value} (hw : oH a0 Z) : oBV a0 Z "java/lang/String" y14 y14 cd14 := ⟨(oW hw 65 rfl), fun hZ => (notFace_of_selects (args := #[]) (mvT hZ (oW hw 67 rfl))), (oW hw 67 rfl), (oW hw 66 rfl), (oW hw 14 rfl), (oW hw 68 rfl), by decide⟩
theorem pd94 : parseMethodDescriptor "(I)C" = some ⟨[.int], some .char⟩ := by decide +kernel
theorem d10_36 : oD c10_ 36 (.istore_n 3) 1 := by decide +kernel
theorem d10_37 : oD c10_ 37 (.iload_n 3) 1 := by decide +kernel
theorem d10_38 : oD c10_ 38 (.bipush 32) 2 := by decide +kernel
theorem d10_40 : oD c10_ 40 (.if_icmp .lt 9) 3 := by decide +kernel
theorem d10_43 : oD c10_ 43 (.iload_n 3) 1 := by decide +kernel
theorem d10_44 : oD c10_ 44 (.bipush 127) 2 := by decide +kernel
theorem d10_46 : oD c10_ 46 (.if_icmp .ne 17) 3 := by decide +kernel
theorem d10_63 : oD c10_ 63 (.iinc 2 1) 3 := by decide +kernel
theorem d10_66 : oD c10_ 66 (.goto (-43)) 3 := by decide +kernel
theorem d10_69 : oD c10_ 69 (.aload_n 0) 1 := by decide +kernel
theorem d10_70 : oD c10_ 70 (.iconst 0) 1 := by decide +kernel
theorem d10_71 : oD c10_ 71 (.invokevirtual 65) 3 := by decide +kernel
theorem d10_74 : oD c10_ 74 (.istore_n 2) 1 := by decide +kernel
theorem d10_75 : oD c10_ 75 (.ldc 70) 2 := by decide +kernel
theorem d10_77 : oD c10_ 77 (.iload_n 2) 1 := by decide +kernel
theorem d10_78 : oD c10_ 78 (.invokevirtual 72) 3 := by decide +kernel
abbrev c19_ := jdk_42_method_79_code
theorem d19_0 : oD c19_ 0 (.aload_n 0) 1 := by decide +kernel
theorem d19_1 : oD c19_ 1 (.iload_n 1) 1 := by decide +kernel
theorem d19_2 : oD c19_ 2 (.iconst 0) 1 := by decide +kernel
theorem d19_3 : oD c19_ 3 (.invokevirtual 633) 3 := by decide +kernel
abbrev c20_ := jdk_42_method_80_code
theorem d20_0 : oD c20_ 0 (.aload_n 0) 1 := by decide +kernel
theorem d20_1 : oD c20_ 1 (.invokevirtual 492) 3 := by decide +kernel
theorem d15_13 : oD c15_ 13 (.iconst 1) 1 := by decide +kernel
theorem d15_14 : oD c15_ 14 (.goto 4) 3 := by decide +kernel
theorem d20_4 : oD c20_ 4 (.ifCond .eq 19) 3 := by decide +kernel
theorem d20_7 : oD c20_ 7 (.aload_n 0) 1 := by decide +kernel
theorem d20_8 : oD c20_ 8 (.getfield 9) 3 := by decide +kernel
theorem d20_11 : oD c20_ 11 (.iload_n 1) 1 := by decide +kernel
theorem d20_12 : oD c20_ 12 (.iload_n 2) 1 := by decide +kernel
theorem d20_13 : oD c20_ 13 (.aload_n 0) 1 := by decide +kernel
theorem d20_14 : oD c20_ 14 (.invokevirtual 505) 3 := by decide +kernel
theorem d20_17 : oD c20_ 17 (.invokestatic 637) 3 := by decide +kernel
abbrev c21_ := jdk_43_method_22_code
theorem d21_0 : oD c21_ 0 (.iload_n 1) 1 := by decide +kernel
theorem d21_1 : oD c21_ 1 (.invokestatic 88) 3 := by decide +kernel
abbrev c22_ := jdk_43_method_4_code
theorem d22_0 : oD c22_ 0 (.iload_n 0) 1 := by decide +kernel
theorem d22_1 : oD c22_ 1 (.ifCond .lt 14) 3 := by decide +kernel
theorem d22_4 : oD c22_ 4 (.iload_n 0) 1 := by decide +kernel
theorem d22_5 : oD c22_ 5 (.sipush 255) 3 := by decide +kernel
theorem d22_8 : oD c22_ 8 (.if_icmp .gt 7) 3 := by decide +kernel
theorem d22_15 : oD c22_ 15 (.iconst 0) 1 := by decide +kernel
theorem d22_16 : oD c22_ 16 (.ireturn) 1 := by decide +kernel
abbrev y22 : MethodName := (⟨"java/lang/StringLatin1", "canEncode", "(I)Z"⟩ : MethodName)
abbrev cd22 : Jvm.Cond := Jvm.Cond.code y22 jdk_43_method_4_code 1 (some .boolean)
theorem pn100 : plainName "java/lang/StringLatin1" = true := by first | (simp [plainName, overriddenIn]; done) | decide +kernel
theorem bu101 {Z : State} {a0 : Array Value} (hw : oH a0 Z) : oBS a0 Z y22 cd22 := ⟨(oW hw 102 rfl), (oW hw 76 rfl), (oW hw 103 rfl), by decide⟩
theorem pd102 : parseMethodDescriptor "(I)Z" = some ⟨[.int], some .boolean⟩ := by decide +kernel
theorem d21_4 : oD c21_ 4 (.ifCond .ne 5) 3 := by decide +kernel
theorem d21_7 : oD c21_ 7 (.iconst (-1)) 1 := by decide +kernel
theorem d21_8 : oD c21_ 8 (.ireturn) 1 := by decide +kernel
abbrev y21 : MethodName := (⟨"java/lang/StringLatin1", "indexOf", "([BIII)I"⟩ : MethodName)
abbrev cd21 : Jvm.Cond := Jvm.Cond.code y21 jdk_43_method_22_code 4 (some .int)
theorem bu104 {Z : State} {a0 : Array Value} (hw : oH a0 Z) : oBS a0 Z y21 cd21 := ⟨(oW hw 99 rfl), (oW hw 76 rfl), (oW hw 100 rfl), by decide⟩
theorem pd105 : parseMethodDescriptor "([BIII)I" = some ⟨[(.array .byte), .int, .int, .int], some .int⟩ := by decide +kernel
theorem d20_20 : oD c20_ 20 (.goto 16) 3 := by decide +kernel
theorem d20_36 : oD c20_ 36 (.ireturn) 1 := by decide +kernel
abbrev y20 : MethodName := (⟨"java/lang/String", "indexOf", "(II)I"⟩ : MethodName)
abbrev cd20 : Jvm.Cond := Jvm.Cond.code y20 jdk_42_method_80_code 3 (some .int)
theorem bu107 {Z : State} {a0 : Array Value} (hw : oH a0 Z) : oBV a0 Z "java/lang/String" y20 y20 cd20 := ⟨(oW hw 93 rfl), fun hZ => (notFace_of_selects (args := #[]) (mvT hZ (oW hw 95 rfl))), (oW hw 95 rfl), (oW hw 94 rfl), (oW hw 14 rfl), (oW hw 96 rfl), by decide⟩
theorem pd108 : parseMethodDescriptor "(II)I" = some ⟨[.int, .int], some .int⟩ := by decide +kernel
theorem d19_6 : oD c19_ 6 (.ireturn) 1 := by decide +kernel
abbrev y19 : MethodName := (⟨"java/lang/String", "indexOf", "(I)I"⟩ : MethodName)
abbrev cd19 : Jvm.Cond := Jvm.Cond.code y19 jdk_42_method_79_code 2 (some .int)
theorem bu110 {Z : State} {a0 : Array Value} (hw : oH a0 Z) : oBV a0 Z "java/lang/String" y19 y19 cd19 := ⟨(oW hw 88 rfl), fun hZ => (notFace_of_selects (args := #[]) (mvT hZ (oW hw 90 rfl))), (oW hw 90 rfl), (oW hw 89 rfl), (oW hw 14 rfl), (oW hw 91 rfl), by decide⟩
theorem d10_81 : oD c10_ 81 (.ifCond .lt 18) 3 := by decide +kernel
theorem d10_99 : oD c10_ 99 (.aload_n 0) 1 := by decide +kernel
theorem d10_100 : oD c10_ 100 (.areturn) 1 := by decide +kernel
abbrev y10 : MethodName := (⟨"com/example/linepack/linepack/Values", "id", "(Ljava/lang/String;Ljava/lang/String;)Ljava/lang/String;"⟩ : MethodName)
abbrev cd10 : Jvm.Cond := Jvm.Cond.code y10 prog_15_method_3_code 4 (some (.object "java/lang/String"))
theorem pn112 : plainName "com/example/linepack/linepack/Values" = true := by first | (simp [plainName, overriddenIn]; done) | decide +kernel
theorem pd113 : parseMethodDescriptor "(Ljava/lang/String;Ljava/lang/String;)Ljava/lang/String;" = some ⟨[(.object "java/lang/String"), (.object "java/lang/String")], some (.object "java/lang/String")⟩ := by decide +kernel
abbrev c26_ := jdk_42_method_66_code
theorem d26_0 : oD c26_ 0 (.aload_n 0) 1 := by decide +kernel
theorem d26_1 : oD c26_ 1 (.aload_n 1) 1 := by decide +kernel
theorem d26_2 : oD c26_ 2 (.if_acmp .ne 5) 3 := by decide +kernel
theorem d26_5 : oD c26_ 5 (.iconst 1) 1 := by decide +kernel
theorem d26_6 : oD c26_ 6 (.ireturn) 1 := by decide +kernel
abbrev y26 : MethodName := (⟨"java/lang/String", "equals", "(Ljava/lang/Object;)Z"⟩ : MethodName)
abbrev cd26 : Jvm.Cond := Jvm.Cond.code y26 jdk_42_method_66_code 3 (some .boolean)
theorem bu116 {Z : State} {a0 : Array Value} (hw : oH a0 Z) : oBV a0 Z "java/lang/String" y26 y26 cd26 := ⟨(oW hw 116 rfl), fun hZ => (notFace_of_selects (args := #[]) (mvT hZ (oW hw 118 rfl))), (oW hw 118 rfl), (oW hw 117 rfl), (oW hw 14 rfl), (oW hw 119 rfl), by decide⟩
theorem pd117 : parseMethodDescriptor "(Ljava/lang/Object;)Z" = some ⟨[(.object "java/lang/Object")], some .boolean⟩ := by decide +kernel
theorem d14_7 : oD c14_ 7 (.aload_n 0) 1 := by decide +kernel
theorem d14_8 : oD c14_ 8 (.getfield 9) 3 := by decide +kernel
theorem d14_11 : oD c14_ 11 (.iload_n 1) 1 := by decide +kernel
theorem d14_12 : oD c14_ 12 (.invokestatic 495) 3 := by decide +kernel
abbrev c16_ := jdk_43_method_2_code
theorem d16_0 : oD c16_ 0 (.iload_n 1) 1 := by decide +kernel
theorem d16_1 : oD c16_ 1 (.aload_n 0) 1 := by decide +kernel
theorem d16_2 : oD c16_ 2 (.arraylength) 1 := by decide +kernel
theorem d16_3 : oD c16_ 3 (.invokestatic 9) 3 := by decide +kernel
theorem d16_6 : oD c16_ 6 (.aload_n 0) 1 := by decide +kernel
theorem d16_7 : oD c16_ 7 (.iload_n 1) 1 := by decide +kernel
theorem d16_8 : oD c16_ 8 (.baload) 1 := by decide +kernel
theorem d16_9 : oD c16_ 9 (.sipush 255) 3 := by decide +kernel
theorem d16_12 : oD c16_ 12 (.iand) 1 := by decide +kernel
theorem d16_13 : oD c16_ 13 (.i2c) 1 := by decide +kernel
theorem d16_14 : oD c16_ 14 (.ireturn) 1 := by decide +kernel
abbrev y16 : MethodName := (⟨"java/lang/StringLatin1", "charAt", "([BI)C"⟩ : MethodName)
abbrev cd16 : Jvm.Cond := Jvm.Cond.code y16 jdk_43_method_2_code 2 (some .char)
theorem bu120 {Z : State} {a0 : Array Value} (hw : oH a0 Z) : oBS a0 Z y16 cd16 := ⟨(oW hw 75 rfl), (oW hw 76 rfl), (oW hw 77 rfl), by decide⟩
theorem d14_15 : oD c14_ 15 (.ireturn) 1 := by decide +kernel
theorem d22_11 : oD c22_ 11 (.iconst 1) 1 := by decide +kernel
theorem d22_12 : oD c22_ 12 (.goto 4) 3 := by decide +kernel
theorem d21_9 : oD c21_ 9 (.iload_n 2) 1 := by decide +kernel
theorem d21_10 : oD c21_ 10 (.iconst 0) 1 := by decide +kernel
theorem d21_11 : oD c21_ 11 (.invokestatic 92) 3 := by decide +kernel
abbrev c23_ := jdk_29_method_65_code
theorem d23_0 : oD c23_ 0 (.iload_n 0) 1 := by decide +kernel
theorem d23_1 : oD c23_ 1 (.iload_n 1) 1 := by decide +kernel
theorem d23_2 : oD c23_ 2 (.if_icmp .lt 7) 3 := by decide +kernel
theorem d23_5 : oD c23_ 5 (.iload_n 0) 1 := by decide +kernel
theorem d23_6 : oD c23_ 6 (.goto 4) 3 := by decide +kernel
theorem d23_10 : oD c23_ 10 (.ireturn) 1 := by decide +kernel
abbrev y23 : MethodName := (⟨"java/lang/Math", "max", "(II)I"⟩ : MethodName)
abbrev cd23 : Jvm.Cond := Jvm.Cond.code y23 jdk_29_method_65_code 2 (some .int)
theorem bu123 {Z : State} {a0 : Array Value} (hw : oH a0 Z) : oBS a0 Z y23 cd23 := ⟨(oW hw 105 rfl), (oW hw 106 rfl), (oW hw 107 rfl), by decide⟩
theorem d21_14 : oD c21_ 14 (.istore_n 2) 1 := by decide +kernel
theorem d21_15 : oD c21_ 15 (.iload_n 3) 1 := by decide +kernel
theorem d21_16 : oD c21_ 16 (.aload_n 0) 1 := by decide +kernel
theorem d21_17 : oD c21_ 17 (.arraylength) 1 := by decide +kernel
theorem d21_18 : oD c21_ 18 (.invokestatic 38) 3 := by decide +kernel
abbrev c24_ := jdk_29_method_69_code
theorem d24_0 : oD c24_ 0 (.iload_n 0) 1 := by decide +kernel
theorem d24_1 : oD c24_ 1 (.iload_n 1) 1 := by decide +kernel
theorem d24_2 : oD c24_ 2 (.if_icmp .gt 7) 3 := by decide +kernel
theorem d24_5 : oD c24_ 5 (.iload_n 0) 1 := by decide +kernel
theorem d24_6 : oD c24_ 6 (.goto 4) 3 := by decide +kernel
theorem d24_10 : oD c24_ 10 (.ireturn) 1 := by decide +kernel
abbrev y24 : MethodName := (⟨"java/lang/Math", "min", "(II)I"⟩ : MethodName)
abbrev cd24 : Jvm.Cond := Jvm.Cond.code y24 jdk_29_method_69_code 2 (some .int)
theorem bu126 {Z : State} {a0 : Array Value} (hw : oH a0 Z) : oBS a0 Z y24 cd24 := ⟨(oW hw 109 rfl), (oW hw 106 rfl), (oW hw 110 rfl), by decide⟩
theorem d21_21 : oD c21_ 21 (.istore_n 3) 1 := by decide +kernel
theorem d21_22 : oD c21_ 22 (.iload_n 2) 1 := by decide +kernel
theorem d21_23 : oD c21_ 23 (.iload_n 3) 1 := by decide +kernel
theorem d21_24 : oD c21_ 24 (.if_icmp .lt 5) 3 := by decide +kernel
theorem d21_29 : oD c21_ 29 (.aload_n 0) 1 := by decide +kernel
theorem d21_30 : oD c21_ 30 (.iload_n 1) 1 := by decide +kernel
theorem d21_31 : oD c21_ 31 (.iload_n 2) 1 := by decide +kernel
theorem d21_32 : oD c21_ 32 (.iload_n 3) 1 := by decide +kernel
theorem d21_33 : oD c21_ 33 (.invokestatic 95) 3 := by decide +kernel
abbrev c25_ := jdk_43_method_23_code
theorem d25_0 : oD c25_ 0 (.iload_n 1) 1 := by decide +kernel
theorem d25_1 : oD c25_ 1 (.i2b) 1 := by decide +kernel
theorem d25_2 : oD c25_ 2 (.istore 4) 2 := by decide +kernel
theorem d25_4 : oD c25_ 4 (.iload_n 2) 1 := by decide +kernel
theorem d25_5 : oD c25_ 5 (.istore 5) 2 := by decide +kernel
theorem d25_7 : oD c25_ 7 (.iload 5) 2 := by decide +kernel
theorem d25_9 : oD c25_ 9 (.iload_n 3) 1 := by decide +kernel
theorem d25_10 : oD c25_ 10 (.if_icmp .ge 21) 3 := by decide +kernel
theorem d25_13 : oD c25_ 13 (.aload_n 0) 1 := by decide +kernel
theorem d25_14 : oD c25_ 14 (.iload 5) 2 := by decide +kernel
theorem d25_16 : oD c25_ 16 (.baload) 1 := by decide +kernel
theorem d25_17 : oD c25_ 17 (.iload 4) 2 := by decide +kernel
theorem d25_19 : oD c25_ 19 (.if_icmp .ne 6) 3 := by decide +kernel
theorem d25_25 : oD c25_ 25 (.iinc 5 1) 3 := by decide +kernel
theorem d25_28 : oD c25_ 28 (.goto (-21)) 3 := by decide +kernel
theorem d25_31 : oD c25_ 31 (.iconst (-1)) 1 := by decide +kernel
theorem d25_32 : oD c25_ 32 (.ireturn) 1 := by decide +kernel
abbrev y25 : MethodName := (⟨"java/lang/StringLatin1", "indexOfChar", "([BIII)I"⟩ : MethodName)
abbrev cd25 : Jvm.Cond := Jvm.Cond.code y25 jdk_43_method_23_code 6 (some .int)
theorem bu129 {Z : State} {a0 : Array Value} (hw : oH a0 Z) : oBS a0 Z y25 cd25 := ⟨(oW hw 112 rfl), (oW hw 76 rfl), (oW hw 113 rfl), by decide⟩
theorem d21_36 : oD c21_ 36 (.ireturn) 1 := by decide +kernel
theorem d3_20 : oD c3_ 20 (.iload_n 0) 1 := by decide +kernel
theorem d3_21 : oD c3_ 21 (.iconst 2) 1 := by decide +kernel
theorem d3_22 : oD c3_ 22 (.if_icmp .ne 22) 3 := by decide +kernel
theorem d3_25 : oD c3_ 25 (.new 31) 3 := by decide +kernel
theorem d3_28 : oD c3_ 28 (.dup) 1 := by decide +kernel
theorem d3_29 : oD c3_ 29 (.iconst 2) 1 := by decide +kernel
theorem d3_30 : oD c3_ 30 (.newarray .char) 2 := by decide +kernel
theorem d3_32 : oD c3_ 32 (.dup) 1 := by decide +kernel
theorem d3_33 : oD c3_ 33 (.iconst 0) 1 := by decide +kernel
theorem d3_34 : oD c3_ 34 (.iload_n 1) 1 := by decide +kernel
theorem d3_35 : oD c3_ 35 (.castore) 1 := by decide +kernel
theorem d3_36 : oD c3_ 36 (.dup) 1 := by decide +kernel
theorem d3_37 : oD c3_ 37 (.iconst 1) 1 := by decide +kernel
theorem d3_38 : oD c3_ 38 (.iload_n 2) 1 := by decide +kernel
theorem d3_39 : oD c3_ 39 (.castore) 1 := by decide +kernel
theorem d3_40 : oD c3_ 40 (.invokespecial 40) 3 := by decide +kernel
theorem d3_43 : oD c3_ 43 (.areturn) 1 := by decide +kernel
theorem d3_44 : oD c3_ 44 (.iload_n 0) 1 := by decide +kernel
theorem d3_45 : oD c3_ 45 (.iconst 3) 1 := by decide +kernel
theorem d3_46 : oD c3_ 46 (.if_icmp .ne 26) 3 := by decide +kernel
theorem d3_49 : oD c3_ 49 (.new 31) 3 := by decide +kernel
theorem d3_52 : oD c3_ 52 (.dup) 1 := by decide +kernel
theorem d3_53 : oD c3_ 53 (.iconst 3) 1 := by decide +kernel
theorem d3_54 : oD c3_ 54 (.newarray .char) 2 := by decide +kernel
theorem d3_56 : oD c3_ 56 (.dup) 1 := by decide +kernel
theorem d3_57 : oD c3_ 57 (.iconst 0) 1 := by decide +kernel
theorem d3_58 : oD c3_ 58 (.iload_n 1) 1 := by decide +kernel
theorem d3_59 : oD c3_ 59 (.castore) 1 := by decide +kernel
theorem d3_60 : oD c3_ 60 (.dup) 1 := by decide +kernel
theorem d3_61 : oD c3_ 61 (.iconst 1) 1 := by decide +kernel
theorem d3_62 : oD c3_ 62 (.iload_n 2) 1 := by decide +kernel
theorem d3_63 : oD c3_ 63 (.castore) 1 := by decide +kernel
theorem d3_64 : oD c3_ 64 (.dup) 1 := by decide +kernel
theorem d3_65 : oD c3_ 65 (.iconst 2) 1 := by decide +kernel
theorem d3_66 : oD c3_ 66 (.iload_n 3) 1 := by decide +kernel
theorem d3_67 : oD c3_ 67 (.castore) 1 := by decide +kernel
theorem d3_68 : oD c3_ 68 (.invokespecial 40) 3 := by decide +kernel
theorem d3_71 : oD c3_ 71 (.areturn) 1 := by decide +kernel
theorem d3_72 : oD c3_ 72 (.new 31) 3 := by decide +kernel
theorem d3_75 : oD c3_ 75 (.dup) 1 := by decide +kernel
theorem d3_76 : oD c3_ 76 (.iconst 4) 1 := by decide +kernel
theorem d3_77 : oD c3_ 77 (.newarray .char) 2 := by decide +kernel
theorem d3_79 : oD c3_ 79 (.dup) 1 := by decide +kernel
theorem d3_80 : oD c3_ 80 (.iconst 0) 1 := by decide +kernel
theorem d3_81 : oD c3_ 81 (.iload_n 1) 1 := by decide +kernel
theorem d3_82 : oD c3_ 82 (.castore) 1 := by decide +kernel
theorem d3_83 : oD c3_ 83 (.dup) 1 := by decide +kernel
theorem d3_84 : oD c3_ 84 (.iconst 1) 1 := by decide +kernel
theorem d3_85 : oD c3_ 85 (.iload_n 2) 1 := by decide +kernel
theorem d3_86 : oD c3_ 86 (.castore) 1 := by decide +kernel
theorem d3_87 : oD c3_ 87 (.dup) 1 := by decide +kernel
theorem d3_88 : oD c3_ 88 (.iconst 2) 1 := by decide +kernel
theorem d3_89 : oD c3_ 89 (.iload_n 3) 1 := by decide +kernel
theorem d3_90 : oD c3_ 90 (.castore) 1 := by decide +kernel
theorem d3_91 : oD c3_ 91 (.dup) 1 := by decide +kernel
theorem d3_92 : oD c3_ 92 (.iconst 3) 1 := by decide +kernel
theorem d3_93 : oD c3_ 93 (.iload 4) 2 := by decide +kernel
theorem d3_95 : oD c3_ 95 (.castore) 1 := by decide +kernel
theorem d3_96 : oD c3_ 96 (.invokespecial 40) 3 := by decide +kernel
theorem d3_99 : oD c3_ 99 (.areturn) 1 := by decide +kernel
section OwnRm
variable {l : Launch} {Z : State} {a0 : Array Value} {h0 : Heap} {n0 : Nat} (hw : oH a0 Z) (hS : oJ a0 Z) (O0 : Old Z n0 h0)

theorem rm1_0 (v0_ : Int32) :
  oM hw hS O0 l y1 cd1 (oR 0 0 0 0) #[.int v0_] (fun v h L => (v = some (.int 0) ∧ Fr n0 L ∧ h = h0) ∨ (¬ (v0_ < (32 : Int32)) ∧ ¬ (v0_ = (127 : Int32)) ∧ v = some (.int 1) ∧ Fr n0 L ∧ h = h0)) := by
 refine own_met (own := "com/example/linepack/linepack/ValuesIdPinLaw") (plainFor_of_name pn2) rfl ?_
 intro p e s m u mt c s₁ hx y hml ho hq hr hl hZ e0 X0
 refine own_cast (g' := (mkF m 0 #[iv v0_] [])) rfl ?_
 refine sI X0 hx y d1_0 rfl ?_
 refine sD X0 hx y d1_1 ?_
 by_cases hc1 : v0_ < (32 : Int32)
 ·
  refine sU X0 hx y d1_3 (tlt hc1).1 16 (by decide) ?_
  refine sC X0 hx y d1_16 ?_
  exact own_retN X0 hx (t := .boolean) hr (by simp) hl (hb y d1_17) (by decide) (by decide) (by rw [e0]; exact Or.inl ⟨rfl, (Fr.nil n0), rfl⟩)
 ·
  refine sV X0 hx y d1_3 (flt hc1).1 ?_
  refine sI X0 hx y d1_6 rfl ?_
  refine sD X0 hx y d1_7 ?_
  by_cases hc2 : v0_ = (127 : Int32)
  ·
   refine sU X0 hx y d1_9 (teq hc2).1 16 (by decide) ?_
   refine sC X0 hx y d1_16 ?_
   exact own_retN X0 hx (t := .boolean) hr (by simp) hl (hb y d1_17) (by decide) (by decide) (by rw [e0]; exact Or.inl ⟨rfl, (Fr.nil n0), rfl⟩)
  ·
   refine sV X0 hx y d1_9 (feq hc2).1 ?_
   refine sC X0 hx y d1_12 ?_
   refine sR X0 hx y d1_13 17 (by decide) ?_
   exact own_retN X0 hx (t := .boolean) hr (by simp) hl (hb y d1_17) (by decide) (by decide) (by rw [e0]; exact Or.inr (⟨hc1, hc2, rfl, (Fr.nil n0), rfl⟩))


theorem rm2_1 (v0_ : Int32) :
  oM hw hS O0 l y2 cd2 (oR 0 0 0 0) #[.int v0_] (fun v h L => (v = some (.int 1) ∧ Fr n0 L ∧ h = h0) ∨ (¬ (v0_ = (61 : Int32)) ∧ ¬ (v0_ = (43 : Int32)) ∧ ¬ (v0_ = (45 : Int32)) ∧ ¬ (v0_ = (64 : Int32)) ∧ v = some (.int 0) ∧ Fr n0 L ∧ h = h0)) := by
 refine own_met (own := "com/example/linepack/linepack/ValuesIdPinLaw") (plainFor_of_name pn2) rfl ?_
 intro p e s m u mt c s₁ hx y hml ho hq hr hl hZ e0 X0
 refine own_cast (g' := (mkF m 0 #[iv v0_] [])) rfl ?_
 refine sI X0 hx y d2_0 rfl ?_
 refine sD X0 hx y d2_1 ?_
 by_cases hc1 : v0_ = (61 : Int32)
 ·
  refine sU X0 hx y d2_3 (teq hc1).1 24 (by decide) ?_
  refine sC X0 hx y d2_24 ?_
  refine sR X0 hx y d2_25 29 (by decide) ?_
  exact own_retN X0 hx (t := .boolean) hr (by simp) hl (hb y d2_29) (by decide) (by decide) (by rw [e0]; exact Or.inl ⟨rfl, (Fr.nil n0), rfl⟩)
 ·
  refine sV X0 hx y d2_3 (feq hc1).1 ?_
  refine sI X0 hx y d2_6 rfl ?_
  refine sD X0 hx y d2_7 ?_
  by_cases hc2 : v0_ = (43 : Int32)
  ·
   refine sU X0 hx y d2_9 (teq hc2).1 24 (by decide) ?_
   refine sC X0 hx y d2_24 ?_
   refine sR X0 hx y d2_25 29 (by decide) ?_
   exact own_retN X0 hx (t := .boolean) hr (by simp) hl (hb y d2_29) (by decide) (by decide) (by rw [e0]; exact Or.inl ⟨rfl, (Fr.nil n0), rfl⟩)
  ·
   refine sV X0 hx y d2_9 (feq hc2).1 ?_
   refine sI X0 hx y d2_12 rfl ?_
   refine sD X0 hx y d2_13 ?_
   by_cases hc3 : v0_ = (45 : Int32)
   ·
    refine sU X0 hx y d2_15 (teq hc3).1 24 (by decide) ?_
    refine sC X0 hx y d2_24 ?_
    refine sR X0 hx y d2_25 29 (by decide) ?_
    exact own_retN X0 hx (t := .boolean) hr (by simp) hl (hb y d2_29) (by decide) (by decide) (by rw [e0]; exact Or.inl ⟨rfl, (Fr.nil n0), rfl⟩)
   ·
    refine sV X0 hx y d2_15 (feq hc3).1 ?_
    refine sI X0 hx y d2_18 rfl ?_
    refine sD X0 hx y d2_19 ?_
    by_cases hc4 : v0_ = (64 : Int32)
    ·
     refine sV X0 hx y d2_21 (teq hc4).2 ?_
     refine sC X0 hx y d2_24 ?_
     refine sR X0 hx y d2_25 29 (by decide) ?_
     exact own_retN X0 hx (t := .boolean) hr (by simp) hl (hb y d2_29) (by decide) (by decide) (by rw [e0]; exact Or.inl ⟨rfl, (Fr.nil n0), rfl⟩)
    ·
     refine sU X0 hx y d2_21 (feq hc4).2 28 (by decide) ?_
     refine sC X0 hx y d2_28 ?_
     exact own_retN X0 hx (t := .boolean) hr (by simp) hl (hb y d2_29) (by decide) (by decide) (by rw [e0]; exact Or.inr (⟨hc1, hc2, hc3, hc4, rfl, (Fr.nil n0), rfl⟩))


theorem rm8_2 (v0_ v1_ : Addr) (v2_ : Int32) (v3_ v4_ : ClassId) (U0 : Arv Z h0 v0_ v3_ .char 1 [(.int v2_)] (.int 0)) (U1 : Arv Z h0 v1_ v4_ .byte 1 [(.int 0)] (.int 0)) (U2 : n0 ≤ v1_) :
  oM hw hS O0 l y8 cd8 (oR 0 0 0 0) #[.ref v0_, .int 0, .ref v1_, .int 0, .int 1] (fun v h L => ((255 : Int32) < v2_ ∧ v = some (.int 0) ∧ Fr n0 L ∧ h = h0) ∨ (¬ ((255 : Int32) < v2_) ∧ v = some (.int 1) ∧ Fr n0 L ∧ Keep h0 h [v1_] ∧ Arv Z h v1_ v4_ .byte 1 [(.int (oBy v2_))] (.int 0))) := by
 refine own_met (own := "java/lang/StringUTF16") (plainFor_of_name pn14) rfl ?_
 intro p e s m u mt c s₁ hx y hml ho hq hr hl hZ e0 X0
 refine own_cast (g' := (mkF m 0 #[rv v0_, iv 0, rv v1_, iv 0, iv 1, .unset, .unset] [])) rfl ?_
 refine sC X0 hx y d8_0 ?_
 refine sO X0 hx y d8_1 #[rv v0_, iv 0, rv v1_, iv 0, iv 1, iv 0, .unset] rfl ?_
 refine sJ X0 hx y d8_3 rfl ?_
 refine sJ X0 hx y d8_5 rfl ?_
 refine sV X0 hx y d8_7 (by decide) ?_
 refine sA X0 hx y d8_10 rfl rfl ?_
 refine sI X0 hx y d8_11 rfl ?_
 obtain ⟨c1, r1, q1, t1, u1, y1h, y1g⟩ := id U0
 have i1 : ¬ ((0 : Int32) < 0 ∨ c1.slots.size ≤ ((0 : Int32)).toNatClampNeg) := inb_of t1 ⟨by decide, by decide⟩
 refine own_step (fun _ k => X0.caload hx (j := (0 : Int32)) (v := (.int v2_)) (by rw [e0]; exact r1.1) (State.isArrayOf_alike hZ.alike r1.2.1) r1.2.2 i1 (own_get t1 y1h i1 0 rfl) (g := (mkF m 12 #[rv v0_, iv 0, rv v1_, iv 0, iv 1, iv 0, .unset] [.int 0, .ref v0_])) rfl rfl (hb y d8_12) _ k) ?_
 refine sO X0 hx y d8_13 #[rv v0_, iv 0, rv v1_, iv 0, iv 1, iv 0, iv v2_] rfl ?_
 refine sJ X0 hx y d8_15 rfl ?_
 refine oS (XS.sipush X0.here hx rfl (hb y d8_17)) ?_
 by_cases hc2 : (255 : Int32) < v2_
 ·
  refine sV X0 hx y d8_20 (tlt hc2).2.2.2 ?_
  refine sJ X0 hx y d8_23 rfl ?_
  exact own_retI X0 hx hr hl (hb y d8_25) (by decide) (by decide) (by rw [e0]; exact Or.inl ⟨hc2, rfl, (Fr.nil n0), rfl⟩)
 ·
  refine sU X0 hx y d8_20 (flt hc2).2.2.2 26 (by decide) ?_
  refine sA X0 hx y d8_26 rfl rfl ?_
  refine sI X0 hx y d8_27 rfl ?_
  refine sJ X0 hx y d8_28 rfl ?_
  refine oS (XS.i2b X0.here hx rfl (hb y d8_30) rfl) ?_
  obtain ⟨c3, r3, q3, t3, u3, y3h, y3g⟩ := id U1
  have i3 : ¬ ((0 : Int32) < 0 ∨ c3.slots.size ≤ ((0 : Int32)).toNatClampNeg) := inb_of t3 ⟨by decide, by decide⟩
  obtain ⟨T3, h3, X3, e3, W3, st3⟩ := stB X0 hx hZ e0 r3 (j := (0 : Int32)) i3 (g := (mkF m 31 #[rv v0_, iv 0, rv v1_, iv 0, iv 1, iv 0, iv v2_] [.int (v2_.toInt8.toInt32), .int 0, .ref v1_])) rfl rfl (hb y d8_31)
  refine own_step st3 ?_
  have N3 := Fr.snoc X3 (Fr.nil n0) U2
  have K3 := (Keep.refl h0 [v1_]).wr W3 (Or.inl (by simp))
  have V3 : Arv Z h3 v1_ v4_ .byte 1 [(.int (oBy v2_))] (.int 0) := Arv.set r3 q3 t3 u3 y3h y3g (fits_nar_byte _) W3 0 rfl (Nat.le_of_ble_eq_true rfl)
  refine sY X3 hx y d8_32 #[rv v0_, iv ((0 : Int32) + (1 : Int32)), rv v1_, iv 0, iv 1, iv 0, iv v2_] rfl rfl ?_
  rw [(by decide : ((0 : Int32) + (1 : Int32)) = (1 : Int32))]
  refine sY X3 hx y d8_35 #[rv v0_, iv 1, rv v1_, iv ((0 : Int32) + (1 : Int32)), iv 1, iv 0, iv v2_] rfl rfl ?_
  rw [(by decide : ((0 : Int32) + (1 : Int32)) = (1 : Int32))]
  refine sY X3 hx y d8_38 #[rv v0_, iv 1, rv v1_, iv 1, iv 1, iv ((0 : Int32) + (1 : Int32)), iv v2_] rfl rfl ?_
  rw [(by decide : ((0 : Int32) + (1 : Int32)) = (1 : Int32))]
  refine sR X3 hx y d8_41 3 (by decide) ?_
  refine sJ X3 hx y d8_3 rfl ?_
  refine sJ X3 hx y d8_5 rfl ?_
  refine sU X3 hx y d8_7 (by decide) 44 (by decide) ?_
  refine sJ X3 hx y d8_44 rfl ?_
  exact own_retI X3 hx hr hl (hb y d8_46) (by decide) (by decide) (by rw [e3]; exact Or.inr (⟨hc2, rfl, N3, K3, V3⟩))


theorem rm29_3  :
  oM hw hS O0 l y29 cd29 (oR 0 0 0 0) #[.int 1] (fun v h L => (v = some (.int 2) ∧ Fr n0 L ∧ h = h0)) := by
 refine own_met (own := "java/lang/StringUTF16") (plainFor_of_name pn14) rfl ?_
 intro p e s m u mt c s₁ hx y hml ho hq hr hl hZ e0 X0
 refine own_cast (g' := (mkF m 0 #[iv 1] [])) rfl ?_
 refine sI X0 hx y d29_0 rfl ?_
 refine sS X0 hx y d29_1 (by decide) 12 (by decide) ?_
 refine sI X0 hx y d29_12 rfl ?_
 refine own_step (X0.ldcInt hx ho (mvT hZ (oW hw 129 rfl)) (g := (mkF m 13 #[iv 1] [.int 1])) rfl (hb y d29_13)) ?_
 refine sU X0 hx y d29_15 (by decide) 55 (by decide) ?_
 refine sI X0 hx y d29_55 rfl ?_
 refine sC X0 hx y d29_56 ?_
 refine sL X0 hx y d29_57 ?_
 refine oV (b := 2) (by decide) ?_
 exact own_retI X0 hx hr hl (hb y d29_58) (by decide) (by decide) (by rw [e0]; exact ⟨rfl, (Fr.nil n0), rfl⟩)


theorem rm28_4  :
  oM hw hS O0 l y28 cd28 (oR 1 1 2 12) #[.int 1] (fun v h L => (∃ (b2 : Addr) (k2 : ClassId), v = some (.ref b2) ∧ Fr n0 L ∧ Keep h0 h [] ∧ h0.size ≤ b2 ∧ Arv Z h b2 k2 .byte 2 [(.int 0), (.int 0)] (.int 0))) := by
 refine own_met (own := "java/lang/StringUTF16") (plainFor_of_name pn14) rfl ?_
 intro p e s m u mt c s₁ hx y hml ho hq hr hl hZ e0 X0
 refine own_cast (g' := (mkF m 0 #[iv 1] [])) rfl ?_
 refine sI X0 hx y d28_0 rfl ?_
 refine oCS X0 hx hZ ho (oW hw 126 rfl) (bu21 hw) (rm29_3 hw hS O0) 0 (by decide) [.int 1] rfl (lenOf pd22 rfl) hml rfl rfl rfl y d28_1 e0 ?_
 rintro _ T1 _ X1 ⟨rfl, N1q, e1⟩
 have N1 := Fr.app (Fr.nil n0) N1q
 obtain ⟨T2, h2, k2, X2, e2, E2, A2, st2⟩ := newP X1 hx hZ (oW hw 31 rfl) e1 (g := (mkF m 4 #[iv 1] [.int 2])) rfl (hb y d28_4) rfl (by decide) (cap := 2) (by decide) (by decide) (by decide) (by decide)
 obtain ⟨b2, z2⟩ : ∃ z, z = h0.size := ⟨_, rfl⟩
 rw [← z2] at A2 st2
 refine own_step st2 ?_
 have y2 : h0.size ≤ b2 := Nat.le_trans (Nat.le_refl _) (Nat.le_of_eq z2.symm)
 have K2 := (Keep.refl h0 []).ext E2
 have V2 : Arv Z h2 b2 k2 .byte 2 [(.int 0), (.int 0)] (.int 0) := (Arv.new A2 (by decide)).pad (pad_rep [] (.int 0) 2)
 exact own_retA X2 hx hr rfl rfl hl (hb y d28_6) (by decide) (by decide) (by rw [e2]; exact ⟨b2, k2, rfl, N1, K2, y2, V2⟩)


theorem rm30_5 (v0_ : Addr) (v1_ : Int32) (v2_ : ClassId) (U0 : Arv Z h0 v0_ v2_ .byte 2 [(.int 0), (.int 0)] (.int 0)) (U1 : n0 ≤ v0_) :
  oM hw hS O0 l y30 cd30 (oR 0 0 0 0) #[.ref v0_, .int 0, .int v1_] (fun v h L => (v = none ∧ Fr n0 L ∧ Keep h0 h [v0_] ∧ Arv Z h v0_ v2_ .byte 2 [(.int (oLo v1_)), (.int (oHi v1_))] (.int 0))) := by
 refine own_met (own := "java/lang/StringUTF16") (plainFor_of_name pn14) rfl ?_
 intro p e s m u mt c s₁ hx y hml ho hq hr hl hZ e0 X0
 refine own_cast (g' := (mkF m 0 #[rv v0_, iv 0, iv v1_] [])) rfl ?_
 obtain ⟨T1, X1, e1, st1⟩ := getS2 X0 hx hZ ho (host := "") (Or.inl (oW hw 133 rfl)) Via.refl e0 ((si0 hw hS).ext O0.2) (g := (mkF m 0 #[rv v0_, iv 0, iv v1_] [])) rfl (hb y d30_0)
 refine own_step st1 ?_
 refine sS X1 hx y d30_3 (by decide) 28 (by decide) ?_
 refine sI X1 hx y d30_28 rfl ?_
 refine sC X1 hx y d30_29 ?_
 refine sL X1 hx y d30_30 ?_
 refine oV (b := 0) (by decide) ?_
 refine sN X1 hx y d30_31 #[rv v0_, iv 0, iv v1_] rfl ?_
 refine sA X1 hx y d30_32 rfl rfl ?_
 refine sI X1 hx y d30_33 rfl ?_
 refine sY X1 hx y d30_34 #[rv v0_, iv ((0 : Int32) + (1 : Int32)), iv v1_] rfl rfl ?_
 rw [(by decide : ((0 : Int32) + (1 : Int32)) = (1 : Int32))]
 refine sI X1 hx y d30_37 rfl ?_
 obtain ⟨T2, X2, e2, st2⟩ := getS2 X1 hx hZ ho (host := "") (Or.inl (oW hw 134 rfl)) Via.refl e1 ((si1 hw hS).ext O0.2) (g := (mkF m 38 #[rv v0_, iv 1, iv v1_] [.int v1_, .int 0, .ref v0_])) rfl (hb y d30_38)
 refine own_step st2 ?_
 refine sM X2 hx y d30_41 ?_
 refine oS (XS.i2b X2.here hx rfl (hb y d30_42) rfl) ?_
 obtain ⟨c3, r3, q3, t3, u3, y3h, y3g⟩ := id U0
 have i3 : ¬ ((0 : Int32) < 0 ∨ c3.slots.size ≤ ((0 : Int32)).toNatClampNeg) := inb_of t3 ⟨by decide, by decide⟩
 obtain ⟨T3, h3, X3, e3, W3, st3⟩ := stB X2 hx hZ e2 r3 (j := (0 : Int32)) i3 (g := (mkF m 43 #[rv v0_, iv 1, iv v1_] [.int ((v1_ >>> ((0 : Int32) &&& 31)).toInt8.toInt32), .int 0, .ref v0_])) rfl rfl (hb y d30_43)
 refine own_step st3 ?_
 have N3 := Fr.snoc X3 (Fr.nil n0) U1
 have O3 := O0.wr W3 U1
 have K3 := (Keep.refl h0 [v0_]).wr W3 (Or.inl (by simp))
 have V3 : Arv Z h3 v0_ v2_ .byte 2 [(.int (oLo v1_)), (.int 0)] (.int 0) := Arv.set r3 q3 t3 u3 y3h y3g (fits_nar_byte _) W3 0 rfl (Nat.le_of_ble_eq_true rfl)
 refine sA X3 hx y d30_44 rfl rfl ?_
 refine sI X3 hx y d30_45 rfl ?_
 refine sI X3 hx y d30_46 rfl ?_
 obtain ⟨T4, X4, e4, st4⟩ := getS2 X3 hx hZ ho (host := "") (Or.inl (oW hw 135 rfl)) Via.refl e3 ((si2 hw hS).ext O3.2) (g := (mkF m 47 #[rv v0_, iv 1, iv v1_] [.int v1_, .int 1, .ref v0_])) rfl (hb y d30_47)
 refine own_step st4 ?_
 refine sM X4 hx y d30_50 ?_
 refine oS (XS.i2b X4.here hx rfl (hb y d30_51) rfl) ?_
 obtain ⟨c5, r5, q5, t5, u5, y5h, y5g⟩ := id V3
 have i5 : ¬ ((1 : Int32) < 0 ∨ c5.slots.size ≤ ((1 : Int32)).toNatClampNeg) := inb_of t5 ⟨by decide, by decide⟩
 obtain ⟨T5, h5, X5, e5, W5, st5⟩ := stB X4 hx hZ e4 r5 (j := (1 : Int32)) i5 (g := (mkF m 52 #[rv v0_, iv 1, iv v1_] [.int ((v1_ >>> ((8 : Int32) &&& 31)).toInt8.toInt32), .int 1, .ref v0_])) rfl rfl (hb y d30_52)
 refine own_step st5 ?_
 have N5 := Fr.snoc X5 N3 U1
 have K5 := K3.wr W5 (Or.inl (by simp))
 have V5 : Arv Z h5 v0_ v2_ .byte 2 [(.int (oLo v1_)), (.int (oHi v1_))] (.int 0) := Arv.set r5 q5 t5 u5 y5h y5g (fits_nar_byte _) W5 1 rfl (Nat.le_of_ble_eq_true rfl)
 exact own_retV X5 hx hr hl (hb y d30_53) (by decide) (by decide) (by rw [e5]; exact ⟨rfl, N5, K5, V5⟩)


theorem rm27_6 (v0_ : Addr) (v1_ : Int32) (v2_ : ClassId) (U0 : Arv Z h0 v0_ v2_ .char 1 [(.int v1_)] (.int 0)) :
  oM hw hS O0 l y27 cd27 (oR 2 1 2 24) #[.ref v0_, .int 0, .int 1] (fun v h L => (∃ (b2 : Addr) (k3 : ClassId), v = some (.ref b2) ∧ Fr n0 L ∧ Keep h0 h [] ∧ h0.size ≤ b2 ∧ Arv Z h b2 k3 .byte 2 [(.int (oLo v1_)), (.int (oHi v1_))] (.int 0))) := by
 refine own_met (own := "java/lang/StringUTF16") (plainFor_of_name pn14) rfl ?_
 intro p e s m u mt c s₁ hx y hml ho hq hr hl hZ e0 X0
 refine own_cast (g' := (mkF m 0 #[rv v0_, iv 0, iv 1, .unset, .unset] [])) rfl ?_
 refine sI X0 hx y d27_0 rfl ?_
 refine oCS X0 hx hZ ho (oW hw 123 rfl) (bu24 hw) (rm28_4 hw hS O0) 0 (by decide) [.int 1] rfl (lenOf pd25 rfl) hml rfl rfl rfl y d27_1 e0 ?_
 rintro _ T1 _ X1 ⟨b2, k3, rfl, N1q, K1q, y1_0, F1_0⟩
 have N1 := Fr.app (Fr.nil n0) N1q
 have g1_0 : n0 ≤ b2 := Nat.le_trans (O0.1 ▸ O0.2.1) y1_0
 have u1_0 : h0.size ≤ b2 := Nat.le_trans (Nat.le_refl _) y1_0
 have O1 := O0.keep K1q all0
 have K1 := Keep.trans (Keep.refl h0 []) K1q all0
 refine sP X1 hx y d27_4 rfl #[rv v0_, iv 0, iv 1, rv b2, .unset] rfl ?_
 refine sC X1 hx y d27_5 ?_
 refine sO X1 hx y d27_6 #[rv v0_, iv 0, iv 1, rv b2, iv 0] rfl ?_
 refine sJ X1 hx y d27_8 rfl ?_
 refine sI X1 hx y d27_10 rfl ?_
 refine sV X1 hx y d27_11 (by decide) ?_
 refine sA X1 hx y d27_14 rfl rfl ?_
 refine sJ X1 hx y d27_15 rfl ?_
 refine sA X1 hx y d27_17 rfl rfl ?_
 refine sI X1 hx y d27_18 rfl ?_
 have f4 := (U0.keep K1q nin0)
 obtain ⟨c5, r5, q5, t5, u5, y5h, y5g⟩ := id f4
 have i5 : ¬ ((0 : Int32) < 0 ∨ c5.slots.size ≤ ((0 : Int32)).toNatClampNeg) := inb_of t5 ⟨by decide, by decide⟩
 refine own_step (fun _ k => X1.caload hx (j := (0 : Int32)) (v := (.int v1_)) r5.1 (State.isArrayOf_alike hZ.alike r5.2.1) r5.2.2 i5 (own_get t5 y5h i5 0 rfl) (g := (mkF m 19 #[rv v0_, iv 0, iv 1, rv b2, iv 0] [.int 0, .ref v0_, .int 0, .ref b2])) rfl rfl (hb y d27_19) _ k) ?_
 refine oCS X1 hx hZ ho (oW hw 130 rfl) (bu28 hw) (rm30_5 hw hS O1 b2 v1_ k3 F1_0 g1_0) 0 (by decide) [.ref b2, .int 0, .int v1_] rfl (lenOf pd29 rfl) hml rfl rfl rfl y d27_20 rfl ?_
 rintro _ T6 _ X6 ⟨rfl, N6q, K6q, F6_0⟩
 have N6 := Fr.app N1 N6q
 have K6 := Keep.trans K1 K6q (allS (Or.inr u1_0) all0)
 refine sY X6 hx y d27_23 #[rv v0_, iv ((0 : Int32) + (1 : Int32)), iv 1, rv b2, iv 0] rfl rfl ?_
 rw [(by decide : ((0 : Int32) + (1 : Int32)) = (1 : Int32))]
 refine sY X6 hx y d27_26 #[rv v0_, iv 1, iv 1, rv b2, iv ((0 : Int32) + (1 : Int32))] rfl rfl ?_
 rw [(by decide : ((0 : Int32) + (1 : Int32)) = (1 : Int32))]
 refine sR X6 hx y d27_29 8 (by decide) ?_
 refine sJ X6 hx y d27_8 rfl ?_
 refine sI X6 hx y d27_10 rfl ?_
 refine sU X6 hx y d27_11 (by decide) 32 (by decide) ?_
 refine sA X6 hx y d27_32 rfl rfl ?_
 exact own_retA X6 hx hr rfl rfl hl (hb y d27_33) (by decide) (by decide) (⟨b2, k3, rfl, N6, K6, u1_0, F6_0⟩)


theorem rm31_7 (v0_ : Addr) (v1_ : Int32) (v2_ : ClassId) (U0 : Arv Z h0 v0_ v2_ .byte 2 [(.int (oLo v1_)), (.int (oHi v1_))] (.int 0)) (U1 : nar .char v1_ = v1_) (U2 : ¬ (v1_ < (0 : Int32))) (U3 : ¬ ((65535 : Int32) < v1_)) :
  oM hw hS O0 l y31 cd31 (oR 0 0 0 0) #[.ref v0_, .int 0] (fun v h L => (v = some (.int v1_) ∧ Fr n0 L ∧ h = h0)) := by
 refine own_met (own := "java/lang/StringUTF16") (plainFor_of_name pn14) rfl ?_
 intro p e s m u mt c s₁ hx y hml ho hq hr hl hZ e0 X0
 refine own_cast (g' := (mkF m 0 #[rv v0_, iv 0] [])) rfl ?_
 obtain ⟨T1, X1, e1, st1⟩ := getS2 X0 hx hZ ho (host := "") (Or.inl (oW hw 133 rfl)) Via.refl e0 ((si0 hw hS).ext O0.2) (g := (mkF m 0 #[rv v0_, iv 0] [])) rfl (hb y d31_0)
 refine own_step st1 ?_
 refine sS X1 hx y d31_3 (by decide) 28 (by decide) ?_
 refine sI X1 hx y d31_28 rfl ?_
 refine sC X1 hx y d31_29 ?_
 refine sL X1 hx y d31_30 ?_
 refine oV (b := 0) (by decide) ?_
 refine sN X1 hx y d31_31 #[rv v0_, iv 0] rfl ?_
 refine sA X1 hx y d31_32 rfl rfl ?_
 refine sI X1 hx y d31_33 rfl ?_
 refine sY X1 hx y d31_34 #[rv v0_, iv ((0 : Int32) + (1 : Int32))] rfl rfl ?_
 rw [(by decide : ((0 : Int32) + (1 : Int32)) = (1 : Int32))]
 obtain ⟨c2, r2, q2, t2, u2, y2h, y2g⟩ := id U0
 have i2 : ¬ ((0 : Int32) < 0 ∨ c2.slots.size ≤ ((0 : Int32)).toNatClampNeg) := inb_of t2 ⟨by decide, by decide⟩
 refine own_step (fun _ k => X1.baloadBytes hx (j := (0 : Int32)) (v := (.int (oLo v1_))) (by rw [e1]; exact r2.1) (State.isArrayOf_alike hZ.alike r2.2.1) r2.2.2 i2 (own_get t2 y2h i2 0 rfl) (g := (mkF m 37 #[rv v0_, iv 1] [.int 0, .ref v0_])) rfl rfl (hb y d31_37) _ k) ?_
 refine oS (XS.sipush X1.here hx rfl (hb y d31_38)) ?_
 refine oS (XS.iand X1.here hx rfl (hb y d31_41) rfl) ?_
 obtain ⟨T3, X3, e3, st3⟩ := getS2 X1 hx hZ ho (host := "") (Or.inl (oW hw 134 rfl)) Via.refl e1 ((si1 hw hS).ext O0.2) (g := (mkF m 42 #[rv v0_, iv 1] [.int ((oLo v1_) &&& (255 : Int32))])) rfl (hb y d31_42)
 refine own_step st3 ?_
 refine sL X3 hx y d31_45 ?_
 refine sA X3 hx y d31_46 rfl rfl ?_
 refine sI X3 hx y d31_47 rfl ?_
 obtain ⟨c4, r4, q4, t4, u4, y4h, y4g⟩ := id U0
 have i4 : ¬ ((1 : Int32) < 0 ∨ c4.slots.size ≤ ((1 : Int32)).toNatClampNeg) := inb_of t4 ⟨by decide, by decide⟩
 refine own_step (fun _ k => X3.baloadBytes hx (j := (1 : Int32)) (v := (.int (oHi v1_))) (by rw [e3]; exact r4.1) (State.isArrayOf_alike hZ.alike r4.2.1) r4.2.2 i4 (own_get t4 y4h i4 1 rfl) (g := (mkF m 48 #[rv v0_, iv 1] [.int 1, .ref v0_, .int (((oLo v1_) &&& (255 : Int32)) <<< ((0 : Int32) &&& 31))])) rfl rfl (hb y d31_48) _ k) ?_
 refine oS (XS.sipush X3.here hx rfl (hb y d31_49)) ?_
 refine oS (XS.iand X3.here hx rfl (hb y d31_52) rfl) ?_
 obtain ⟨T5, X5, e5, st5⟩ := getS2 X3 hx hZ ho (host := "") (Or.inl (oW hw 135 rfl)) Via.refl e3 ((si2 hw hS).ext O0.2) (g := (mkF m 53 #[rv v0_, iv 1] [.int ((oHi v1_) &&& (255 : Int32)), .int (((oLo v1_) &&& (255 : Int32)) <<< ((0 : Int32) &&& 31))])) rfl (hb y d31_53)
 refine own_step st5 ?_
 refine sL X5 hx y d31_56 ?_
 refine oS (XS.ior X5.here hx rfl (hb y d31_57) rfl) ?_
 refine oS (XS.i2c X5.here hx rfl (hb y d31_58) rfl) ?_
 show own_Wp p e u _ T5 (mkF m 59 #[rv v0_, iv 1] [.int (((((oLo v1_) &&& (255 : Int32)) <<< ((0 : Int32) &&& 31)) ||| (((oHi v1_) &&& (255 : Int32)) <<< ((8 : Int32) &&& 31))).toUInt32.toUInt16.toUInt32.toInt32)])
 rw [(own_b16 U2 U3 : (((((oLo v1_) &&& (255 : Int32)) <<< ((0 : Int32) &&& 31)) ||| (((oHi v1_) &&& (255 : Int32)) <<< ((8 : Int32) &&& 31))).toUInt32.toUInt16.toUInt32.toInt32) = v1_)]
 exact own_retN X5 hx (t := .char) hr (by simp) hl (hb y d31_59) (by decide) (by decide) (by rw [U1, e5]; exact ⟨rfl, (Fr.nil n0), rfl⟩)


theorem rm7_8 (v0_ : Addr) (v1_ : Int32) (v2_ : ClassId) (U0 : Arv Z h0 v0_ v2_ .char 1 [(.int v1_)] (.int 0)) (U1 : nar .char v1_ = v1_) (U2 : ¬ (v1_ < (0 : Int32))) (U3 : ¬ ((65535 : Int32) < v1_)) :
  oM hw hS O0 l y7 cd7 (oR 3 2 3 40) #[.ref v0_, .int 0, .int 1] (fun v h L => (∃ (b5 : Addr) (k6 : ClassId), (255 : Int32) < v1_ ∧ v = some (.ref b5) ∧ Fr n0 L ∧ Keep h0 h [] ∧ h0.size ≤ b5 ∧ Arv Z h b5 k6 .byte 2 [(.int (oLo v1_)), (.int (oHi v1_))] (.int 0)) ∨ (∃ (b1 : Addr) (k1 : ClassId), ¬ ((255 : Int32) < v1_) ∧ v = some (.ref b1) ∧ Fr n0 L ∧ Keep h0 h [] ∧ h0.size ≤ b1 ∧ Arv Z h b1 k1 .byte 1 [(.int (oBy v1_))] (.int 0))) := by
 refine own_met (own := "java/lang/StringUTF16") (plainFor_of_name pn14) rfl ?_
 intro p e s m u mt c s₁ hx y hml ho hq hr hl hZ e0 X0
 refine own_cast (g' := (mkF m 0 #[rv v0_, iv 0, iv 1, .unset, .unset, .unset] [])) rfl ?_
 refine sI X0 hx y d7_0 rfl ?_
 obtain ⟨T1, h1, k1, X1, e1, E1, A1, st1⟩ := newP X0 hx hZ (oW hw 31 rfl) e0 (g := (mkF m 1 #[rv v0_, iv 0, iv 1, .unset, .unset, .unset] [.int 1])) rfl (hb y d7_1) rfl (by decide) (cap := 1) (by decide) (by decide) (by decide) (by decide)
 obtain ⟨b1, z1⟩ : ∃ z, z = h0.size := ⟨_, rfl⟩
 rw [← z1] at A1 st1
 refine own_step st1 ?_
 have g1 : n0 ≤ b1 := Nat.le_trans (O0.1 ▸ O0.2.1) (Nat.le_of_eq z1.symm)
 have y1 : h0.size ≤ b1 := Nat.le_trans (Nat.le_refl _) (Nat.le_of_eq z1.symm)
 have O1 := O0.ext E1
 have K1 := (Keep.refl h0 []).ext E1
 have V1 : Arv Z h1 b1 k1 .byte 1 [(.int 0)] (.int 0) := (Arv.new A1 (by decide)).pad (pad_rep [] (.int 0) 1)
 refine sP X1 hx y d7_3 rfl #[rv v0_, iv 0, iv 1, rv b1, .unset, .unset] rfl ?_
 refine sA X1 hx y d7_4 rfl rfl ?_
 refine sI X1 hx y d7_5 rfl ?_
 refine sA X1 hx y d7_6 rfl rfl ?_
 refine sC X1 hx y d7_7 ?_
 refine sI X1 hx y d7_8 rfl ?_
 have f2 := (U0.ext E1)
 refine oCS X1 hx hZ ho (oW hw 32 rfl) (bu15 hw) (rm8_2 hw hS O1 v0_ b1 v1_ v2_ k1 f2 V1 g1) 0 (by decide) [.ref v0_, .int 0, .ref b1, .int 0, .int 1] rfl (lenOf pd16 rfl) hml rfl rfl rfl y d7_9 e1 ?_
 rintro _ T3 _ X3 (⟨hq3a_0, rfl, N3aq, e3a⟩ | ⟨hq3b_0, rfl, N3bq, K3bq, F3b_0⟩)
 ·
  have N3a := Fr.app (Fr.nil n0) N3aq
  refine sO X3 hx y d7_12 #[rv v0_, iv 0, iv 1, rv b1, iv 0, .unset] rfl ?_
  refine sJ X3 hx y d7_14 rfl ?_
  refine sI X3 hx y d7_16 rfl ?_
  refine sV X3 hx y d7_17 (by decide) ?_
  refine sA X3 hx y d7_20 rfl rfl ?_
  refine sI X3 hx y d7_21 rfl ?_
  refine sI X3 hx y d7_22 rfl ?_
  refine oCS X3 hx hZ ho (oW hw 120 rfl) (bu31 hw) (rm27_6 hw hS O1 v0_ v1_ v2_ f2) 0 (by decide) [.ref v0_, .int 0, .int 1] rfl (lenOf pd32 rfl) hml rfl rfl rfl y d7_23 e3a ?_
  rintro _ T4 _ X4 ⟨b5, k6, rfl, N4q, K4q, y4_0, F4_0⟩
  have N4 := Fr.app N3a N4q
  have u4_0 : h0.size ≤ b5 := Nat.le_trans (K1.1) y4_0
  have O4 := O1.keep K4q all0
  have K4 := Keep.trans K1 K4q all0
  refine sQ X4 hx y d7_26 rfl #[rv v0_, iv 0, iv 1, rv b1, iv 0, rv b5] rfl ?_
  refine sB X4 hx y d7_28 rfl rfl ?_
  refine sJ X4 hx y d7_30 rfl ?_
  refine oCS X4 hx hZ ho (oW hw 136 rfl) (bu35 hw) (rm31_7 hw hS O4 b5 v1_ k6 F4_0 U1 U2 U3) 0 (by decide) [.ref b5, .int 0] rfl (lenOf pd36 rfl) hml rfl rfl rfl y d7_32 rfl ?_
  rintro _ T7 _ X7 ⟨rfl, N7q, e7⟩
  have N7 := Fr.app N4 N7q
  refine oS (XS.sipush X7.here hx rfl (hb y d7_35)) ?_
  refine sU X7 hx y d7_38 (tlt hq3a_0).2.2.1 54 (by decide) ?_
  refine sB X7 hx y d7_54 rfl rfl ?_
  exact own_retA X7 hx hr rfl rfl hl (hb y d7_56) (by decide) (by decide) (by rw [e7]; exact Or.inl ⟨b5, k6, hq3a_0, rfl, N7, K4, u4_0, F4_0⟩)
 ·
  have N3b := Fr.app (Fr.nil n0) N3bq
  have K3b := Keep.trans K1 K3bq (allS (Or.inr y1) all0)
  refine sO X3 hx y d7_12 #[rv v0_, iv 0, iv 1, rv b1, iv 1, .unset] rfl ?_
  refine sJ X3 hx y d7_14 rfl ?_
  refine sI X3 hx y d7_16 rfl ?_
  refine sU X3 hx y d7_17 (by decide) 57 (by decide) ?_
  refine sA X3 hx y d7_57 rfl rfl ?_
  exact own_retA X3 hx hr rfl rfl hl (hb y d7_58) (by decide) (by decide) (Or.inr (⟨b1, k1, hq3b_0, rfl, N3b, K3b, y1, F3b_0⟩))


theorem rm9_9 (v0_ : Addr) (v1_ : Int32) (v2_ : ClassId) (U0 : Arv Z h0 v0_ v2_ .byte 2 [(.int (oLo v1_)), (.int (oHi v1_))] (.int 0)) :
  oM hw hS O0 l y9 cd9 (oR 0 0 0 0) #[.ref v0_, .int 1] (fun v h L => (v = some (.int 1) ∧ Fr n0 L ∧ h = h0)) := by
 refine own_met (own := "java/lang/StringUTF16") (plainFor_of_name pn14) rfl ?_
 intro p e s m u mt c s₁ hx y hml ho hq hr hl hZ e0 X0
 refine own_cast (g' := (mkF m 0 #[rv v0_, iv 1] [])) rfl ?_
 refine sI X0 hx y d9_0 rfl ?_
 refine sA X0 hx y d9_1 rfl rfl ?_
 refine sa X0 hx hZ e0 U0 y d9_2 ?_
 refine sK X0 hx y d9_3 ?_
 refine oV (b := (-1)) (by decide) ?_
 refine sD X0 hx y d9_4 ?_
 refine oS (XS.iushr X0.here hx rfl (hb y d9_6) rfl) ?_
 refine oV (b := 1) (by decide) ?_
 refine oS (XS.i2b X0.here hx rfl (hb y d9_7) rfl) ?_
 refine oV (b := 1) (by decide) ?_
 exact own_retN X0 hx (t := .byte) hr (by simp) hl (hb y d9_8) (by decide) (by decide) (by rw [e0]; exact ⟨rfl, (Fr.nil n0), rfl⟩)


theorem rm9_10 (v0_ : Addr) (v1_ : Int32) (v2_ : ClassId) (U0 : Arv Z h0 v0_ v2_ .byte 1 [(.int (oBy v1_))] (.int 0)) :
  oM hw hS O0 l y9 cd9 (oR 0 0 0 0) #[.ref v0_, .int 1] (fun v h L => (v = some (.int 0) ∧ Fr n0 L ∧ h = h0)) := by
 refine own_met (own := "java/lang/StringUTF16") (plainFor_of_name pn14) rfl ?_
 intro p e s m u mt c s₁ hx y hml ho hq hr hl hZ e0 X0
 refine own_cast (g' := (mkF m 0 #[rv v0_, iv 1] [])) rfl ?_
 refine sI X0 hx y d9_0 rfl ?_
 refine sA X0 hx y d9_1 rfl rfl ?_
 refine sa X0 hx hZ e0 U0 y d9_2 ?_
 refine sK X0 hx y d9_3 ?_
 refine oV (b := 0) (by decide) ?_
 refine sD X0 hx y d9_4 ?_
 refine oS (XS.iushr X0.here hx rfl (hb y d9_6) rfl) ?_
 refine oV (b := 0) (by decide) ?_
 refine oS (XS.i2b X0.here hx rfl (hb y d9_7) rfl) ?_
 refine oV (b := 0) (by decide) ?_
 exact own_retN X0 hx (t := .byte) hr (by simp) hl (hb y d9_8) (by decide) (by decide) (by rw [e0]; exact ⟨rfl, (Fr.nil n0), rfl⟩)


theorem rm5_11 (v0_ v1_ : Addr) (v2_ : Int32) (v3_ : ClassId) (U0 : Ga Z h0 v0_) (U1 : Fa Z h0 v0_ (.int 0)) (U2 : Fb Z h0 v0_ .null) (U3 : Arv Z h0 v1_ v3_ .char 1 [(.int v2_)] (.int 0)) (U4 : n0 ≤ v0_) (U5 : nar .char v2_ = v2_) (U6 : ¬ (v2_ < (0 : Int32))) (U7 : ¬ ((65535 : Int32) < v2_)) :
  oM hw hS O0 l y5 cd5 (oR 4 2 3 57) #[.ref v0_, .ref v1_, .int 0, .int 1, .null] (fun v h L => (∃ (b4 : Addr) (k5 : ClassId), (255 : Int32) < v2_ ∧ v = none ∧ Fr n0 L ∧ Keep h0 h [v0_] ∧ h0.size ≤ b4 ∧ v0_ ≠ b4 ∧ Ga Z h v0_ ∧ Fa Z h v0_ (.int 1) ∧ Fb Z h v0_ (.ref b4) ∧ Arv Z h b4 k5 .byte 2 [(.int (oLo v2_)), (.int (oHi v2_))] (.int 0)) ∨ (∃ (b6 : Addr) (k7 : ClassId), ¬ ((255 : Int32) < v2_) ∧ v = none ∧ Fr n0 L ∧ Keep h0 h [v0_] ∧ h0.size ≤ b6 ∧ v0_ ≠ b6 ∧ Ga Z h v0_ ∧ Fa Z h v0_ (.int 0) ∧ Fb Z h v0_ (.ref b6) ∧ Arv Z h b6 k7 .byte 1 [(.int (oBy v2_))] (.int 0))) := by
 refine own_met (own := "java/lang/String") (plainFor_of_name pn46) rfl ?_
 intro p e s m u mt c s₁ hx y hml ho hq hr hl hZ e0 X0
 refine own_cast (g' := (mkF m 0 #[rv v0_, rv v1_, iv 0, iv 1, .val .null, .unset] [])) rfl ?_
 refine sA X0 hx y d5_0 rfl rfl ?_
 obtain ⟨T1, X1, e1, st1⟩ := initO X0 hx hZ ho (oW hw 23 rfl) (oW hw 24 rfl) (oW hw 25 rfl) e0 (g := (mkF m 1 #[rv v0_, rv v1_, iv 0, iv 1, .val .null, .unset] [.ref v0_])) rfl (by rw [hml]; rfl) rfl (hb y d5_1) (by decide) (W := 0) (by show 2 * 0 + _ ≤ _; exact Nat.le_of_eq rfl) (by decide)
 refine own_step st1 ?_
 refine sI X1 hx y d5_4 rfl ?_
 refine sS X1 hx y d5_5 (by decide) 27 (by decide) ?_
 obtain ⟨T2, X2, e2, st2⟩ := getS2 X1 hx hZ ho (host := "") (Or.inl (oW hw 26 rfl)) Via.refl e1 ((st_w3i_COMPACT_STRINGS hw hS).ext O0.2) (g := (mkF m 27 #[rv v0_, rv v1_, iv 0, iv 1, .val .null, .unset] [])) rfl (hb y d5_27)
 refine own_step st2 ?_
 refine sT X2 hx y d5_30 ((if0 _ _).trans (feq (ne_w3i_COMPACT_STRINGS hw hS)).1) ?_
 refine sA X2 hx y d5_33 rfl rfl ?_
 refine sI X2 hx y d5_34 rfl ?_
 refine sI X2 hx y d5_35 rfl ?_
 refine oCS X2 hx hZ ho (oW hw 27 rfl) (bu38 hw) (rm7_8 hw hS O0 v1_ v2_ v3_ U3 U5 U6 U7) 0 (by decide) [.ref v1_, .int 0, .int 1] rfl (lenOf pd32 rfl) hml rfl rfl rfl y d5_36 e2 ?_
 rintro _ T3 _ X3 (⟨b4, k5, hq3a_0, rfl, N3aq, K3aq, y3a_0, F3a_0⟩ | ⟨b6, k7, hq3b_0, rfl, N3bq, K3bq, y3b_0, F3b_0⟩)
 ·
  have N3a := Fr.app (Fr.nil n0) N3aq
  have ne3a_0_0 : v0_ ≠ b4 := Nat.ne_of_lt (Nat.lt_of_lt_of_le U0.lt y3a_0)
  have u3a_0 : h0.size ≤ b4 := Nat.le_trans (Nat.le_refl _) y3a_0
  have O3a := O0.keep K3aq all0
  have K3a := Keep.trans (Keep.refl h0 [v0_]) K3aq all0
  refine sQ X3 hx y d5_39 rfl #[rv v0_, rv v1_, iv 0, iv 1, .val .null, rv b4] rfl ?_
  refine sA X3 hx y d5_41 rfl rfl ?_
  refine sB X3 hx y d5_42 rfl rfl ?_
  refine sI X3 hx y d5_44 rfl ?_
  refine oCS X3 hx hZ ho (oW hw 35 rfl) (bu41 hw) (rm9_9 hw hS O3a b4 v2_ k5 F3a_0) 1 (by decide) [.ref b4, .int 1] rfl (lenOf pd42 rfl) hml rfl rfl rfl y d5_45 rfl ?_
  rintro _ T8 _ X8 ⟨rfl, N8q, e8⟩
  have N8 := Fr.app N3a N8q
  have f9 := (U1.keep K3aq nin0)
  have f10 := (U0.keep K3aq)
  obtain ⟨T11, h11, X11, e11, W11, st11⟩ := putFN X8 hx hZ ho (oW hw 38 rfl) Via.refl e8 f9 f10 (Or.inr ⟨(oW hw 39 rfl), rfl, hq⟩) (oW hw 13 rfl) (ty := .byte) (v' := (.int 1)) (by decide) rfl (by decide) (g := (mkF m 48 #[rv v0_, rv v1_, iv 0, iv 1, .val .null, rv b4] [.int 1, .ref v0_])) rfl rfl (hb y d5_48)
  refine own_step st11 ?_
  have N11 := Fr.snoc X11 N8 U4
  have K11 := K3a.wr W11 (Or.inl (by simp))
  have Fw11 := f9.same W11
  refine sA X11 hx y d5_51 rfl rfl ?_
  refine sB X11 hx y d5_52 rfl rfl ?_
  have f12 := ((U2.keep K3aq nin0).other W11 (Or.inr (sn43 hw)))
  have f13 := (f10.wr W11)
  refine sp X11 hx hZ ho (oW hw 40 rfl) e11 f12 f13 (Or.inr ⟨(oW hw 41 rfl), rfl, hq⟩) (oW hw 13 rfl) (ty := (.array .byte)) (by decide) rfl rfl y d5_54 fun T14 h14 X14 e14 W14 => ?_
  have N14 := Fr.snoc X14 N11 U4
  have K14 := K11.wr W14 (Or.inl (by simp))
  have Fw14 := f12.same W14
  have f15 := (f13.wr W14)
  have f16 := (Fw11.other W14 (Or.inr (sn44 hw)))
  have f17 := ((F3a_0.other W11 (Ne.symm ne3a_0_0)).other W14 (Ne.symm ne3a_0_0))
  exact own_retV X14 hx hr hl (hb y d5_57) (by decide) (by decide) (by rw [e14]; exact Or.inl ⟨b4, k5, hq3a_0, rfl, N14, K14, u3a_0, ne3a_0_0, f15, f16, Fw14, f17⟩)
 ·
  have N3b := Fr.app (Fr.nil n0) N3bq
  have ne3b_0_0 : v0_ ≠ b6 := Nat.ne_of_lt (Nat.lt_of_lt_of_le U0.lt y3b_0)
  have u3b_0 : h0.size ≤ b6 := Nat.le_trans (Nat.le_refl _) y3b_0
  have O3b := O0.keep K3bq all0
  have K3b := Keep.trans (Keep.refl h0 [v0_]) K3bq all0
  refine sQ X3 hx y d5_39 rfl #[rv v0_, rv v1_, iv 0, iv 1, .val .null, rv b6] rfl ?_
  refine sA X3 hx y d5_41 rfl rfl ?_
  refine sB X3 hx y d5_42 rfl rfl ?_
  refine sI X3 hx y d5_44 rfl ?_
  refine oCS X3 hx hZ ho (oW hw 35 rfl) (bu41 hw) (rm9_10 hw hS O3b b6 v2_ k7 F3b_0) 1 (by decide) [.ref b6, .int 1] rfl (lenOf pd42 rfl) hml rfl rfl rfl y d5_45 rfl ?_
  rintro _ T18 _ X18 ⟨rfl, N18q, e18⟩
  have N18 := Fr.app N3b N18q
  have f19 := (U1.keep K3bq nin0)
  have f20 := (U0.keep K3bq)
  obtain ⟨T21, h21, X21, e21, W21, st21⟩ := putFN X18 hx hZ ho (oW hw 38 rfl) Via.refl e18 f19 f20 (Or.inr ⟨(oW hw 39 rfl), rfl, hq⟩) (oW hw 13 rfl) (ty := .byte) (v' := (.int 0)) (by decide) rfl (by decide) (g := (mkF m 48 #[rv v0_, rv v1_, iv 0, iv 1, .val .null, rv b6] [.int 0, .ref v0_])) rfl rfl (hb y d5_48)
  refine own_step st21 ?_
  have N21 := Fr.snoc X21 N18 U4
  have K21 := K3b.wr W21 (Or.inl (by simp))
  have Fw21 := f19.same W21
  refine sA X21 hx y d5_51 rfl rfl ?_
  refine sB X21 hx y d5_52 rfl rfl ?_
  have f22 := ((U2.keep K3bq nin0).other W21 (Or.inr (sn43 hw)))
  have f23 := (f20.wr W21)
  refine sp X21 hx hZ ho (oW hw 40 rfl) e21 f22 f23 (Or.inr ⟨(oW hw 41 rfl), rfl, hq⟩) (oW hw 13 rfl) (ty := (.array .byte)) (by decide) rfl rfl y d5_54 fun T24 h24 X24 e24 W24 => ?_
  have N24 := Fr.snoc X24 N21 U4
  have K24 := K21.wr W24 (Or.inl (by simp))
  have Fw24 := f22.same W24
  have f25 := (f23.wr W24)
  have f26 := (Fw21.other W24 (Or.inr (sn44 hw)))
  have f27 := ((F3b_0.other W21 (Ne.symm ne3b_0_0)).other W24 (Ne.symm ne3b_0_0))
  exact own_retV X24 hx hr hl (hb y d5_57) (by decide) (by decide) (by rw [e24]; exact Or.inr (⟨b6, k7, hq3b_0, rfl, N24, K24, u3b_0, ne3b_0_0, f25, f26, Fw24, f27⟩))


theorem rm4_12 (v0_ v1_ : Addr) (v2_ : Int32) (v3_ : ClassId) (U0 : Ga Z h0 v0_) (U1 : Fa Z h0 v0_ (.int 0)) (U2 : Fb Z h0 v0_ .null) (U3 : Arv Z h0 v1_ v3_ .char 1 [(.int v2_)] (.int 0)) (U4 : n0 ≤ v0_) (U5 : nar .char v2_ = v2_) (U6 : ¬ (v2_ < (0 : Int32))) (U7 : ¬ ((65535 : Int32) < v2_)) :
  oM hw hS O0 l y4 cd4 (oR 5 2 3 74) #[.ref v0_, .ref v1_] (fun v h L => (∃ (b3 : Addr) (k4 : ClassId), (255 : Int32) < v2_ ∧ v = none ∧ Fr n0 L ∧ Keep h0 h [v0_] ∧ h0.size ≤ b3 ∧ v0_ ≠ b3 ∧ Ga Z h v0_ ∧ Fa Z h v0_ (.int 1) ∧ Fb Z h v0_ (.ref b3) ∧ Arv Z h b3 k4 .byte 2 [(.int (oLo v2_)), (.int (oHi v2_))] (.int 0)) ∨ (∃ (b5 : Addr) (k6 : ClassId), ¬ ((255 : Int32) < v2_) ∧ v = none ∧ Fr n0 L ∧ Keep h0 h [v0_] ∧ h0.size ≤ b5 ∧ v0_ ≠ b5 ∧ Ga Z h v0_ ∧ Fa Z h v0_ (.int 0) ∧ Fb Z h v0_ (.ref b5) ∧ Arv Z h b5 k6 .byte 1 [(.int (oBy v2_))] (.int 0))) := by
 refine own_met (own := "java/lang/String") (plainFor_of_name pn46) rfl ?_
 intro p e s m u mt c s₁ hx y hml ho hq hr hl hZ e0 X0
 refine own_cast (g' := (mkF m 0 #[rv v0_, rv v1_] [])) rfl ?_
 refine sA X0 hx y d4_0 rfl rfl ?_
 refine sA X0 hx y d4_1 rfl rfl ?_
 refine sC X0 hx y d4_2 ?_
 refine sA X0 hx y d4_3 rfl rfl ?_
 refine sa X0 hx hZ e0 U3 y d4_4 ?_
 refine oS (XS.aconstNull X0.here hx rfl (hb y d4_5)) ?_
 refine oCN X0 hx hZ ho (oW hw 19 rfl) (bu47 hw) (rm5_11 hw hS O0 v0_ v1_ v2_ v3_ U0 U1 U2 U3 U4 U5 U6 U7) 0 (by decide) [.ref v1_, .int 0, .int 1, .null] rfl (lenOf pd48 rfl) hml rfl rfl rfl y d4_6 e0 ?_
 rintro _ T2 _ X2 (⟨b3, k4, hq2a_0, rfl, N2aq, K2aq, y2a_0, m2a_0, F2a_0, F2a_1, F2a_2, F2a_3⟩ | ⟨b5, k6, hq2b_0, rfl, N2bq, K2bq, y2b_0, m2b_0, F2b_0, F2b_1, F2b_2, F2b_3⟩)
 ·
  have N2a := Fr.app (Fr.nil n0) N2aq
  have u2a_0 : h0.size ≤ b3 := Nat.le_trans (Nat.le_refl _) y2a_0
  have K2a := Keep.trans (Keep.refl h0 [v0_]) K2aq (allS (Or.inl (by simp)) all0)
  exact own_retV X2 hx hr hl (hb y d4_9) (by decide) (by decide) (Or.inl ⟨b3, k4, hq2a_0, rfl, N2a, K2a, u2a_0, m2a_0, F2a_0, F2a_1, F2a_2, F2a_3⟩)
 ·
  have N2b := Fr.app (Fr.nil n0) N2bq
  have u2b_0 : h0.size ≤ b5 := Nat.le_trans (Nat.le_refl _) y2b_0
  have K2b := Keep.trans (Keep.refl h0 [v0_]) K2bq (allS (Or.inl (by simp)) all0)
  exact own_retV X2 hx hr hl (hb y d4_9) (by decide) (by decide) (Or.inr (⟨b5, k6, hq2b_0, rfl, N2b, K2b, u2b_0, m2b_0, F2b_0, F2b_1, F2b_2, F2b_3⟩))


theorem rm3_13 (v0_ v1_ v2_ v3_ : Int32) (U0 : nar .char v0_ = v0_) (U1 : ¬ (v0_ < (0 : Int32))) (U2 : ¬ ((65535 : Int32) < v0_)) :
  oM hw hS O0 l y3 cd3 (oR 6 4 8 88) #[.int 1, .int v0_, .int v1_, .int v2_, .int v3_] (fun v h L => (∃ (b1 : Addr) (b8 : Addr) (k9 : ClassId), (255 : Int32) < v0_ ∧ v = some (.ref b1) ∧ Fr n0 L ∧ Keep h0 h [] ∧ h0.size ≤ b1 ∧ h0.size ≤ b8 ∧ b1 ≠ b8 ∧ Ga Z h b1 ∧ Fa Z h b1 (.int 1) ∧ Fb Z h b1 (.ref b8) ∧ Arv Z h b8 k9 .byte 2 [(.int (oLo v0_)), (.int (oHi v0_))] (.int 0)) ∨ (∃ (b1 : Addr) (b10 : Addr) (k11 : ClassId), ¬ ((255 : Int32) < v0_) ∧ v = some (.ref b1) ∧ Fr n0 L ∧ Keep h0 h [] ∧ h0.size ≤ b1 ∧ h0.size ≤ b10 ∧ b1 ≠ b10 ∧ Ga Z h b1 ∧ Fa Z h b1 (.int 0) ∧ Fb Z h b1 (.ref b10) ∧ Arv Z h b10 k11 .byte 1 [(.int (oBy v0_))] (.int 0))) := by
 refine own_met (own := "com/example/linepack/linepack/ValuesIdPinLaw") (plainFor_of_name pn2) rfl ?_
 intro p e s m u mt c s₁ hx y hml ho hq hr hl hZ e0 X0
 refine own_cast (g' := (mkF m 0 #[iv 1, iv v0_, iv v1_, iv v2_, iv v3_] [])) rfl ?_
 refine sI X0 hx y d3_0 rfl ?_
 refine sC X0 hx y d3_1 ?_
 refine sV X0 hx y d3_2 (by decide) ?_
 obtain ⟨T1, h1, X1, e1, E1, A1, D1, -, st1⟩ := newO X0 hx hZ ho (oW hw 12 rfl) (oW hw 13 rfl) (oW hw 14 rfl) e0 (g := (mkF m 5 #[iv 1, iv v0_, iv v1_, iv v2_, iv v3_] [])) rfl (hb y d3_5) (by decide) (by decide)
 obtain ⟨b1, z1⟩ : ∃ z, z = h0.size := ⟨_, rfl⟩
 rw [← z1] at A1 D1 st1
 refine own_step st1 ?_
 have g1 : n0 ≤ b1 := Nat.le_trans (O0.1 ▸ O0.2.1) (Nat.le_of_eq z1.symm)
 have y1 : h0.size ≤ b1 := Nat.le_trans (Nat.le_refl _) (Nat.le_of_eq z1.symm)
 have O1 := O0.ext E1
 have K1 := (Keep.refl h0 []).ext E1
 have F1_39 : Fa Z h1 b1 (.int 0) := D1 (Or.inr (oW hw 39 rfl)) (ty := .byte) (by decide)
 have F1_41 : Fb Z h1 b1 .null := D1 (Or.inr (oW hw 41 rfl)) (ty := (.array .byte)) (by decide)
 refine sF X1 hx y d3_8 rfl ?_
 refine sC X1 hx y d3_9 ?_
 obtain ⟨T2, h2, k2, X2, e2, E2, A2, st2⟩ := newP X1 hx hZ (oW hw 15 rfl) e1 (g := (mkF m 10 #[iv 1, iv v0_, iv v1_, iv v2_, iv v3_] [.int 1, .ref b1, .ref b1])) rfl (hb y d3_10) rfl (by decide) (cap := 1) (by decide) (by decide) (by decide) (by decide)
 obtain ⟨b2, z2⟩ : ∃ z, z = h1.size := ⟨_, rfl⟩
 rw [← z2] at A2 st2
 refine own_step st2 ?_
 have g2 : n0 ≤ b2 := Nat.le_trans (O1.1 ▸ O1.2.1) (Nat.le_of_eq z2.symm)
 have ne2_0 : b1 ≠ b2 := Nat.ne_of_lt (Nat.lt_of_lt_of_le A1.lt (Nat.le_of_eq z2.symm))
 have y2 : h0.size ≤ b2 := Nat.le_trans (K1.1) (Nat.le_of_eq z2.symm)
 have O2 := O1.ext E2
 have K2 := K1.ext E2
 have V2 : Arv Z h2 b2 k2 .char 1 [(.int 0)] (.int 0) := (Arv.new A2 (by decide)).pad (pad_rep [] (.int 0) 1)
 refine sF X2 hx y d3_12 rfl ?_
 refine sC X2 hx y d3_13 ?_
 refine sI X2 hx y d3_14 rfl ?_
 obtain ⟨c3, r3, q3, t3, u3, y3h, y3g⟩ := id V2
 have i3 : ¬ ((0 : Int32) < 0 ∨ c3.slots.size ≤ ((0 : Int32)).toNatClampNeg) := inb_of t3 ⟨by decide, by decide⟩
 obtain ⟨T3, h3, X3, e3, W3, st3⟩ := stC X2 hx hZ e2 r3 (j := (0 : Int32)) i3 (g := (mkF m 15 #[iv 1, iv v0_, iv v1_, iv v2_, iv v3_] [.int v0_, .int 0, .ref b2, .ref b2, .ref b1, .ref b1])) rfl rfl (hb y d3_15)
 rw [U0] at W3
 refine own_step st3 ?_
 have N3 := Fr.snoc X3 (Fr.nil n0) g2
 have O3 := O2.wr W3 g2
 have K3 := K2.wr W3 (Or.inr y2)
 have V3 : Arv Z h3 b2 k2 .char 1 [(.int v0_)] (.int 0) := Arv.set r3 q3 t3 u3 y3h y3g (own_fitc U0) W3 0 rfl (Nat.le_of_ble_eq_true rfl)
 have f4 := ((A1.ext E2).wr W3)
 have f5 := ((F1_39.ext E2).other W3 (Or.inl ne2_0))
 have f6 := ((F1_41.ext E2).other W3 (Or.inl ne2_0))
 refine oCN X3 hx hZ ho (oW hw 16 rfl) (bu50 hw) (rm4_12 hw hS O3 b1 b2 v0_ k2 f4 f5 f6 V3 g1 U0 U1 U2) 1 (by decide) [.ref b2] rfl (lenOf pd51 rfl) hml rfl rfl rfl y d3_16 e3 ?_
 rintro _ T7 _ X7 (⟨b8, k9, hq7a_0, rfl, N7aq, K7aq, y7a_0, m7a_0, F7a_0, F7a_1, F7a_2, F7a_3⟩ | ⟨b10, k11, hq7b_0, rfl, N7bq, K7bq, y7b_0, m7b_0, F7b_0, F7b_1, F7b_2, F7b_3⟩)
 ·
  have N7a := Fr.app N3 N7aq
  have u7a_0 : h0.size ≤ b8 := Nat.le_trans (K3.1) y7a_0
  have K7a := Keep.trans K3 K7aq (allS (Or.inr y1) all0)
  exact own_retA X7 hx hr rfl rfl hl (hb y d3_19) (by decide) (by decide) (Or.inl ⟨b1, b8, k9, hq7a_0, rfl, N7a, K7a, y1, u7a_0, m7a_0, F7a_0, F7a_1, F7a_2, F7a_3⟩)
 ·
  have N7b := Fr.app N3 N7bq
  have u7b_0 : h0.size ≤ b10 := Nat.le_trans (K3.1) y7b_0
  have K7b := Keep.trans K3 K7bq (allS (Or.inr y1) all0)
  exact own_retA X7 hx hr rfl rfl hl (hb y d3_19) (by decide) (by decide) (Or.inr (⟨b1, b10, k11, hq7b_0, rfl, N7b, K7b, y1, u7b_0, m7b_0, F7b_0, F7b_1, F7b_2, F7b_3⟩))


theorem rm11_14 (v0_ v1_ : Addr) (v2_ : Int32) (v3_ : ClassId) (U0 : Fb Z h0 v0_ (.ref v1_)) (U1 : Arv Z h0 v1_ v3_ .byte 2 [(.int (oLo v2_)), (.int (oHi v2_))] (.int 0)) :
  oM hw hS O0 l y11 cd11 (oR 0 0 0 0) #[.ref v0_] (fun v h L => (v = some (.int 0) ∧ Fr n0 L ∧ h = h0)) := by
 refine own_met (own := "java/lang/String") (plainFor_of_name pn46) rfl ?_
 intro p e s m u mt c s₁ hx y hml ho hq hr hl hZ e0 X0
 refine own_cast (g' := (mkF m 0 #[rv v0_] [])) rfl ?_
 refine sA X0 hx y d11_0 rfl rfl ?_
 refine sg X0 hx hZ ho (oW hw 40 rfl) e0 U0 y d11_1 fun T1 X1 e1 => ?_
 refine sa X1 hx hZ e1 U1 y d11_4 ?_
 refine sS X1 hx y d11_5 (by decide) 12 (by decide) ?_
 refine sC X1 hx y d11_12 ?_
 exact own_retN X1 hx (t := .boolean) hr (by simp) hl (hb y d11_13) (by decide) (by decide) (by rw [e1]; exact ⟨rfl, (Fr.nil n0), rfl⟩)


theorem rm13_15 (v0_ : Addr) (U0 : Fa Z h0 v0_ (.int 1)) :
  oM hw hS O0 l y13 cd13 (oR 0 0 0 0) #[.ref v0_] (fun v h L => (v = some (.int 1) ∧ Fr n0 L ∧ h = h0)) := by
 refine own_met (own := "java/lang/String") (plainFor_of_name pn46) rfl ?_
 intro p e s m u mt c s₁ hx y hml ho hq hr hl hZ e0 X0
 refine own_cast (g' := (mkF m 0 #[rv v0_] [])) rfl ?_
 obtain ⟨T1, X1, e1, st1⟩ := getS2 X0 hx hZ ho (host := "") (Or.inl (oW hw 26 rfl)) Via.refl e0 ((st_w3i_COMPACT_STRINGS hw hS).ext O0.2) (g := (mkF m 0 #[rv v0_] [])) rfl (hb y d13_0)
 refine own_step st1 ?_
 refine sT X1 hx y d13_3 ((if0 _ _).trans (feq (ne_w3i_COMPACT_STRINGS hw hS)).1) ?_
 refine sA X1 hx y d13_6 rfl rfl ?_
 refine sg X1 hx hZ ho (oW hw 38 rfl) e1 U0 y d13_7 fun T2 X2 e2 => ?_
 refine sR X2 hx y d13_10 14 (by decide) ?_
 exact own_retN X2 hx (t := .byte) hr (by simp) hl (hb y d13_14) (by decide) (by decide) (by rw [e2]; exact ⟨rfl, (Fr.nil n0), rfl⟩)


theorem rm12_16 (v0_ v1_ : Addr) (v2_ : Int32) (v3_ : ClassId) (U0 : Ga Z h0 v0_) (U1 : Fa Z h0 v0_ (.int 1)) (U2 : Fb Z h0 v0_ (.ref v1_)) (U3 : Arv Z h0 v1_ v3_ .byte 2 [(.int (oLo v2_)), (.int (oHi v2_))] (.int 0)) :
  oM hw hS O0 l y12 cd12 (oR 1 0 0 13) #[.ref v0_] (fun v h L => (v = some (.int 1) ∧ Fr n0 L ∧ h = h0)) := by
 refine own_met (own := "java/lang/String") (plainFor_of_name pn46) rfl ?_
 intro p e s m u mt c s₁ hx y hml ho hq hr hl hZ e0 X0
 refine own_cast (g' := (mkF m 0 #[rv v0_] [])) rfl ?_
 refine sA X0 hx y d12_0 rfl rfl ?_
 refine sg X0 hx hZ ho (oW hw 40 rfl) e0 U2 y d12_1 fun T1 X1 e1 => ?_
 refine sa X1 hx hZ e1 U3 y d12_4 ?_
 refine sA X1 hx y d12_5 rfl rfl ?_
 refine oCV X1 hx hZ ho (oW hw 59 rfl) (bu63 hw) U0 (rm13_15 hw hS O0 v0_ U1) 1 (by decide) [] rfl (lenOf pd64 rfl) hml rfl rfl rfl y d12_6 e1 ?_
 rintro _ T3 _ X3 ⟨rfl, N3q, e3⟩
 have N3 := Fr.app (Fr.nil n0) N3q
 refine sM X3 hx y d12_9 ?_
 refine oV (b := 1) (by decide) ?_
 exact own_retI X3 hx hr hl (hb y d12_10) (by decide) (by decide) (by rw [e3]; exact ⟨rfl, N3, rfl⟩)


theorem rm15_17 (v0_ : Addr) (U0 : Fa Z h0 v0_ (.int 1)) :
  oM hw hS O0 l y15 cd15 (oR 0 0 0 0) #[.ref v0_] (fun v h L => (v = some (.int 0) ∧ Fr n0 L ∧ h = h0)) := by
 refine own_met (own := "java/lang/String") (plainFor_of_name pn46) rfl ?_
 intro p e s m u mt c s₁ hx y hml ho hq hr hl hZ e0 X0
 refine own_cast (g' := (mkF m 0 #[rv v0_] [])) rfl ?_
 obtain ⟨T1, X1, e1, st1⟩ := getS2 X0 hx hZ ho (host := "") (Or.inl (oW hw 26 rfl)) Via.refl e0 ((st_w3i_COMPACT_STRINGS hw hS).ext O0.2) (g := (mkF m 0 #[rv v0_] [])) rfl (hb y d15_0)
 refine own_step st1 ?_
 refine sT X1 hx y d15_3 ((if0 _ _).trans (feq (ne_w3i_COMPACT_STRINGS hw hS)).1) ?_
 refine sA X1 hx y d15_6 rfl rfl ?_
 refine sg X1 hx hZ ho (oW hw 38 rfl) e1 U0 y d15_7 fun T2 X2 e2 => ?_
 refine sS X2 hx y d15_10 (by decide) 17 (by decide) ?_
 refine sC X2 hx y d15_17 ?_
 exact own_retN X2 hx (t := .boolean) hr (by simp) hl (hb y d15_18) (by decide) (by decide) (by rw [e2]; exact ⟨rfl, (Fr.nil n0), rfl⟩)


theorem rm34_18 (v0_ : Addr) (v1_ : Int32) (v2_ : ClassId) (U0 : Arv Z h0 v0_ v2_ .byte 2 [(.int (oLo v1_)), (.int (oHi v1_))] (.int 0)) :
  oM hw hS O0 l y34 cd34 (oR 0 0 0 0) #[.ref v0_] (fun v h L => (v = some (.int 1) ∧ Fr n0 L ∧ h = h0)) := by
 refine own_met (own := "java/lang/StringUTF16") (plainFor_of_name pn14) rfl ?_
 intro p e s m u mt c s₁ hx y hml ho hq hr hl hZ e0 X0
 refine own_cast (g' := (mkF m 0 #[rv v0_] [])) rfl ?_
 refine sA X0 hx y d34_0 rfl rfl ?_
 refine sa X0 hx hZ e0 U0 y d34_1 ?_
 refine sC X0 hx y d34_2 ?_
 refine sM X0 hx y d34_3 ?_
 refine oV (b := 1) (by decide) ?_
 exact own_retI X0 hx hr hl (hb y d34_4) (by decide) (by decide) (by rw [e0]; exact ⟨rfl, (Fr.nil n0), rfl⟩)


theorem rm18_19  :
  oM hw hS O0 l y18 cd18 (oR 0 0 0 0) #[.int 0, .int 1, .null] (fun v h L => (v = some (.int 0) ∧ Fr n0 L ∧ h = h0)) := by
 refine own_met (own := "jdk/internal/util/Preconditions") (plainFor_of_name pn81) rfl ?_
 intro p e s m u mt c s₁ hx y hml ho hq hr hl hZ e0 X0
 refine own_cast (g' := (mkF m 0 #[iv 0, iv 1, .val .null] [])) rfl ?_
 refine sI X0 hx y d18_0 rfl ?_
 refine sT X0 hx y d18_1 (by decide) ?_
 refine sI X0 hx y d18_4 rfl ?_
 refine sI X0 hx y d18_5 rfl ?_
 refine sU X0 hx y d18_6 (by decide) 16 (by decide) ?_
 refine sI X0 hx y d18_16 rfl ?_
 exact own_retI X0 hx hr hl (hb y d18_17) (by decide) (by decide) (by rw [e0]; exact ⟨rfl, (Fr.nil n0), rfl⟩)


theorem rm18_20 (v0_ : Addr) :
  oM hw hS O0 l y18 cd18 (oR 0 0 0 0) #[.int 0, .int 1, .ref v0_] (fun v h L => (v = some (.int 0) ∧ Fr n0 L ∧ h = h0)) := by
 refine own_met (own := "jdk/internal/util/Preconditions") (plainFor_of_name pn81) rfl ?_
 intro p e s m u mt c s₁ hx y hml ho hq hr hl hZ e0 X0
 refine own_cast (g' := (mkF m 0 #[iv 0, iv 1, rv v0_] [])) rfl ?_
 refine sI X0 hx y d18_0 rfl ?_
 refine sT X0 hx y d18_1 (by decide) ?_
 refine sI X0 hx y d18_4 rfl ?_
 refine sI X0 hx y d18_5 rfl ?_
 refine sU X0 hx y d18_6 (by decide) 16 (by decide) ?_
 refine sI X0 hx y d18_16 rfl ?_
 exact own_retI X0 hx hr hl (hb y d18_17) (by decide) (by decide) (by rw [e0]; exact ⟨rfl, (Fr.nil n0), rfl⟩)


theorem rm17_21  :
  oM hw hS O0 l y17 cd17 (oR 1 0 0 14) #[.int 0, .int 1] (fun v h L => (v = none ∧ Fr n0 L ∧ h = h0)) := by
 refine own_met (own := "java/lang/String") (plainFor_of_name pn46) rfl ?_
 intro p e s m u mt c s₁ hx y hml ho hq hr hl hZ e0 X0
 refine own_cast (g' := (mkF m 0 #[iv 0, iv 1] [])) rfl ?_
 refine sI X0 hx y d17_0 rfl ?_
 refine sI X0 hx y d17_1 rfl ?_
 rcases (sr0 hw hS) with hs1 | ⟨a1, hs1⟩
 ·
  obtain ⟨T1n, X1n, e1n, st1n⟩ := getS2 X0 hx hZ ho (host := "") (Or.inl (oW hw 81 rfl)) Via.refl e0 (hs1.ext O0.2) (g := (mkF m 2 #[iv 0, iv 1] [.int 1, .int 0])) rfl (hb y d17_2)
  refine own_step st1n ?_
  refine oCS X1n hx hZ ho (oW hw 83 rfl) (bu82 hw) (rm18_19 hw hS O0) 0 (by decide) [.int 0, .int 1, .null] rfl (lenOf pd83 rfl) hml rfl rfl rfl y d17_5 e1n ?_
  rintro _ T2 _ X2 ⟨rfl, N2q, e2⟩
  have N2 := Fr.app (Fr.nil n0) N2q
  refine sG X2 hx y d17_8 rfl ?_
  exact own_retV X2 hx hr hl (hb y d17_9) (by decide) (by decide) (by rw [e2]; exact ⟨rfl, N2, rfl⟩)
 ·
  obtain ⟨T1r, X1r, e1r, st1r⟩ := getS2 X0 hx hZ ho (host := "") (Or.inl (oW hw 81 rfl)) Via.refl e0 (hs1.ext O0.2) (g := (mkF m 2 #[iv 0, iv 1] [.int 1, .int 0])) rfl (hb y d17_2)
  refine own_step st1r ?_
  refine oCS X1r hx hZ ho (oW hw 83 rfl) (bu82 hw) (rm18_20 hw hS O0 a1) 0 (by decide) [.int 0, .int 1, .ref a1] rfl (lenOf pd83 rfl) hml rfl rfl rfl y d17_5 e1r ?_
  rintro _ T3 _ X3 ⟨rfl, N3q, e3⟩
  have N3 := Fr.app (Fr.nil n0) N3q
  refine sG X3 hx y d17_8 rfl ?_
  exact own_retV X3 hx hr hl (hb y d17_9) (by decide) (by decide) (by rw [e3]; exact ⟨rfl, N3, rfl⟩)


theorem rm33_22 (v0_ : Addr) (v1_ : Int32) (v2_ : ClassId) (U0 : Arv Z h0 v0_ v2_ .byte 2 [(.int (oLo v1_)), (.int (oHi v1_))] (.int 0)) :
  oM hw hS O0 l y33 cd33 (oR 2 0 0 27) #[.int 0, .ref v0_] (fun v h L => (v = none ∧ Fr n0 L ∧ h = h0)) := by
 refine own_met (own := "java/lang/StringUTF16") (plainFor_of_name pn14) rfl ?_
 intro p e s m u mt c s₁ hx y hml ho hq hr hl hZ e0 X0
 refine own_cast (g' := (mkF m 0 #[iv 0, rv v0_] [])) rfl ?_
 refine sI X0 hx y d33_0 rfl ?_
 refine sA X0 hx y d33_1 rfl rfl ?_
 refine oCS X0 hx hZ ho (oW hw 145 rfl) (bu76 hw) (rm34_18 hw hS O0 v0_ v1_ v2_ U0) 1 (by decide) [.ref v0_] rfl (lenOf pd77 rfl) hml rfl rfl rfl y d33_2 e0 ?_
 rintro _ T1 _ X1 ⟨rfl, N1q, e1⟩
 have N1 := Fr.app (Fr.nil n0) N1q
 refine oCS X1 hx hZ ho (oW hw 148 rfl) (bu85 hw) (rm17_21 hw hS O0) 0 (by decide) [.int 0, .int 1] rfl (lenOf pd86 rfl) hml rfl rfl rfl y d33_5 e1 ?_
 rintro _ T2 _ X2 ⟨rfl, N2q, e2⟩
 have N2 := Fr.app N1 N2q
 exact own_retV X2 hx hr hl (hb y d33_8) (by decide) (by decide) (by rw [e2]; exact ⟨rfl, N2, rfl⟩)


theorem rm32_23 (v0_ : Addr) (v1_ : Int32) (v2_ : ClassId) (U0 : Arv Z h0 v0_ v2_ .byte 2 [(.int (oLo v1_)), (.int (oHi v1_))] (.int 0)) (U1 : nar .char v1_ = v1_) (U2 : ¬ (v1_ < (0 : Int32))) (U3 : ¬ ((65535 : Int32) < v1_)) :
  oM hw hS O0 l y32 cd32 (oR 3 0 0 40) #[.ref v0_, .int 0] (fun v h L => (v = some (.int v1_) ∧ Fr n0 L ∧ h = h0)) := by
 refine own_met (own := "java/lang/StringUTF16") (plainFor_of_name pn14) rfl ?_
 intro p e s m u mt c s₁ hx y hml ho hq hr hl hZ e0 X0
 refine own_cast (g' := (mkF m 0 #[rv v0_, iv 0] [])) rfl ?_
 refine sI X0 hx y d32_0 rfl ?_
 refine sA X0 hx y d32_1 rfl rfl ?_
 refine oCS X0 hx hZ ho (oW hw 142 rfl) (bu88 hw) (rm33_22 hw hS O0 v0_ v1_ v2_ U0) 0 (by decide) [.int 0, .ref v0_] rfl (lenOf pd89 rfl) hml rfl rfl rfl y d32_2 e0 ?_
 rintro _ T1 _ X1 ⟨rfl, N1q, e1⟩
 have N1 := Fr.app (Fr.nil n0) N1q
 refine sA X1 hx y d32_5 rfl rfl ?_
 refine sI X1 hx y d32_6 rfl ?_
 refine oCS X1 hx hZ ho (oW hw 136 rfl) (bu35 hw) (rm31_7 hw hS O0 v0_ v1_ v2_ U0 U1 U2 U3) 0 (by decide) [.ref v0_, .int 0] rfl (lenOf pd36 rfl) hml rfl rfl rfl y d32_7 e1 ?_
 rintro _ T2 _ X2 ⟨rfl, N2q, e2⟩
 have N2 := Fr.app N1 N2q
 exact own_retN X2 hx (t := .char) hr (by simp) hl (hb y d32_10) (by decide) (by decide) (by rw [U1, e2]; exact ⟨rfl, N2, rfl⟩)


theorem rm14_24 (v0_ v1_ : Addr) (v2_ : Int32) (v3_ : ClassId) (U0 : Ga Z h0 v0_) (U1 : Fa Z h0 v0_ (.int 1)) (U2 : Fb Z h0 v0_ (.ref v1_)) (U3 : Arv Z h0 v1_ v3_ .byte 2 [(.int (oLo v2_)), (.int (oHi v2_))] (.int 0)) (U4 : nar .char v2_ = v2_) (U5 : ¬ (v2_ < (0 : Int32))) (U6 : ¬ ((65535 : Int32) < v2_)) :
  oM hw hS O0 l y14 cd14 (oR 4 0 0 53) #[.ref v0_, .int 0] (fun v h L => (v = some (.int v2_) ∧ Fr n0 L ∧ h = h0)) := by
 refine own_met (own := "java/lang/String") (plainFor_of_name pn46) rfl ?_
 intro p e s m u mt c s₁ hx y hml ho hq hr hl hZ e0 X0
 refine own_cast (g' := (mkF m 0 #[rv v0_, iv 0] [])) rfl ?_
 refine sA X0 hx y d14_0 rfl rfl ?_
 refine oCV X0 hx hZ ho (oW hw 69 rfl) (bu71 hw) U0 (rm15_17 hw hS O0 v0_ U1) 0 (by decide) [] rfl (lenOf pd59 rfl) hml rfl rfl rfl y d14_1 e0 ?_
 rintro _ T1 _ X1 ⟨rfl, N1q, e1⟩
 have N1 := Fr.app (Fr.nil n0) N1q
 refine sS X1 hx y d14_4 (by decide) 16 (by decide) ?_
 refine sA X1 hx y d14_16 rfl rfl ?_
 refine sg X1 hx hZ ho (oW hw 40 rfl) e1 U2 y d14_17 fun T2 X2 e2 => ?_
 refine sI X2 hx y d14_20 rfl ?_
 refine oCS X2 hx hZ ho (oW hw 139 rfl) (bu91 hw) (rm32_23 hw hS O0 v1_ v2_ v3_ U3 U4 U5 U6) 0 (by decide) [.ref v1_, .int 0] rfl (lenOf pd36 rfl) hml rfl rfl rfl y d14_21 e2 ?_
 rintro _ T3 _ X3 ⟨rfl, N3q, e3⟩
 have N3 := Fr.app N1 N3q
 exact own_retN X3 hx (t := .char) hr (by simp) hl (hb y d14_24) (by decide) (by decide) (by rw [U4, e3]; exact ⟨rfl, N3, rfl⟩)


theorem rm15_25 (v0_ : Addr) (U0 : Fa Z h0 v0_ (.int 0)) :
  oM hw hS O0 l y15 cd15 (oR 0 0 0 0) #[.ref v0_] (fun v h L => (v = some (.int 1) ∧ Fr n0 L ∧ h = h0)) := by
 refine own_met (own := "java/lang/String") (plainFor_of_name pn46) rfl ?_
 intro p e s m u mt c s₁ hx y hml ho hq hr hl hZ e0 X0
 refine own_cast (g' := (mkF m 0 #[rv v0_] [])) rfl ?_
 obtain ⟨T1, X1, e1, st1⟩ := getS2 X0 hx hZ ho (host := "") (Or.inl (oW hw 26 rfl)) Via.refl e0 ((st_w3i_COMPACT_STRINGS hw hS).ext O0.2) (g := (mkF m 0 #[rv v0_] [])) rfl (hb y d15_0)
 refine own_step st1 ?_
 refine sT X1 hx y d15_3 ((if0 _ _).trans (feq (ne_w3i_COMPACT_STRINGS hw hS)).1) ?_
 refine sA X1 hx y d15_6 rfl rfl ?_
 refine sg X1 hx hZ ho (oW hw 38 rfl) e1 U0 y d15_7 fun T2 X2 e2 => ?_
 refine sT X2 hx y d15_10 (by decide) ?_
 refine sC X2 hx y d15_13 ?_
 refine sR X2 hx y d15_14 18 (by decide) ?_
 exact own_retN X2 hx (t := .boolean) hr (by simp) hl (hb y d15_18) (by decide) (by decide) (by rw [e2]; exact ⟨rfl, (Fr.nil n0), rfl⟩)


theorem rm13_26 (v0_ : Addr) (U0 : Fa Z h0 v0_ (.int 0)) :
  oM hw hS O0 l y13 cd13 (oR 0 0 0 0) #[.ref v0_] (fun v h L => (v = some (.int 0) ∧ Fr n0 L ∧ h = h0)) := by
 refine own_met (own := "java/lang/String") (plainFor_of_name pn46) rfl ?_
 intro p e s m u mt c s₁ hx y hml ho hq hr hl hZ e0 X0
 refine own_cast (g' := (mkF m 0 #[rv v0_] [])) rfl ?_
 obtain ⟨T1, X1, e1, st1⟩ := getS2 X0 hx hZ ho (host := "") (Or.inl (oW hw 26 rfl)) Via.refl e0 ((st_w3i_COMPACT_STRINGS hw hS).ext O0.2) (g := (mkF m 0 #[rv v0_] [])) rfl (hb y d13_0)
 refine own_step st1 ?_
 refine sT X1 hx y d13_3 ((if0 _ _).trans (feq (ne_w3i_COMPACT_STRINGS hw hS)).1) ?_
 refine sA X1 hx y d13_6 rfl rfl ?_
 refine sg X1 hx hZ ho (oW hw 38 rfl) e1 U0 y d13_7 fun T2 X2 e2 => ?_
 refine sR X2 hx y d13_10 14 (by decide) ?_
 exact own_retN X2 hx (t := .byte) hr (by simp) hl (hb y d13_14) (by decide) (by decide) (by rw [e2]; exact ⟨rfl, (Fr.nil n0), rfl⟩)


theorem rm12_27 (v0_ v1_ : Addr) (v2_ : ClassId) (U0 : Ga Z h0 v0_) (U1 : Fa Z h0 v0_ (.int 0)) (U2 : Fb Z h0 v0_ (.ref v1_)) (U3 : Arv Z h0 v1_ v2_ .byte 4 [(.int 61), (.int 43), (.int 45), (.int 64)] (.int 0)) :
  oM hw hS O0 l y12 cd12 (oR 1 0 0 13) #[.ref v0_] (fun v h L => (v = some (.int 4) ∧ Fr n0 L ∧ h = h0)) := by
 refine own_met (own := "java/lang/String") (plainFor_of_name pn46) rfl ?_
 intro p e s m u mt c s₁ hx y hml ho hq hr hl hZ e0 X0
 refine own_cast (g' := (mkF m 0 #[rv v0_] [])) rfl ?_
 refine sA X0 hx y d12_0 rfl rfl ?_
 refine sg X0 hx hZ ho (oW hw 40 rfl) e0 U2 y d12_1 fun T1 X1 e1 => ?_
 refine sa X1 hx hZ e1 U3 y d12_4 ?_
 refine sA X1 hx y d12_5 rfl rfl ?_
 refine oCV X1 hx hZ ho (oW hw 59 rfl) (bu63 hw) U0 (rm13_26 hw hS O0 v0_ U1) 1 (by decide) [] rfl (lenOf pd64 rfl) hml rfl rfl rfl y d12_6 e1 ?_
 rintro _ T3 _ X3 ⟨rfl, N3q, e3⟩
 have N3 := Fr.app (Fr.nil n0) N3q
 refine sM X3 hx y d12_9 ?_
 refine oV (b := 4) (by decide) ?_
 exact own_retI X3 hx hr hl (hb y d12_10) (by decide) (by decide) (by rw [e3]; exact ⟨rfl, N3, rfl⟩)


theorem rm22_28 (v0_ : Int32) (U0 : ¬ (v0_ < (0 : Int32))) (U1 : (255 : Int32) < v0_) :
  oM hw hS O0 l y22 cd22 (oR 0 0 0 0) #[.int v0_] (fun v h L => (v = some (.int 0) ∧ Fr n0 L ∧ h = h0)) := by
 refine own_met (own := "java/lang/StringLatin1") (plainFor_of_name pn100) rfl ?_
 intro p e s m u mt c s₁ hx y hml ho hq hr hl hZ e0 X0
 refine own_cast (g' := (mkF m 0 #[iv v0_] [])) rfl ?_
 refine sI X0 hx y d22_0 rfl ?_
 refine sT X0 hx y d22_1 ((if0 _ _).trans (flt U0).1) ?_
 refine sI X0 hx y d22_4 rfl ?_
 refine oS (XS.sipush X0.here hx rfl (hb y d22_5)) ?_
 refine sU X0 hx y d22_8 (tlt U1).2.2.1 15 (by decide) ?_
 refine sC X0 hx y d22_15 ?_
 exact own_retN X0 hx (t := .boolean) hr (by simp) hl (hb y d22_16) (by decide) (by decide) (by rw [e0]; exact ⟨rfl, (Fr.nil n0), rfl⟩)


theorem rm21_29 (v0_ : Addr) (v1_ : Int32) (U0 : ¬ (v1_ < (0 : Int32))) (U1 : (255 : Int32) < v1_) :
  oM hw hS O0 l y21 cd21 (oR 1 0 0 12) #[.ref v0_, .int v1_, .int 0, .int 4] (fun v h L => (v = some (.int (-1)) ∧ Fr n0 L ∧ h = h0)) := by
 refine own_met (own := "java/lang/StringLatin1") (plainFor_of_name pn100) rfl ?_
 intro p e s m u mt c s₁ hx y hml ho hq hr hl hZ e0 X0
 refine own_cast (g' := (mkF m 0 #[rv v0_, iv v1_, iv 0, iv 4] [])) rfl ?_
 refine sI X0 hx y d21_0 rfl ?_
 refine oCS X0 hx hZ ho (oW hw 101 rfl) (bu101 hw) (rm22_28 hw hS O0 v1_ U0 U1) 0 (by decide) [.int v1_] rfl (lenOf pd102 rfl) hml rfl rfl rfl y d21_1 e0 ?_
 rintro _ T1 _ X1 ⟨rfl, N1q, e1⟩
 have N1 := Fr.app (Fr.nil n0) N1q
 refine sT X1 hx y d21_4 (by decide) ?_
 refine sC X1 hx y d21_7 ?_
 exact own_retI X1 hx hr hl (hb y d21_8) (by decide) (by decide) (by rw [e1]; exact ⟨rfl, N1, rfl⟩)


theorem rm20_30 (v0_ : Addr) (v1_ : Int32) (v2_ : Addr) (v3_ : ClassId) (U0 : Ga Z h0 v0_) (U1 : Fa Z h0 v0_ (.int 0)) (U2 : Fb Z h0 v0_ (.ref v2_)) (U3 : Arv Z h0 v2_ v3_ .byte 4 [(.int 61), (.int 43), (.int 45), (.int 64)] (.int 0)) (U4 : ¬ (v1_ < (0 : Int32))) (U5 : (255 : Int32) < v1_) :
  oM hw hS O0 l y20 cd20 (oR 2 0 0 28) #[.ref v0_, .int v1_, .int 0] (fun v h L => (v = some (.int (-1)) ∧ Fr n0 L ∧ h = h0)) := by
 refine own_met (own := "java/lang/String") (plainFor_of_name pn46) rfl ?_
 intro p e s m u mt c s₁ hx y hml ho hq hr hl hZ e0 X0
 refine own_cast (g' := (mkF m 0 #[rv v0_, iv v1_, iv 0] [])) rfl ?_
 refine sA X0 hx y d20_0 rfl rfl ?_
 refine oCV X0 hx hZ ho (oW hw 69 rfl) (bu71 hw) U0 (rm15_25 hw hS O0 v0_ U1) 0 (by decide) [] rfl (lenOf pd59 rfl) hml rfl rfl rfl y d20_1 e0 ?_
 rintro _ T1 _ X1 ⟨rfl, N1q, e1⟩
 have N1 := Fr.app (Fr.nil n0) N1q
 refine sT X1 hx y d20_4 (by decide) ?_
 refine sA X1 hx y d20_7 rfl rfl ?_
 refine sg X1 hx hZ ho (oW hw 40 rfl) e1 U2 y d20_8 fun T2 X2 e2 => ?_
 refine sI X2 hx y d20_11 rfl ?_
 refine sI X2 hx y d20_12 rfl ?_
 refine sA X2 hx y d20_13 rfl rfl ?_
 refine oCV X2 hx hZ ho (oW hw 97 rfl) (bu66 hw) U0 (rm12_27 hw hS O0 v0_ v2_ v3_ U0 U1 U2 U3) 3 (by decide) [] rfl (lenOf pd67 rfl) hml rfl rfl rfl y d20_14 e2 ?_
 rintro _ T3 _ X3 ⟨rfl, N3q, e3⟩
 have N3 := Fr.app N1 N3q
 refine oCS X3 hx hZ ho (oW hw 98 rfl) (bu104 hw) (rm21_29 hw hS O0 v2_ v1_ U4 U5) 0 (by decide) [.ref v2_, .int v1_, .int 0, .int 4] rfl (lenOf pd105 rfl) hml rfl rfl rfl y d20_17 e3 ?_
 rintro _ T4 _ X4 ⟨rfl, N4q, e4⟩
 have N4 := Fr.app N3 N4q
 refine sR X4 hx y d20_20 36 (by decide) ?_
 exact own_retI X4 hx hr hl (hb y d20_36) (by decide) (by decide) (by rw [e4]; exact ⟨rfl, N4, rfl⟩)


theorem rm19_31 (v0_ : Addr) (v1_ : Int32) (v2_ : Addr) (v3_ : ClassId) (U0 : Ga Z h0 v0_) (U1 : Fa Z h0 v0_ (.int 0)) (U2 : Fb Z h0 v0_ (.ref v2_)) (U3 : Arv Z h0 v2_ v3_ .byte 4 [(.int 61), (.int 43), (.int 45), (.int 64)] (.int 0)) (U4 : ¬ (v1_ < (0 : Int32))) (U5 : (255 : Int32) < v1_) :
  oM hw hS O0 l y19 cd19 (oR 3 0 0 42) #[.ref v0_, .int v1_] (fun v h L => (v = some (.int (-1)) ∧ Fr n0 L ∧ h = h0)) := by
 refine own_met (own := "java/lang/String") (plainFor_of_name pn46) rfl ?_
 intro p e s m u mt c s₁ hx y hml ho hq hr hl hZ e0 X0
 refine own_cast (g' := (mkF m 0 #[rv v0_, iv v1_] [])) rfl ?_
 refine sA X0 hx y d19_0 rfl rfl ?_
 refine sI X0 hx y d19_1 rfl ?_
 refine sC X0 hx y d19_2 ?_
 refine oCV X0 hx hZ ho (oW hw 92 rfl) (bu107 hw) U0 (rm20_30 hw hS O0 v0_ v1_ v2_ v3_ U0 U1 U2 U3 U4 U5) 0 (by decide) [.int v1_, .int 0] rfl (lenOf pd108 rfl) hml rfl rfl rfl y d19_3 e0 ?_
 rintro _ T1 _ X1 ⟨rfl, N1q, e1⟩
 have N1 := Fr.app (Fr.nil n0) N1q
 exact own_retI X1 hx hr hl (hb y d19_6) (by decide) (by decide) (by rw [e1]; exact ⟨rfl, N1, rfl⟩)


theorem rm10_32 (v0_ v1_ v2_ : Addr) (v3_ : Int32) (v4_ : ClassId) (U0 : Ga Z h0 v0_) (U1 : Fa Z h0 v0_ (.int 1)) (U2 : Fb Z h0 v0_ (.ref v2_)) (U3 : Arv Z h0 v2_ v4_ .byte 2 [(.int (oLo v3_)), (.int (oHi v3_))] (.int 0)) (U4 : nar .char v3_ = v3_) (U5 : ¬ (v3_ < (0 : Int32))) (U6 : ¬ ((65535 : Int32) < v3_)) (U7 : ¬ (v3_ < (32 : Int32))) (U8 : ¬ (v3_ = (127 : Int32))) (U9 : (255 : Int32) < v3_) :
  oMH hw hS O0 l y10 cd10 (oR 5 2 20 66) #[.ref v0_, .ref v1_] (fun v h L => (v = some (.ref v0_) ∧ Fr n0 L ∧ Keep h0 h [])) := by
 refine own_metH (own := "com/example/linepack/linepack/Values") (plainFor_of_name pn112) rfl ?_
 intro p e s m u mt c s₁ hx y hml ho hq hr hl hZ e0 X0 hS0 H0
 refine own_cast (g' := (mkF m 0 #[rv v0_, rv v1_, .unset, .unset] [])) rfl ?_
 refine sA X0 hx y d10_0 rfl rfl ?_
 refine oCV X0 hx hZ ho (oW hw 49 rfl) (bu58 hw) U0 (rm11_14 hw hS O0 v0_ v2_ v3_ v4_ U2 U3) 0 (by decide) [] rfl (lenOf pd59 rfl) hml rfl rfl rfl y d10_1 e0 ?_
 rintro _ T1 _ X1 ⟨rfl, N1q, e1⟩
 have N1 := Fr.app (Fr.nil n0) N1q
 refine sS X1 hx y d10_4 (by decide) 21 (by decide) ?_
 refine sC X1 hx y d10_21 ?_
 refine sN X1 hx y d10_22 #[rv v0_, rv v1_, iv 0, .unset] rfl ?_
 refine sI X1 hx y d10_23 rfl ?_
 refine sA X1 hx y d10_24 rfl rfl ?_
 refine oCV X1 hx hZ ho (oW hw 54 rfl) (bu66 hw) U0 (rm12_16 hw hS O0 v0_ v2_ v3_ v4_ U0 U1 U2 U3) 1 (by decide) [] rfl (lenOf pd67 rfl) hml rfl rfl rfl y d10_25 e1 ?_
 rintro _ T2 _ X2 ⟨rfl, N2q, e2⟩
 have N2 := Fr.app N1 N2q
 refine sV X2 hx y d10_28 (by decide) ?_
 refine sA X2 hx y d10_31 rfl rfl ?_
 refine sI X2 hx y d10_32 rfl ?_
 refine oCV X2 hx hZ ho (oW hw 64 rfl) (bu93 hw) U0 (rm14_24 hw hS O0 v0_ v2_ v3_ v4_ U0 U1 U2 U3 U4 U5 U6) 0 (by decide) [.int 0] rfl (lenOf pd94 rfl) hml rfl rfl rfl y d10_33 e2 ?_
 rintro _ T3 _ X3 ⟨rfl, N3q, e3⟩
 have N3 := Fr.app N2 N3q
 refine sN X3 hx y d10_36 #[rv v0_, rv v1_, iv 0, iv v3_] rfl ?_
 refine sI X3 hx y d10_37 rfl ?_
 refine sD X3 hx y d10_38 ?_
 refine sV X3 hx y d10_40 (flt U7).1 ?_
 refine sI X3 hx y d10_43 rfl ?_
 refine sD X3 hx y d10_44 ?_
 refine sU X3 hx y d10_46 (feq U8).2 63 (by decide) ?_
 refine sY X3 hx y d10_63 #[rv v0_, rv v1_, iv ((0 : Int32) + (1 : Int32)), iv v3_] rfl rfl ?_
 rw [(by decide : ((0 : Int32) + (1 : Int32)) = (1 : Int32))]
 refine sR X3 hx y d10_66 23 (by decide) ?_
 refine sI X3 hx y d10_23 rfl ?_
 refine sA X3 hx y d10_24 rfl rfl ?_
 refine oCV X3 hx hZ ho (oW hw 54 rfl) (bu66 hw) U0 (rm12_16 hw hS O0 v0_ v2_ v3_ v4_ U0 U1 U2 U3) 1 (by decide) [] rfl (lenOf pd67 rfl) hml rfl rfl rfl y d10_25 e3 ?_
 rintro _ T4 _ X4 ⟨rfl, N4q, e4⟩
 have N4 := Fr.app N3 N4q
 refine sU X4 hx y d10_28 (by decide) 69 (by decide) ?_
 refine sA X4 hx y d10_69 rfl rfl ?_
 refine sC X4 hx y d10_70 ?_
 refine oCV X4 hx hZ ho (oW hw 64 rfl) (bu93 hw) U0 (rm14_24 hw hS O0 v0_ v2_ v3_ v4_ U0 U1 U2 U3 U4 U5 U6) 0 (by decide) [.int 0] rfl (lenOf pd94 rfl) hml rfl rfl rfl y d10_71 e4 ?_
 rintro _ T5 _ X5 ⟨rfl, N5q, e5⟩
 have N5 := Fr.app N4 N5q
 refine sN X5 hx y d10_74 #[rv v0_, rv v1_, iv v3_, iv v3_] rfl ?_
 obtain ⟨b6, T6, h6, k6, d6, kd6, X6, e6, E6, hS6, hk6, hZ6, hown6, Ea6, Fc6, Fv6, V6, -, -, hC6, -, hne6, st6⟩ := ldcCH X5 hx hZ ho (oW hw 86 rfl) (fun d hd => hw d (own_satoms d hd)) e5 hS0 (Nat.zero_le _) (own_EW hw) (by decide) (CHr.refl H0).1 (vs := [(.int 61), (.int 43), (.int 45), (.int 64)]) (z := (4 : Int32)) ⟨by decide, by decide⟩ (by decide) rfl (g := (mkF m 75 #[rv v0_, rv v1_, iv v3_, iv v3_] [])) rfl (hb y d10_75) (n := 16) (by decide) (by decide) (by decide) (by decide)
 refine own_step st6 ?_
 have O6 := O0.ext E6
 have K6 := (Keep.refl h0 []).ext E6
 have R6 := CHr.trans (CHr.refl H0) hC6
 refine sI X6 hx y d10_77 rfl ?_
 refine oCV X6 hx hZ6 hown6 (oW hw 87 rfl) (bu110 hw) Ea6 (rm19_31 hw hS O6 b6 v3_ d6 kd6 Ea6 Fc6 Fv6 V6 U5 U9) 0 (by decide) [.int v3_] rfl (lenOf pd22 rfl) hml rfl rfl rfl y d10_78 e6 ?_
 rintro _ T7 _ X7 ⟨rfl, N7q, e7⟩
 have N7 := Fr.app N5 N7q
 refine sS X7 hx y d10_81 (by decide) 99 (by decide) ?_
 refine sA X7 hx y d10_99 rfl rfl ?_
 exact own_retAH X7 hS6 (by rw [e7]; exact hk6) hZ6 (own_EW hw) (by rw [e7]; exact R6) hx hr rfl rfl hl (hb y d10_100) (by decide) (by decide) (by rw [e7]; exact ⟨rfl, N7, K6⟩)


theorem rm26_33 (v0_ : Addr) :
  oM hw hS O0 l y26 cd26 (oR 0 0 0 0) #[.ref v0_, .ref v0_] (fun v h L => (v = some (.int 1) ∧ Fr n0 L ∧ h = h0)) := by
 refine own_met (own := "java/lang/String") (plainFor_of_name pn46) rfl ?_
 intro p e s m u mt c s₁ hx y hml ho hq hr hl hZ e0 X0
 refine own_cast (g' := (mkF m 0 #[rv v0_, rv v0_, .unset] [])) rfl ?_
 refine sA X0 hx y d26_0 rfl rfl ?_
 refine sA X0 hx y d26_1 rfl rfl ?_
 refine own_step (fun _ k => Jvm.RoadKit.acmp (g := (mkF m 2 #[rv v0_, rv v0_, .unset] [.ref v0_, .ref v0_])) X0 hx rfl rfl rfl (pc0 := 2) (pc' := 5) (same := true) rfl (hb y d26_2) rfl (decide_eq_true rfl) (by decide) (by decide) k) ?_
 refine sC X0 hx y d26_5 ?_
 exact own_retN X0 hx (t := .boolean) hr (by simp) hl (hb y d26_6) (by decide) (by decide) (by rw [e0]; exact ⟨rfl, (Fr.nil n0), rfl⟩)


theorem rm11_34 (v0_ v1_ : Addr) (v2_ : Int32) (v3_ : ClassId) (U0 : Fb Z h0 v0_ (.ref v1_)) (U1 : Arv Z h0 v1_ v3_ .byte 1 [(.int (oBy v2_))] (.int 0)) :
  oM hw hS O0 l y11 cd11 (oR 0 0 0 0) #[.ref v0_] (fun v h L => (v = some (.int 0) ∧ Fr n0 L ∧ h = h0)) := by
 refine own_met (own := "java/lang/String") (plainFor_of_name pn46) rfl ?_
 intro p e s m u mt c s₁ hx y hml ho hq hr hl hZ e0 X0
 refine own_cast (g' := (mkF m 0 #[rv v0_] [])) rfl ?_
 refine sA X0 hx y d11_0 rfl rfl ?_
 refine sg X0 hx hZ ho (oW hw 40 rfl) e0 U0 y d11_1 fun T1 X1 e1 => ?_
 refine sa X1 hx hZ e1 U1 y d11_4 ?_
 refine sS X1 hx y d11_5 (by decide) 12 (by decide) ?_
 refine sC X1 hx y d11_12 ?_
 exact own_retN X1 hx (t := .boolean) hr (by simp) hl (hb y d11_13) (by decide) (by decide) (by rw [e1]; exact ⟨rfl, (Fr.nil n0), rfl⟩)


theorem rm12_35 (v0_ v1_ : Addr) (v2_ : Int32) (v3_ : ClassId) (U0 : Ga Z h0 v0_) (U1 : Fa Z h0 v0_ (.int 0)) (U2 : Fb Z h0 v0_ (.ref v1_)) (U3 : Arv Z h0 v1_ v3_ .byte 1 [(.int (oBy v2_))] (.int 0)) :
  oM hw hS O0 l y12 cd12 (oR 1 0 0 13) #[.ref v0_] (fun v h L => (v = some (.int 1) ∧ Fr n0 L ∧ h = h0)) := by
 refine own_met (own := "java/lang/String") (plainFor_of_name pn46) rfl ?_
 intro p e s m u mt c s₁ hx y hml ho hq hr hl hZ e0 X0
 refine own_cast (g' := (mkF m 0 #[rv v0_] [])) rfl ?_
 refine sA X0 hx y d12_0 rfl rfl ?_
 refine sg X0 hx hZ ho (oW hw 40 rfl) e0 U2 y d12_1 fun T1 X1 e1 => ?_
 refine sa X1 hx hZ e1 U3 y d12_4 ?_
 refine sA X1 hx y d12_5 rfl rfl ?_
 refine oCV X1 hx hZ ho (oW hw 59 rfl) (bu63 hw) U0 (rm13_26 hw hS O0 v0_ U1) 1 (by decide) [] rfl (lenOf pd64 rfl) hml rfl rfl rfl y d12_6 e1 ?_
 rintro _ T3 _ X3 ⟨rfl, N3q, e3⟩
 have N3 := Fr.app (Fr.nil n0) N3q
 refine sM X3 hx y d12_9 ?_
 refine oV (b := 1) (by decide) ?_
 exact own_retI X3 hx hr hl (hb y d12_10) (by decide) (by decide) (by rw [e3]; exact ⟨rfl, N3, rfl⟩)


theorem rm16_36 (v0_ : Addr) (v1_ : Int32) (v2_ : ClassId) (U0 : Arv Z h0 v0_ v2_ .byte 1 [(.int (oBy v1_))] (.int 0)) (U1 : nar .char v1_ = v1_) (U2 : ¬ (v1_ < (0 : Int32))) (U3 : ¬ ((255 : Int32) < v1_)) :
  oM hw hS O0 l y16 cd16 (oR 2 0 0 27) #[.ref v0_, .int 0] (fun v h L => (v = some (.int v1_) ∧ Fr n0 L ∧ h = h0)) := by
 refine own_met (own := "java/lang/StringLatin1") (plainFor_of_name pn100) rfl ?_
 intro p e s m u mt c s₁ hx y hml ho hq hr hl hZ e0 X0
 refine own_cast (g' := (mkF m 0 #[rv v0_, iv 0] [])) rfl ?_
 refine sI X0 hx y d16_0 rfl ?_
 refine sA X0 hx y d16_1 rfl rfl ?_
 refine sa X0 hx hZ e0 U0 y d16_2 ?_
 refine oCS X0 hx hZ ho (oW hw 78 rfl) (bu85 hw) (rm17_21 hw hS O0) 0 (by decide) [.int 0, .int 1] rfl (lenOf pd86 rfl) hml rfl rfl rfl y d16_3 e0 ?_
 rintro _ T2 _ X2 ⟨rfl, N2q, e2⟩
 have N2 := Fr.app (Fr.nil n0) N2q
 refine sA X2 hx y d16_6 rfl rfl ?_
 refine sI X2 hx y d16_7 rfl ?_
 obtain ⟨c3, r3, q3, t3, u3, y3h, y3g⟩ := id U0
 have i3 : ¬ ((0 : Int32) < 0 ∨ c3.slots.size ≤ ((0 : Int32)).toNatClampNeg) := inb_of t3 ⟨by decide, by decide⟩
 refine own_step (fun _ k => X2.baloadBytes hx (j := (0 : Int32)) (v := (.int (oBy v1_))) (by rw [e2]; exact r3.1) (State.isArrayOf_alike hZ.alike r3.2.1) r3.2.2 i3 (own_get t3 y3h i3 0 rfl) (g := (mkF m 8 #[rv v0_, iv 0] [.int 0, .ref v0_])) rfl rfl (hb y d16_8) _ k) ?_
 refine oS (XS.sipush X2.here hx rfl (hb y d16_9)) ?_
 refine oS (XS.iand X2.here hx rfl (hb y d16_12) rfl) ?_
 refine oS (XS.i2c X2.here hx rfl (hb y d16_13) rfl) ?_
 show own_Wp p e u _ T2 (mkF m 14 #[rv v0_, iv 0] [.int (((oBy v1_) &&& (255 : Int32)).toUInt32.toUInt16.toUInt32.toInt32)])
 rw [(own_b8 U2 U3 : (((oBy v1_) &&& (255 : Int32)).toUInt32.toUInt16.toUInt32.toInt32) = v1_)]
 exact own_retN X2 hx (t := .char) hr (by simp) hl (hb y d16_14) (by decide) (by decide) (by rw [U1, e2]; exact ⟨rfl, N2, rfl⟩)


theorem rm14_37 (v0_ v1_ : Addr) (v2_ : Int32) (v3_ : ClassId) (U0 : Ga Z h0 v0_) (U1 : Fa Z h0 v0_ (.int 0)) (U2 : Fb Z h0 v0_ (.ref v1_)) (U3 : Arv Z h0 v1_ v3_ .byte 1 [(.int (oBy v2_))] (.int 0)) (U4 : nar .char v2_ = v2_) (U5 : ¬ (v2_ < (0 : Int32))) (U6 : ¬ ((255 : Int32) < v2_)) :
  oM hw hS O0 l y14 cd14 (oR 3 0 0 40) #[.ref v0_, .int 0] (fun v h L => (v = some (.int v2_) ∧ Fr n0 L ∧ h = h0)) := by
 refine own_met (own := "java/lang/String") (plainFor_of_name pn46) rfl ?_
 intro p e s m u mt c s₁ hx y hml ho hq hr hl hZ e0 X0
 refine own_cast (g' := (mkF m 0 #[rv v0_, iv 0] [])) rfl ?_
 refine sA X0 hx y d14_0 rfl rfl ?_
 refine oCV X0 hx hZ ho (oW hw 69 rfl) (bu71 hw) U0 (rm15_25 hw hS O0 v0_ U1) 0 (by decide) [] rfl (lenOf pd59 rfl) hml rfl rfl rfl y d14_1 e0 ?_
 rintro _ T1 _ X1 ⟨rfl, N1q, e1⟩
 have N1 := Fr.app (Fr.nil n0) N1q
 refine sT X1 hx y d14_4 (by decide) ?_
 refine sA X1 hx y d14_7 rfl rfl ?_
 refine sg X1 hx hZ ho (oW hw 40 rfl) e1 U2 y d14_8 fun T2 X2 e2 => ?_
 refine sI X2 hx y d14_11 rfl ?_
 refine oCS X2 hx hZ ho (oW hw 74 rfl) (bu120 hw) (rm16_36 hw hS O0 v1_ v2_ v3_ U3 U4 U5 U6) 0 (by decide) [.ref v1_, .int 0] rfl (lenOf pd36 rfl) hml rfl rfl rfl y d14_12 e2 ?_
 rintro _ T3 _ X3 ⟨rfl, N3q, e3⟩
 have N3 := Fr.app N1 N3q
 exact own_retN X3 hx (t := .char) hr (by simp) hl (hb y d14_15) (by decide) (by decide) (by rw [U4, e3]; exact ⟨rfl, N3, rfl⟩)


theorem rm22_38 (v0_ : Int32) (U0 : ¬ (v0_ < (0 : Int32))) (U1 : ¬ ((255 : Int32) < v0_)) :
  oM hw hS O0 l y22 cd22 (oR 0 0 0 0) #[.int v0_] (fun v h L => (v = some (.int 1) ∧ Fr n0 L ∧ h = h0)) := by
 refine own_met (own := "java/lang/StringLatin1") (plainFor_of_name pn100) rfl ?_
 intro p e s m u mt c s₁ hx y hml ho hq hr hl hZ e0 X0
 refine own_cast (g' := (mkF m 0 #[iv v0_] [])) rfl ?_
 refine sI X0 hx y d22_0 rfl ?_
 refine sT X0 hx y d22_1 ((if0 _ _).trans (flt U0).1) ?_
 refine sI X0 hx y d22_4 rfl ?_
 refine oS (XS.sipush X0.here hx rfl (hb y d22_5)) ?_
 refine sV X0 hx y d22_8 (flt U1).2.2.1 ?_
 refine sC X0 hx y d22_11 ?_
 refine sR X0 hx y d22_12 16 (by decide) ?_
 exact own_retN X0 hx (t := .boolean) hr (by simp) hl (hb y d22_16) (by decide) (by decide) (by rw [e0]; exact ⟨rfl, (Fr.nil n0), rfl⟩)


theorem rm23_39  :
  oM hw hS O0 l y23 cd23 (oR 0 0 0 0) #[.int 0, .int 0] (fun v h L => (v = some (.int 0) ∧ Fr n0 L ∧ h = h0)) := by
 refine own_met (own := "java/lang/Math") (Jvm.Free.JP.mathPlain rfl (by decide +kernel)) rfl ?_
 intro p e s m u mt c s₁ hx y hml ho hq hr hl hZ e0 X0
 refine own_cast (g' := (mkF m 0 #[iv 0, iv 0] [])) rfl ?_
 refine sI X0 hx y d23_0 rfl ?_
 refine sI X0 hx y d23_1 rfl ?_
 refine sV X0 hx y d23_2 (by decide) ?_
 refine sI X0 hx y d23_5 rfl ?_
 refine sR X0 hx y d23_6 10 (by decide) ?_
 exact own_retI X0 hx hr hl (hb y d23_10) (by decide) (by decide) (by rw [e0]; exact ⟨rfl, (Fr.nil n0), rfl⟩)


theorem rm24_40  :
  oM hw hS O0 l y24 cd24 (oR 0 0 0 0) #[.int 4, .int 4] (fun v h L => (v = some (.int 4) ∧ Fr n0 L ∧ h = h0)) := by
 refine own_met (own := "java/lang/Math") (Jvm.Free.JP.mathPlain rfl (by decide +kernel)) rfl ?_
 intro p e s m u mt c s₁ hx y hml ho hq hr hl hZ e0 X0
 refine own_cast (g' := (mkF m 0 #[iv 4, iv 4] [])) rfl ?_
 refine sI X0 hx y d24_0 rfl ?_
 refine sI X0 hx y d24_1 rfl ?_
 refine sV X0 hx y d24_2 (by decide) ?_
 refine sI X0 hx y d24_5 rfl ?_
 refine sR X0 hx y d24_6 10 (by decide) ?_
 exact own_retI X0 hx hr hl (hb y d24_10) (by decide) (by decide) (by rw [e0]; exact ⟨rfl, (Fr.nil n0), rfl⟩)


theorem rm25_41 (v0_ : Addr) (v1_ : Int32) (v2_ : ClassId) (U0 : Arv Z h0 v0_ v2_ .byte 4 [(.int 61), (.int 43), (.int 45), (.int 64)] (.int 0)) (U1 : ¬ (v1_ < (0 : Int32))) (U2 : ¬ (v1_ = (61 : Int32))) (U3 : ¬ (v1_ = (43 : Int32))) (U4 : ¬ (v1_ = (45 : Int32))) (U5 : ¬ (v1_ = (64 : Int32))) (U6 : ¬ ((255 : Int32) < v1_)) :
  oM hw hS O0 l y25 cd25 (oR 0 0 0 0) #[.ref v0_, .int v1_, .int 0, .int 4] (fun v h L => (v = some (.int (-1)) ∧ Fr n0 L ∧ h = h0)) := by
 refine own_met (own := "java/lang/StringLatin1") (plainFor_of_name pn100) rfl ?_
 intro p e s m u mt c s₁ hx y hml ho hq hr hl hZ e0 X0
 refine own_cast (g' := (mkF m 0 #[rv v0_, iv v1_, iv 0, iv 4, .unset, .unset] [])) rfl ?_
 refine sI X0 hx y d25_0 rfl ?_
 refine oS (XS.i2b X0.here hx rfl (hb y d25_1) rfl) ?_
 refine sO X0 hx y d25_2 #[rv v0_, iv v1_, iv 0, iv 4, iv (v1_.toInt8.toInt32), .unset] rfl ?_
 refine sI X0 hx y d25_4 rfl ?_
 refine sO X0 hx y d25_5 #[rv v0_, iv v1_, iv 0, iv 4, iv (v1_.toInt8.toInt32), iv 0] rfl ?_
 refine sJ X0 hx y d25_7 rfl ?_
 refine sI X0 hx y d25_9 rfl ?_
 refine sV X0 hx y d25_10 (by decide) ?_
 refine sA X0 hx y d25_13 rfl rfl ?_
 refine sJ X0 hx y d25_14 rfl ?_
 obtain ⟨c1, r1, q1, t1, u1, y1h, y1g⟩ := id U0
 have i1 : ¬ ((0 : Int32) < 0 ∨ c1.slots.size ≤ ((0 : Int32)).toNatClampNeg) := inb_of t1 ⟨by decide, by decide⟩
 refine own_step (fun _ k => X0.baloadBytes hx (j := (0 : Int32)) (v := (.int 61)) (by rw [e0]; exact r1.1) (State.isArrayOf_alike hZ.alike r1.2.1) r1.2.2 i1 (own_get t1 y1h i1 0 rfl) (g := (mkF m 16 #[rv v0_, iv v1_, iv 0, iv 4, iv (v1_.toInt8.toInt32), iv 0] [.int 0, .ref v0_])) rfl rfl (hb y d25_16) _ k) ?_
 refine sJ X0 hx y d25_17 rfl ?_
 refine sU X0 hx y d25_19 (feq (own_i8 (61 : Int32) (by decide) U1 U6 U2)).2 25 (by decide) ?_
 refine sY X0 hx y d25_25 #[rv v0_, iv v1_, iv 0, iv 4, iv (v1_.toInt8.toInt32), iv ((0 : Int32) + (1 : Int32))] rfl rfl ?_
 rw [(by decide : ((0 : Int32) + (1 : Int32)) = (1 : Int32))]
 refine sR X0 hx y d25_28 7 (by decide) ?_
 refine sJ X0 hx y d25_7 rfl ?_
 refine sI X0 hx y d25_9 rfl ?_
 refine sV X0 hx y d25_10 (by decide) ?_
 refine sA X0 hx y d25_13 rfl rfl ?_
 refine sJ X0 hx y d25_14 rfl ?_
 obtain ⟨c2, r2, q2, t2, u2, y2h, y2g⟩ := id U0
 have i2 : ¬ ((1 : Int32) < 0 ∨ c2.slots.size ≤ ((1 : Int32)).toNatClampNeg) := inb_of t2 ⟨by decide, by decide⟩
 refine own_step (fun _ k => X0.baloadBytes hx (j := (1 : Int32)) (v := (.int 43)) (by rw [e0]; exact r2.1) (State.isArrayOf_alike hZ.alike r2.2.1) r2.2.2 i2 (own_get t2 y2h i2 1 rfl) (g := (mkF m 16 #[rv v0_, iv v1_, iv 0, iv 4, iv (v1_.toInt8.toInt32), iv 1] [.int 1, .ref v0_])) rfl rfl (hb y d25_16) _ k) ?_
 refine sJ X0 hx y d25_17 rfl ?_
 refine sU X0 hx y d25_19 (feq (own_i8 (43 : Int32) (by decide) U1 U6 U3)).2 25 (by decide) ?_
 refine sY X0 hx y d25_25 #[rv v0_, iv v1_, iv 0, iv 4, iv (v1_.toInt8.toInt32), iv ((1 : Int32) + (1 : Int32))] rfl rfl ?_
 rw [(by decide : ((1 : Int32) + (1 : Int32)) = (2 : Int32))]
 refine sR X0 hx y d25_28 7 (by decide) ?_
 refine sJ X0 hx y d25_7 rfl ?_
 refine sI X0 hx y d25_9 rfl ?_
 refine sV X0 hx y d25_10 (by decide) ?_
 refine sA X0 hx y d25_13 rfl rfl ?_
 refine sJ X0 hx y d25_14 rfl ?_
 obtain ⟨c3, r3, q3, t3, u3, y3h, y3g⟩ := id U0
 have i3 : ¬ ((2 : Int32) < 0 ∨ c3.slots.size ≤ ((2 : Int32)).toNatClampNeg) := inb_of t3 ⟨by decide, by decide⟩
 refine own_step (fun _ k => X0.baloadBytes hx (j := (2 : Int32)) (v := (.int 45)) (by rw [e0]; exact r3.1) (State.isArrayOf_alike hZ.alike r3.2.1) r3.2.2 i3 (own_get t3 y3h i3 2 rfl) (g := (mkF m 16 #[rv v0_, iv v1_, iv 0, iv 4, iv (v1_.toInt8.toInt32), iv 2] [.int 2, .ref v0_])) rfl rfl (hb y d25_16) _ k) ?_
 refine sJ X0 hx y d25_17 rfl ?_
 refine sU X0 hx y d25_19 (feq (own_i8 (45 : Int32) (by decide) U1 U6 U4)).2 25 (by decide) ?_
 refine sY X0 hx y d25_25 #[rv v0_, iv v1_, iv 0, iv 4, iv (v1_.toInt8.toInt32), iv ((2 : Int32) + (1 : Int32))] rfl rfl ?_
 rw [(by decide : ((2 : Int32) + (1 : Int32)) = (3 : Int32))]
 refine sR X0 hx y d25_28 7 (by decide) ?_
 refine sJ X0 hx y d25_7 rfl ?_
 refine sI X0 hx y d25_9 rfl ?_
 refine sV X0 hx y d25_10 (by decide) ?_
 refine sA X0 hx y d25_13 rfl rfl ?_
 refine sJ X0 hx y d25_14 rfl ?_
 obtain ⟨c4, r4, q4, t4, u4, y4h, y4g⟩ := id U0
 have i4 : ¬ ((3 : Int32) < 0 ∨ c4.slots.size ≤ ((3 : Int32)).toNatClampNeg) := inb_of t4 ⟨by decide, by decide⟩
 refine own_step (fun _ k => X0.baloadBytes hx (j := (3 : Int32)) (v := (.int 64)) (by rw [e0]; exact r4.1) (State.isArrayOf_alike hZ.alike r4.2.1) r4.2.2 i4 (own_get t4 y4h i4 3 rfl) (g := (mkF m 16 #[rv v0_, iv v1_, iv 0, iv 4, iv (v1_.toInt8.toInt32), iv 3] [.int 3, .ref v0_])) rfl rfl (hb y d25_16) _ k) ?_
 refine sJ X0 hx y d25_17 rfl ?_
 refine sU X0 hx y d25_19 (feq (own_i8 (64 : Int32) (by decide) U1 U6 U5)).2 25 (by decide) ?_
 refine sY X0 hx y d25_25 #[rv v0_, iv v1_, iv 0, iv 4, iv (v1_.toInt8.toInt32), iv ((3 : Int32) + (1 : Int32))] rfl rfl ?_
 rw [(by decide : ((3 : Int32) + (1 : Int32)) = (4 : Int32))]
 refine sR X0 hx y d25_28 7 (by decide) ?_
 refine sJ X0 hx y d25_7 rfl ?_
 refine sI X0 hx y d25_9 rfl ?_
 refine sU X0 hx y d25_10 (by decide) 31 (by decide) ?_
 refine sC X0 hx y d25_31 ?_
 exact own_retI X0 hx hr hl (hb y d25_32) (by decide) (by decide) (by rw [e0]; exact ⟨rfl, (Fr.nil n0), rfl⟩)


theorem rm21_42 (v0_ : Addr) (v1_ : Int32) (v2_ : ClassId) (U0 : Arv Z h0 v0_ v2_ .byte 4 [(.int 61), (.int 43), (.int 45), (.int 64)] (.int 0)) (U1 : ¬ (v1_ < (0 : Int32))) (U2 : ¬ (v1_ = (61 : Int32))) (U3 : ¬ (v1_ = (43 : Int32))) (U4 : ¬ (v1_ = (45 : Int32))) (U5 : ¬ (v1_ = (64 : Int32))) (U6 : ¬ ((255 : Int32) < v1_)) :
  oM hw hS O0 l y21 cd21 (oR 1 0 0 17) #[.ref v0_, .int v1_, .int 0, .int 4] (fun v h L => (v = some (.int (-1)) ∧ Fr n0 L ∧ h = h0)) := by
 refine own_met (own := "java/lang/StringLatin1") (plainFor_of_name pn100) rfl ?_
 intro p e s m u mt c s₁ hx y hml ho hq hr hl hZ e0 X0
 refine own_cast (g' := (mkF m 0 #[rv v0_, iv v1_, iv 0, iv 4] [])) rfl ?_
 refine sI X0 hx y d21_0 rfl ?_
 refine oCS X0 hx hZ ho (oW hw 101 rfl) (bu101 hw) (rm22_38 hw hS O0 v1_ U1 U6) 0 (by decide) [.int v1_] rfl (lenOf pd102 rfl) hml rfl rfl rfl y d21_1 e0 ?_
 rintro _ T1 _ X1 ⟨rfl, N1q, e1⟩
 have N1 := Fr.app (Fr.nil n0) N1q
 refine sS X1 hx y d21_4 (by decide) 9 (by decide) ?_
 refine sI X1 hx y d21_9 rfl ?_
 refine sC X1 hx y d21_10 ?_
 refine oCS X1 hx hZ ho (oW hw 104 rfl) (bu123 hw) (rm23_39 hw hS O0) 0 (by decide) [.int 0, .int 0] rfl (lenOf pd108 rfl) hml rfl rfl rfl y d21_11 e1 ?_
 rintro _ T2 _ X2 ⟨rfl, N2q, e2⟩
 have N2 := Fr.app N1 N2q
 refine sN X2 hx y d21_14 #[rv v0_, iv v1_, iv 0, iv 4] rfl ?_
 refine sI X2 hx y d21_15 rfl ?_
 refine sA X2 hx y d21_16 rfl rfl ?_
 refine sa X2 hx hZ e2 U0 y d21_17 ?_
 refine oCS X2 hx hZ ho (oW hw 108 rfl) (bu126 hw) (rm24_40 hw hS O0) 0 (by decide) [.int 4, .int 4] rfl (lenOf pd108 rfl) hml rfl rfl rfl y d21_18 e2 ?_
 rintro _ T4 _ X4 ⟨rfl, N4q, e4⟩
 have N4 := Fr.app N2 N4q
 refine sN X4 hx y d21_21 #[rv v0_, iv v1_, iv 0, iv 4] rfl ?_
 refine sI X4 hx y d21_22 rfl ?_
 refine sI X4 hx y d21_23 rfl ?_
 refine sU X4 hx y d21_24 (by decide) 29 (by decide) ?_
 refine sA X4 hx y d21_29 rfl rfl ?_
 refine sI X4 hx y d21_30 rfl ?_
 refine sI X4 hx y d21_31 rfl ?_
 refine sI X4 hx y d21_32 rfl ?_
 refine oCS X4 hx hZ ho (oW hw 111 rfl) (bu129 hw) (rm25_41 hw hS O0 v0_ v1_ v2_ U0 U1 U2 U3 U4 U5 U6) 0 (by decide) [.ref v0_, .int v1_, .int 0, .int 4] rfl (lenOf pd105 rfl) hml rfl rfl rfl y d21_33 e4 ?_
 rintro _ T5 _ X5 ⟨rfl, N5q, e5⟩
 have N5 := Fr.app N4 N5q
 exact own_retI X5 hx hr hl (hb y d21_36) (by decide) (by decide) (by rw [e5]; exact ⟨rfl, N5, rfl⟩)


theorem rm20_43 (v0_ : Addr) (v1_ : Int32) (v2_ : Addr) (v3_ : ClassId) (U0 : Ga Z h0 v0_) (U1 : Fa Z h0 v0_ (.int 0)) (U2 : Fb Z h0 v0_ (.ref v2_)) (U3 : Arv Z h0 v2_ v3_ .byte 4 [(.int 61), (.int 43), (.int 45), (.int 64)] (.int 0)) (U4 : ¬ (v1_ < (0 : Int32))) (U5 : ¬ (v1_ = (61 : Int32))) (U6 : ¬ (v1_ = (43 : Int32))) (U7 : ¬ (v1_ = (45 : Int32))) (U8 : ¬ (v1_ = (64 : Int32))) (U9 : ¬ ((255 : Int32) < v1_)) :
  oM hw hS O0 l y20 cd20 (oR 2 0 0 32) #[.ref v0_, .int v1_, .int 0] (fun v h L => (v = some (.int (-1)) ∧ Fr n0 L ∧ h = h0)) := by
 refine own_met (own := "java/lang/String") (plainFor_of_name pn46) rfl ?_
 intro p e s m u mt c s₁ hx y hml ho hq hr hl hZ e0 X0
 refine own_cast (g' := (mkF m 0 #[rv v0_, iv v1_, iv 0] [])) rfl ?_
 refine sA X0 hx y d20_0 rfl rfl ?_
 refine oCV X0 hx hZ ho (oW hw 69 rfl) (bu71 hw) U0 (rm15_25 hw hS O0 v0_ U1) 0 (by decide) [] rfl (lenOf pd59 rfl) hml rfl rfl rfl y d20_1 e0 ?_
 rintro _ T1 _ X1 ⟨rfl, N1q, e1⟩
 have N1 := Fr.app (Fr.nil n0) N1q
 refine sT X1 hx y d20_4 (by decide) ?_
 refine sA X1 hx y d20_7 rfl rfl ?_
 refine sg X1 hx hZ ho (oW hw 40 rfl) e1 U2 y d20_8 fun T2 X2 e2 => ?_
 refine sI X2 hx y d20_11 rfl ?_
 refine sI X2 hx y d20_12 rfl ?_
 refine sA X2 hx y d20_13 rfl rfl ?_
 refine oCV X2 hx hZ ho (oW hw 97 rfl) (bu66 hw) U0 (rm12_27 hw hS O0 v0_ v2_ v3_ U0 U1 U2 U3) 3 (by decide) [] rfl (lenOf pd67 rfl) hml rfl rfl rfl y d20_14 e2 ?_
 rintro _ T3 _ X3 ⟨rfl, N3q, e3⟩
 have N3 := Fr.app N1 N3q
 refine oCS X3 hx hZ ho (oW hw 98 rfl) (bu104 hw) (rm21_42 hw hS O0 v2_ v1_ v3_ U3 U4 U5 U6 U7 U8 U9) 0 (by decide) [.ref v2_, .int v1_, .int 0, .int 4] rfl (lenOf pd105 rfl) hml rfl rfl rfl y d20_17 e3 ?_
 rintro _ T4 _ X4 ⟨rfl, N4q, e4⟩
 have N4 := Fr.app N3 N4q
 refine sR X4 hx y d20_20 36 (by decide) ?_
 exact own_retI X4 hx hr hl (hb y d20_36) (by decide) (by decide) (by rw [e4]; exact ⟨rfl, N4, rfl⟩)


theorem rm19_44 (v0_ : Addr) (v1_ : Int32) (v2_ : Addr) (v3_ : ClassId) (U0 : Ga Z h0 v0_) (U1 : Fa Z h0 v0_ (.int 0)) (U2 : Fb Z h0 v0_ (.ref v2_)) (U3 : Arv Z h0 v2_ v3_ .byte 4 [(.int 61), (.int 43), (.int 45), (.int 64)] (.int 0)) (U4 : ¬ (v1_ < (0 : Int32))) (U5 : ¬ (v1_ = (61 : Int32))) (U6 : ¬ (v1_ = (43 : Int32))) (U7 : ¬ (v1_ = (45 : Int32))) (U8 : ¬ (v1_ = (64 : Int32))) (U9 : ¬ ((255 : Int32) < v1_)) :
  oM hw hS O0 l y19 cd19 (oR 3 0 0 46) #[.ref v0_, .int v1_] (fun v h L => (v = some (.int (-1)) ∧ Fr n0 L ∧ h = h0)) := by
 refine own_met (own := "java/lang/String") (plainFor_of_name pn46) rfl ?_
 intro p e s m u mt c s₁ hx y hml ho hq hr hl hZ e0 X0
 refine own_cast (g' := (mkF m 0 #[rv v0_, iv v1_] [])) rfl ?_
 refine sA X0 hx y d19_0 rfl rfl ?_
 refine sI X0 hx y d19_1 rfl ?_
 refine sC X0 hx y d19_2 ?_
 refine oCV X0 hx hZ ho (oW hw 92 rfl) (bu107 hw) U0 (rm20_43 hw hS O0 v0_ v1_ v2_ v3_ U0 U1 U2 U3 U4 U5 U6 U7 U8 U9) 0 (by decide) [.int v1_, .int 0] rfl (lenOf pd108 rfl) hml rfl rfl rfl y d19_3 e0 ?_
 rintro _ T1 _ X1 ⟨rfl, N1q, e1⟩
 have N1 := Fr.app (Fr.nil n0) N1q
 exact own_retI X1 hx hr hl (hb y d19_6) (by decide) (by decide) (by rw [e1]; exact ⟨rfl, N1, rfl⟩)


theorem rm10_45 (v0_ v1_ v2_ : Addr) (v3_ : Int32) (v4_ : ClassId) (U0 : Ga Z h0 v0_) (U1 : Fa Z h0 v0_ (.int 0)) (U2 : Fb Z h0 v0_ (.ref v2_)) (U3 : Arv Z h0 v2_ v4_ .byte 1 [(.int (oBy v3_))] (.int 0)) (U4 : nar .char v3_ = v3_) (U5 : ¬ (v3_ < (0 : Int32))) (U6 : ¬ (v3_ < (32 : Int32))) (U7 : ¬ (v3_ = (127 : Int32))) (U8 : ¬ (v3_ = (61 : Int32))) (U9 : ¬ (v3_ = (43 : Int32))) (U10 : ¬ (v3_ = (45 : Int32))) (U11 : ¬ (v3_ = (64 : Int32))) (U12 : ¬ ((255 : Int32) < v3_)) :
  oMH hw hS O0 l y10 cd10 (oR 4 2 20 59) #[.ref v0_, .ref v1_] (fun v h L => (v = some (.ref v0_) ∧ Fr n0 L ∧ Keep h0 h [])) := by
 refine own_metH (own := "com/example/linepack/linepack/Values") (plainFor_of_name pn112) rfl ?_
 intro p e s m u mt c s₁ hx y hml ho hq hr hl hZ e0 X0 hS0 H0
 refine own_cast (g' := (mkF m 0 #[rv v0_, rv v1_, .unset, .unset] [])) rfl ?_
 refine sA X0 hx y d10_0 rfl rfl ?_
 refine oCV X0 hx hZ ho (oW hw 49 rfl) (bu58 hw) U0 (rm11_34 hw hS O0 v0_ v2_ v3_ v4_ U2 U3) 0 (by decide) [] rfl (lenOf pd59 rfl) hml rfl rfl rfl y d10_1 e0 ?_
 rintro _ T1 _ X1 ⟨rfl, N1q, e1⟩
 have N1 := Fr.app (Fr.nil n0) N1q
 refine sS X1 hx y d10_4 (by decide) 21 (by decide) ?_
 refine sC X1 hx y d10_21 ?_
 refine sN X1 hx y d10_22 #[rv v0_, rv v1_, iv 0, .unset] rfl ?_
 refine sI X1 hx y d10_23 rfl ?_
 refine sA X1 hx y d10_24 rfl rfl ?_
 refine oCV X1 hx hZ ho (oW hw 54 rfl) (bu66 hw) U0 (rm12_35 hw hS O0 v0_ v2_ v3_ v4_ U0 U1 U2 U3) 1 (by decide) [] rfl (lenOf pd67 rfl) hml rfl rfl rfl y d10_25 e1 ?_
 rintro _ T2 _ X2 ⟨rfl, N2q, e2⟩
 have N2 := Fr.app N1 N2q
 refine sV X2 hx y d10_28 (by decide) ?_
 refine sA X2 hx y d10_31 rfl rfl ?_
 refine sI X2 hx y d10_32 rfl ?_
 refine oCV X2 hx hZ ho (oW hw 64 rfl) (bu93 hw) U0 (rm14_37 hw hS O0 v0_ v2_ v3_ v4_ U0 U1 U2 U3 U4 U5 U12) 0 (by decide) [.int 0] rfl (lenOf pd94 rfl) hml rfl rfl rfl y d10_33 e2 ?_
 rintro _ T3 _ X3 ⟨rfl, N3q, e3⟩
 have N3 := Fr.app N2 N3q
 refine sN X3 hx y d10_36 #[rv v0_, rv v1_, iv 0, iv v3_] rfl ?_
 refine sI X3 hx y d10_37 rfl ?_
 refine sD X3 hx y d10_38 ?_
 refine sV X3 hx y d10_40 (flt U6).1 ?_
 refine sI X3 hx y d10_43 rfl ?_
 refine sD X3 hx y d10_44 ?_
 refine sU X3 hx y d10_46 (feq U7).2 63 (by decide) ?_
 refine sY X3 hx y d10_63 #[rv v0_, rv v1_, iv ((0 : Int32) + (1 : Int32)), iv v3_] rfl rfl ?_
 rw [(by decide : ((0 : Int32) + (1 : Int32)) = (1 : Int32))]
 refine sR X3 hx y d10_66 23 (by decide) ?_
 refine sI X3 hx y d10_23 rfl ?_
 refine sA X3 hx y d10_24 rfl rfl ?_
 refine oCV X3 hx hZ ho (oW hw 54 rfl) (bu66 hw) U0 (rm12_35 hw hS O0 v0_ v2_ v3_ v4_ U0 U1 U2 U3) 1 (by decide) [] rfl (lenOf pd67 rfl) hml rfl rfl rfl y d10_25 e3 ?_
 rintro _ T4 _ X4 ⟨rfl, N4q, e4⟩
 have N4 := Fr.app N3 N4q
 refine sU X4 hx y d10_28 (by decide) 69 (by decide) ?_
 refine sA X4 hx y d10_69 rfl rfl ?_
 refine sC X4 hx y d10_70 ?_
 refine oCV X4 hx hZ ho (oW hw 64 rfl) (bu93 hw) U0 (rm14_37 hw hS O0 v0_ v2_ v3_ v4_ U0 U1 U2 U3 U4 U5 U12) 0 (by decide) [.int 0] rfl (lenOf pd94 rfl) hml rfl rfl rfl y d10_71 e4 ?_
 rintro _ T5 _ X5 ⟨rfl, N5q, e5⟩
 have N5 := Fr.app N4 N5q
 refine sN X5 hx y d10_74 #[rv v0_, rv v1_, iv v3_, iv v3_] rfl ?_
 obtain ⟨b6, T6, h6, k6, d6, kd6, X6, e6, E6, hS6, hk6, hZ6, hown6, Ea6, Fc6, Fv6, V6, -, -, hC6, -, hne6, st6⟩ := ldcCH X5 hx hZ ho (oW hw 86 rfl) (fun d hd => hw d (own_satoms d hd)) e5 hS0 (Nat.zero_le _) (own_EW hw) (by decide) (CHr.refl H0).1 (vs := [(.int 61), (.int 43), (.int 45), (.int 64)]) (z := (4 : Int32)) ⟨by decide, by decide⟩ (by decide) rfl (g := (mkF m 75 #[rv v0_, rv v1_, iv v3_, iv v3_] [])) rfl (hb y d10_75) (n := 16) (by decide) (by decide) (by decide) (by decide)
 refine own_step st6 ?_
 have O6 := O0.ext E6
 have K6 := (Keep.refl h0 []).ext E6
 have R6 := CHr.trans (CHr.refl H0) hC6
 refine sI X6 hx y d10_77 rfl ?_
 refine oCV X6 hx hZ6 hown6 (oW hw 87 rfl) (bu110 hw) Ea6 (rm19_44 hw hS O6 b6 v3_ d6 kd6 Ea6 Fc6 Fv6 V6 U5 U8 U9 U10 U11 U12) 0 (by decide) [.int v3_] rfl (lenOf pd22 rfl) hml rfl rfl rfl y d10_78 e6 ?_
 rintro _ T7 _ X7 ⟨rfl, N7q, e7⟩
 have N7 := Fr.app N5 N7q
 refine sS X7 hx y d10_81 (by decide) 99 (by decide) ?_
 refine sA X7 hx y d10_99 rfl rfl ?_
 exact own_retAH X7 hS6 (by rw [e7]; exact hk6) hZ6 (own_EW hw) (by rw [e7]; exact R6) hx hr rfl rfl hl (hb y d10_100) (by decide) (by decide) (by rw [e7]; exact ⟨rfl, N7, K6⟩)


theorem rm8_46 (v0_ v1_ : Addr) (v2_ v3_ : Int32) (v4_ v5_ : ClassId) (U0 : Arv Z h0 v0_ v4_ .char 2 [(.int v2_), (.int v3_)] (.int 0)) (U1 : Arv Z h0 v1_ v5_ .byte 2 [(.int 0), (.int 0)] (.int 0)) (U2 : n0 ≤ v1_) (U3 : v0_ ≠ v1_) :
  oM hw hS O0 l y8 cd8 (oR 0 0 0 0) #[.ref v0_, .int 0, .ref v1_, .int 0, .int 2] (fun v h L => ((255 : Int32) < v2_ ∧ v = some (.int 0) ∧ Fr n0 L ∧ h = h0) ∨ (¬ ((255 : Int32) < v2_) ∧ (255 : Int32) < v3_ ∧ v = some (.int 1) ∧ Fr n0 L ∧ Keep h0 h [v1_] ∧ Arv Z h v1_ v5_ .byte 2 [(.int (oBy v2_)), (.int 0)] (.int 0)) ∨ (¬ ((255 : Int32) < v2_) ∧ ¬ ((255 : Int32) < v3_) ∧ v = some (.int 2) ∧ Fr n0 L ∧ Keep h0 h [v1_] ∧ Arv Z h v1_ v5_ .byte 2 [(.int (oBy v2_)), (.int (oBy v3_))] (.int 0))) := by
 refine own_met (own := "java/lang/StringUTF16") (plainFor_of_name pn14) rfl ?_
 intro p e s m u mt c s₁ hx y hml ho hq hr hl hZ e0 X0
 refine own_cast (g' := (mkF m 0 #[rv v0_, iv 0, rv v1_, iv 0, iv 2, .unset, .unset] [])) rfl ?_
 refine sC X0 hx y d8_0 ?_
 refine sO X0 hx y d8_1 #[rv v0_, iv 0, rv v1_, iv 0, iv 2, iv 0, .unset] rfl ?_
 refine sJ X0 hx y d8_3 rfl ?_
 refine sJ X0 hx y d8_5 rfl ?_
 refine sV X0 hx y d8_7 (by decide) ?_
 refine sA X0 hx y d8_10 rfl rfl ?_
 refine sI X0 hx y d8_11 rfl ?_
 obtain ⟨c1, r1, q1, t1, u1, y1h, y1g⟩ := id U0
 have i1 : ¬ ((0 : Int32) < 0 ∨ c1.slots.size ≤ ((0 : Int32)).toNatClampNeg) := inb_of t1 ⟨by decide, by decide⟩
 refine own_step (fun _ k => X0.caload hx (j := (0 : Int32)) (v := (.int v2_)) (by rw [e0]; exact r1.1) (State.isArrayOf_alike hZ.alike r1.2.1) r1.2.2 i1 (own_get t1 y1h i1 0 rfl) (g := (mkF m 12 #[rv v0_, iv 0, rv v1_, iv 0, iv 2, iv 0, .unset] [.int 0, .ref v0_])) rfl rfl (hb y d8_12) _ k) ?_
 refine sO X0 hx y d8_13 #[rv v0_, iv 0, rv v1_, iv 0, iv 2, iv 0, iv v2_] rfl ?_
 refine sJ X0 hx y d8_15 rfl ?_
 refine oS (XS.sipush X0.here hx rfl (hb y d8_17)) ?_
 by_cases hc2 : (255 : Int32) < v2_
 ·
  refine sV X0 hx y d8_20 (tlt hc2).2.2.2 ?_
  refine sJ X0 hx y d8_23 rfl ?_
  exact own_retI X0 hx hr hl (hb y d8_25) (by decide) (by decide) (by rw [e0]; exact Or.inl ⟨hc2, rfl, (Fr.nil n0), rfl⟩)
 ·
  refine sU X0 hx y d8_20 (flt hc2).2.2.2 26 (by decide) ?_
  refine sA X0 hx y d8_26 rfl rfl ?_
  refine sI X0 hx y d8_27 rfl ?_
  refine sJ X0 hx y d8_28 rfl ?_
  refine oS (XS.i2b X0.here hx rfl (hb y d8_30) rfl) ?_
  obtain ⟨c3, r3, q3, t3, u3, y3h, y3g⟩ := id U1
  have i3 : ¬ ((0 : Int32) < 0 ∨ c3.slots.size ≤ ((0 : Int32)).toNatClampNeg) := inb_of t3 ⟨by decide, by decide⟩
  obtain ⟨T3, h3, X3, e3, W3, st3⟩ := stB X0 hx hZ e0 r3 (j := (0 : Int32)) i3 (g := (mkF m 31 #[rv v0_, iv 0, rv v1_, iv 0, iv 2, iv 0, iv v2_] [.int (v2_.toInt8.toInt32), .int 0, .ref v1_])) rfl rfl (hb y d8_31)
  refine own_step st3 ?_
  have N3 := Fr.snoc X3 (Fr.nil n0) U2
  have K3 := (Keep.refl h0 [v1_]).wr W3 (Or.inl (by simp))
  have V3 : Arv Z h3 v1_ v5_ .byte 2 [(.int (oBy v2_)), (.int 0)] (.int 0) := Arv.set r3 q3 t3 u3 y3h y3g (fits_nar_byte _) W3 0 rfl (Nat.le_of_ble_eq_true rfl)
  refine sY X3 hx y d8_32 #[rv v0_, iv ((0 : Int32) + (1 : Int32)), rv v1_, iv 0, iv 2, iv 0, iv v2_] rfl rfl ?_
  rw [(by decide : ((0 : Int32) + (1 : Int32)) = (1 : Int32))]
  refine sY X3 hx y d8_35 #[rv v0_, iv 1, rv v1_, iv ((0 : Int32) + (1 : Int32)), iv 2, iv 0, iv v2_] rfl rfl ?_
  rw [(by decide : ((0 : Int32) + (1 : Int32)) = (1 : Int32))]
  refine sY X3 hx y d8_38 #[rv v0_, iv 1, rv v1_, iv 1, iv 2, iv ((0 : Int32) + (1 : Int32)), iv v2_] rfl rfl ?_
  rw [(by decide : ((0 : Int32) + (1 : Int32)) = (1 : Int32))]
  refine sR X3 hx y d8_41 3 (by decide) ?_
  refine sJ X3 hx y d8_3 rfl ?_
  refine sJ X3 hx y d8_5 rfl ?_
  refine sV X3 hx y d8_7 (by decide) ?_
  refine sA X3 hx y d8_10 rfl rfl ?_
  refine sI X3 hx y d8_11 rfl ?_
  have f4 := (U0.other W3 U3)
  obtain ⟨c5, r5, q5, t5, u5, y5h, y5g⟩ := id f4
  have i5 : ¬ ((1 : Int32) < 0 ∨ c5.slots.size ≤ ((1 : Int32)).toNatClampNeg) := inb_of t5 ⟨by decide, by decide⟩
  refine own_step (fun _ k => X3.caload hx (j := (1 : Int32)) (v := (.int v3_)) (by rw [e3]; exact r5.1) (State.isArrayOf_alike hZ.alike r5.2.1) r5.2.2 i5 (own_get t5 y5h i5 1 rfl) (g := (mkF m 12 #[rv v0_, iv 1, rv v1_, iv 1, iv 2, iv 1, iv v2_] [.int 1, .ref v0_])) rfl rfl (hb y d8_12) _ k) ?_
  refine sO X3 hx y d8_13 #[rv v0_, iv 1, rv v1_, iv 1, iv 2, iv 1, iv v3_] rfl ?_
  refine sJ X3 hx y d8_15 rfl ?_
  refine oS (XS.sipush X3.here hx rfl (hb y d8_17)) ?_
  by_cases hc6 : (255 : Int32) < v3_
  ·
   refine sV X3 hx y d8_20 (tlt hc6).2.2.2 ?_
   refine sJ X3 hx y d8_23 rfl ?_
   exact own_retI X3 hx hr hl (hb y d8_25) (by decide) (by decide) (by rw [e3]; exact Or.inr (Or.inl ⟨hc2, hc6, rfl, N3, K3, V3⟩))
  ·
   refine sU X3 hx y d8_20 (flt hc6).2.2.2 26 (by decide) ?_
   refine sA X3 hx y d8_26 rfl rfl ?_
   refine sI X3 hx y d8_27 rfl ?_
   refine sJ X3 hx y d8_28 rfl ?_
   refine oS (XS.i2b X3.here hx rfl (hb y d8_30) rfl) ?_
   obtain ⟨c7, r7, q7, t7, u7, y7h, y7g⟩ := id V3
   have i7 : ¬ ((1 : Int32) < 0 ∨ c7.slots.size ≤ ((1 : Int32)).toNatClampNeg) := inb_of t7 ⟨by decide, by decide⟩
   obtain ⟨T7, h7, X7, e7, W7, st7⟩ := stB X3 hx hZ e3 r7 (j := (1 : Int32)) i7 (g := (mkF m 31 #[rv v0_, iv 1, rv v1_, iv 1, iv 2, iv 1, iv v3_] [.int (v3_.toInt8.toInt32), .int 1, .ref v1_])) rfl rfl (hb y d8_31)
   refine own_step st7 ?_
   have N7 := Fr.snoc X7 N3 U2
   have K7 := K3.wr W7 (Or.inl (by simp))
   have V7 : Arv Z h7 v1_ v5_ .byte 2 [(.int (oBy v2_)), (.int (oBy v3_))] (.int 0) := Arv.set r7 q7 t7 u7 y7h y7g (fits_nar_byte _) W7 1 rfl (Nat.le_of_ble_eq_true rfl)
   refine sY X7 hx y d8_32 #[rv v0_, iv ((1 : Int32) + (1 : Int32)), rv v1_, iv 1, iv 2, iv 1, iv v3_] rfl rfl ?_
   rw [(by decide : ((1 : Int32) + (1 : Int32)) = (2 : Int32))]
   refine sY X7 hx y d8_35 #[rv v0_, iv 2, rv v1_, iv ((1 : Int32) + (1 : Int32)), iv 2, iv 1, iv v3_] rfl rfl ?_
   rw [(by decide : ((1 : Int32) + (1 : Int32)) = (2 : Int32))]
   refine sY X7 hx y d8_38 #[rv v0_, iv 2, rv v1_, iv 2, iv 2, iv ((1 : Int32) + (1 : Int32)), iv v3_] rfl rfl ?_
   rw [(by decide : ((1 : Int32) + (1 : Int32)) = (2 : Int32))]
   refine sR X7 hx y d8_41 3 (by decide) ?_
   refine sJ X7 hx y d8_3 rfl ?_
   refine sJ X7 hx y d8_5 rfl ?_
   refine sU X7 hx y d8_7 (by decide) 44 (by decide) ?_
   refine sJ X7 hx y d8_44 rfl ?_
   exact own_retI X7 hx hr hl (hb y d8_46) (by decide) (by decide) (by rw [e7]; exact Or.inr (Or.inr (⟨hc2, hc6, rfl, N7, K7, V7⟩)))


theorem rm29_47  :
  oM hw hS O0 l y29 cd29 (oR 0 0 0 0) #[.int 2] (fun v h L => (v = some (.int 4) ∧ Fr n0 L ∧ h = h0)) := by
 refine own_met (own := "java/lang/StringUTF16") (plainFor_of_name pn14) rfl ?_
 intro p e s m u mt c s₁ hx y hml ho hq hr hl hZ e0 X0
 refine own_cast (g' := (mkF m 0 #[iv 2] [])) rfl ?_
 refine sI X0 hx y d29_0 rfl ?_
 refine sS X0 hx y d29_1 (by decide) 12 (by decide) ?_
 refine sI X0 hx y d29_12 rfl ?_
 refine own_step (X0.ldcInt hx ho (mvT hZ (oW hw 129 rfl)) (g := (mkF m 13 #[iv 2] [.int 2])) rfl (hb y d29_13)) ?_
 refine sU X0 hx y d29_15 (by decide) 55 (by decide) ?_
 refine sI X0 hx y d29_55 rfl ?_
 refine sC X0 hx y d29_56 ?_
 refine sL X0 hx y d29_57 ?_
 refine oV (b := 4) (by decide) ?_
 exact own_retI X0 hx hr hl (hb y d29_58) (by decide) (by decide) (by rw [e0]; exact ⟨rfl, (Fr.nil n0), rfl⟩)


theorem rm28_48  :
  oM hw hS O0 l y28 cd28 (oR 1 1 4 12) #[.int 2] (fun v h L => (∃ (b2 : Addr) (k2 : ClassId), v = some (.ref b2) ∧ Fr n0 L ∧ Keep h0 h [] ∧ h0.size ≤ b2 ∧ Arv Z h b2 k2 .byte 4 [(.int 0), (.int 0), (.int 0), (.int 0)] (.int 0))) := by
 refine own_met (own := "java/lang/StringUTF16") (plainFor_of_name pn14) rfl ?_
 intro p e s m u mt c s₁ hx y hml ho hq hr hl hZ e0 X0
 refine own_cast (g' := (mkF m 0 #[iv 2] [])) rfl ?_
 refine sI X0 hx y d28_0 rfl ?_
 refine oCS X0 hx hZ ho (oW hw 126 rfl) (bu21 hw) (rm29_47 hw hS O0) 0 (by decide) [.int 2] rfl (lenOf pd22 rfl) hml rfl rfl rfl y d28_1 e0 ?_
 rintro _ T1 _ X1 ⟨rfl, N1q, e1⟩
 have N1 := Fr.app (Fr.nil n0) N1q
 obtain ⟨T2, h2, k2, X2, e2, E2, A2, st2⟩ := newP X1 hx hZ (oW hw 31 rfl) e1 (g := (mkF m 4 #[iv 2] [.int 4])) rfl (hb y d28_4) rfl (by decide) (cap := 4) (by decide) (by decide) (by decide) (by decide)
 obtain ⟨b2, z2⟩ : ∃ z, z = h0.size := ⟨_, rfl⟩
 rw [← z2] at A2 st2
 refine own_step st2 ?_
 have y2 : h0.size ≤ b2 := Nat.le_trans (Nat.le_refl _) (Nat.le_of_eq z2.symm)
 have K2 := (Keep.refl h0 []).ext E2
 have V2 : Arv Z h2 b2 k2 .byte 4 [(.int 0), (.int 0), (.int 0), (.int 0)] (.int 0) := (Arv.new A2 (by decide)).pad (pad_rep [] (.int 0) 4)
 exact own_retA X2 hx hr rfl rfl hl (hb y d28_6) (by decide) (by decide) (by rw [e2]; exact ⟨b2, k2, rfl, N1, K2, y2, V2⟩)


theorem rm30_49 (v0_ : Addr) (v1_ : Int32) (v2_ : ClassId) (U0 : Arv Z h0 v0_ v2_ .byte 4 [(.int 0), (.int 0), (.int 0), (.int 0)] (.int 0)) (U1 : n0 ≤ v0_) :
  oM hw hS O0 l y30 cd30 (oR 0 0 0 0) #[.ref v0_, .int 0, .int v1_] (fun v h L => (v = none ∧ Fr n0 L ∧ Keep h0 h [v0_] ∧ Arv Z h v0_ v2_ .byte 4 [(.int (oLo v1_)), (.int (oHi v1_)), (.int 0), (.int 0)] (.int 0))) := by
 refine own_met (own := "java/lang/StringUTF16") (plainFor_of_name pn14) rfl ?_
 intro p e s m u mt c s₁ hx y hml ho hq hr hl hZ e0 X0
 refine own_cast (g' := (mkF m 0 #[rv v0_, iv 0, iv v1_] [])) rfl ?_
 obtain ⟨T1, X1, e1, st1⟩ := getS2 X0 hx hZ ho (host := "") (Or.inl (oW hw 133 rfl)) Via.refl e0 ((si0 hw hS).ext O0.2) (g := (mkF m 0 #[rv v0_, iv 0, iv v1_] [])) rfl (hb y d30_0)
 refine own_step st1 ?_
 refine sS X1 hx y d30_3 (by decide) 28 (by decide) ?_
 refine sI X1 hx y d30_28 rfl ?_
 refine sC X1 hx y d30_29 ?_
 refine sL X1 hx y d30_30 ?_
 refine oV (b := 0) (by decide) ?_
 refine sN X1 hx y d30_31 #[rv v0_, iv 0, iv v1_] rfl ?_
 refine sA X1 hx y d30_32 rfl rfl ?_
 refine sI X1 hx y d30_33 rfl ?_
 refine sY X1 hx y d30_34 #[rv v0_, iv ((0 : Int32) + (1 : Int32)), iv v1_] rfl rfl ?_
 rw [(by decide : ((0 : Int32) + (1 : Int32)) = (1 : Int32))]
 refine sI X1 hx y d30_37 rfl ?_
 obtain ⟨T2, X2, e2, st2⟩ := getS2 X1 hx hZ ho (host := "") (Or.inl (oW hw 134 rfl)) Via.refl e1 ((si1 hw hS).ext O0.2) (g := (mkF m 38 #[rv v0_, iv 1, iv v1_] [.int v1_, .int 0, .ref v0_])) rfl (hb y d30_38)
 refine own_step st2 ?_
 refine sM X2 hx y d30_41 ?_
 refine oS (XS.i2b X2.here hx rfl (hb y d30_42) rfl) ?_
 obtain ⟨c3, r3, q3, t3, u3, y3h, y3g⟩ := id U0
 have i3 : ¬ ((0 : Int32) < 0 ∨ c3.slots.size ≤ ((0 : Int32)).toNatClampNeg) := inb_of t3 ⟨by decide, by decide⟩
 obtain ⟨T3, h3, X3, e3, W3, st3⟩ := stB X2 hx hZ e2 r3 (j := (0 : Int32)) i3 (g := (mkF m 43 #[rv v0_, iv 1, iv v1_] [.int ((v1_ >>> ((0 : Int32) &&& 31)).toInt8.toInt32), .int 0, .ref v0_])) rfl rfl (hb y d30_43)
 refine own_step st3 ?_
 have N3 := Fr.snoc X3 (Fr.nil n0) U1
 have O3 := O0.wr W3 U1
 have K3 := (Keep.refl h0 [v0_]).wr W3 (Or.inl (by simp))
 have V3 : Arv Z h3 v0_ v2_ .byte 4 [(.int (oLo v1_)), (.int 0), (.int 0), (.int 0)] (.int 0) := Arv.set r3 q3 t3 u3 y3h y3g (fits_nar_byte _) W3 0 rfl (Nat.le_of_ble_eq_true rfl)
 refine sA X3 hx y d30_44 rfl rfl ?_
 refine sI X3 hx y d30_45 rfl ?_
 refine sI X3 hx y d30_46 rfl ?_
 obtain ⟨T4, X4, e4, st4⟩ := getS2 X3 hx hZ ho (host := "") (Or.inl (oW hw 135 rfl)) Via.refl e3 ((si2 hw hS).ext O3.2) (g := (mkF m 47 #[rv v0_, iv 1, iv v1_] [.int v1_, .int 1, .ref v0_])) rfl (hb y d30_47)
 refine own_step st4 ?_
 refine sM X4 hx y d30_50 ?_
 refine oS (XS.i2b X4.here hx rfl (hb y d30_51) rfl) ?_
 obtain ⟨c5, r5, q5, t5, u5, y5h, y5g⟩ := id V3
 have i5 : ¬ ((1 : Int32) < 0 ∨ c5.slots.size ≤ ((1 : Int32)).toNatClampNeg) := inb_of t5 ⟨by decide, by decide⟩
 obtain ⟨T5, h5, X5, e5, W5, st5⟩ := stB X4 hx hZ e4 r5 (j := (1 : Int32)) i5 (g := (mkF m 52 #[rv v0_, iv 1, iv v1_] [.int ((v1_ >>> ((8 : Int32) &&& 31)).toInt8.toInt32), .int 1, .ref v0_])) rfl rfl (hb y d30_52)
 refine own_step st5 ?_
 have N5 := Fr.snoc X5 N3 U1
 have K5 := K3.wr W5 (Or.inl (by simp))
 have V5 : Arv Z h5 v0_ v2_ .byte 4 [(.int (oLo v1_)), (.int (oHi v1_)), (.int 0), (.int 0)] (.int 0) := Arv.set r5 q5 t5 u5 y5h y5g (fits_nar_byte _) W5 1 rfl (Nat.le_of_ble_eq_true rfl)
 exact own_retV X5 hx hr hl (hb y d30_53) (by decide) (by decide) (by rw [e5]; exact ⟨rfl, N5, K5, V5⟩)


theorem rm30_50 (v0_ : Addr) (v1_ v2_ : Int32) (v3_ : ClassId) (U0 : Arv Z h0 v0_ v3_ .byte 4 [(.int (oLo v2_)), (.int (oHi v2_)), (.int 0), (.int 0)] (.int 0)) (U1 : n0 ≤ v0_) :
  oM hw hS O0 l y30 cd30 (oR 0 0 0 0) #[.ref v0_, .int 1, .int v1_] (fun v h L => (v = none ∧ Fr n0 L ∧ Keep h0 h [v0_] ∧ Arv Z h v0_ v3_ .byte 4 [(.int (oLo v2_)), (.int (oHi v2_)), (.int (oLo v1_)), (.int (oHi v1_))] (.int 0))) := by
 refine own_met (own := "java/lang/StringUTF16") (plainFor_of_name pn14) rfl ?_
 intro p e s m u mt c s₁ hx y hml ho hq hr hl hZ e0 X0
 refine own_cast (g' := (mkF m 0 #[rv v0_, iv 1, iv v1_] [])) rfl ?_
 obtain ⟨T1, X1, e1, st1⟩ := getS2 X0 hx hZ ho (host := "") (Or.inl (oW hw 133 rfl)) Via.refl e0 ((si0 hw hS).ext O0.2) (g := (mkF m 0 #[rv v0_, iv 1, iv v1_] [])) rfl (hb y d30_0)
 refine own_step st1 ?_
 refine sS X1 hx y d30_3 (by decide) 28 (by decide) ?_
 refine sI X1 hx y d30_28 rfl ?_
 refine sC X1 hx y d30_29 ?_
 refine sL X1 hx y d30_30 ?_
 refine oV (b := 2) (by decide) ?_
 refine sN X1 hx y d30_31 #[rv v0_, iv 2, iv v1_] rfl ?_
 refine sA X1 hx y d30_32 rfl rfl ?_
 refine sI X1 hx y d30_33 rfl ?_
 refine sY X1 hx y d30_34 #[rv v0_, iv ((2 : Int32) + (1 : Int32)), iv v1_] rfl rfl ?_
 rw [(by decide : ((2 : Int32) + (1 : Int32)) = (3 : Int32))]
 refine sI X1 hx y d30_37 rfl ?_
 obtain ⟨T2, X2, e2, st2⟩ := getS2 X1 hx hZ ho (host := "") (Or.inl (oW hw 134 rfl)) Via.refl e1 ((si1 hw hS).ext O0.2) (g := (mkF m 38 #[rv v0_, iv 3, iv v1_] [.int v1_, .int 2, .ref v0_])) rfl (hb y d30_38)
 refine own_step st2 ?_
 refine sM X2 hx y d30_41 ?_
 refine oS (XS.i2b X2.here hx rfl (hb y d30_42) rfl) ?_
 obtain ⟨c3, r3, q3, t3, u3, y3h, y3g⟩ := id U0
 have i3 : ¬ ((2 : Int32) < 0 ∨ c3.slots.size ≤ ((2 : Int32)).toNatClampNeg) := inb_of t3 ⟨by decide, by decide⟩
 obtain ⟨T3, h3, X3, e3, W3, st3⟩ := stB X2 hx hZ e2 r3 (j := (2 : Int32)) i3 (g := (mkF m 43 #[rv v0_, iv 3, iv v1_] [.int ((v1_ >>> ((0 : Int32) &&& 31)).toInt8.toInt32), .int 2, .ref v0_])) rfl rfl (hb y d30_43)
 refine own_step st3 ?_
 have N3 := Fr.snoc X3 (Fr.nil n0) U1
 have O3 := O0.wr W3 U1
 have K3 := (Keep.refl h0 [v0_]).wr W3 (Or.inl (by simp))
 have V3 : Arv Z h3 v0_ v3_ .byte 4 [(.int (oLo v2_)), (.int (oHi v2_)), (.int (oLo v1_)), (.int 0)] (.int 0) := Arv.set r3 q3 t3 u3 y3h y3g (fits_nar_byte _) W3 2 rfl (Nat.le_of_ble_eq_true rfl)
 refine sA X3 hx y d30_44 rfl rfl ?_
 refine sI X3 hx y d30_45 rfl ?_
 refine sI X3 hx y d30_46 rfl ?_
 obtain ⟨T4, X4, e4, st4⟩ := getS2 X3 hx hZ ho (host := "") (Or.inl (oW hw 135 rfl)) Via.refl e3 ((si2 hw hS).ext O3.2) (g := (mkF m 47 #[rv v0_, iv 3, iv v1_] [.int v1_, .int 3, .ref v0_])) rfl (hb y d30_47)
 refine own_step st4 ?_
 refine sM X4 hx y d30_50 ?_
 refine oS (XS.i2b X4.here hx rfl (hb y d30_51) rfl) ?_
 obtain ⟨c5, r5, q5, t5, u5, y5h, y5g⟩ := id V3
 have i5 : ¬ ((3 : Int32) < 0 ∨ c5.slots.size ≤ ((3 : Int32)).toNatClampNeg) := inb_of t5 ⟨by decide, by decide⟩
 obtain ⟨T5, h5, X5, e5, W5, st5⟩ := stB X4 hx hZ e4 r5 (j := (3 : Int32)) i5 (g := (mkF m 52 #[rv v0_, iv 3, iv v1_] [.int ((v1_ >>> ((8 : Int32) &&& 31)).toInt8.toInt32), .int 3, .ref v0_])) rfl rfl (hb y d30_52)
 refine own_step st5 ?_
 have N5 := Fr.snoc X5 N3 U1
 have K5 := K3.wr W5 (Or.inl (by simp))
 have V5 : Arv Z h5 v0_ v3_ .byte 4 [(.int (oLo v2_)), (.int (oHi v2_)), (.int (oLo v1_)), (.int (oHi v1_))] (.int 0) := Arv.set r5 q5 t5 u5 y5h y5g (fits_nar_byte _) W5 3 rfl (Nat.le_of_ble_eq_true rfl)
 exact own_retV X5 hx hr hl (hb y d30_53) (by decide) (by decide) (by rw [e5]; exact ⟨rfl, N5, K5, V5⟩)


theorem rm27_51 (v0_ : Addr) (v1_ v2_ : Int32) (v3_ : ClassId) (U0 : Arv Z h0 v0_ v3_ .char 2 [(.int v1_), (.int v2_)] (.int 0)) :
  oM hw hS O0 l y27 cd27 (oR 2 1 4 24) #[.ref v0_, .int 0, .int 2] (fun v h L => (∃ (b2 : Addr) (k3 : ClassId), v = some (.ref b2) ∧ Fr n0 L ∧ Keep h0 h [] ∧ h0.size ≤ b2 ∧ Arv Z h b2 k3 .byte 4 [(.int (oLo v1_)), (.int (oHi v1_)), (.int (oLo v2_)), (.int (oHi v2_))] (.int 0))) := by
 refine own_met (own := "java/lang/StringUTF16") (plainFor_of_name pn14) rfl ?_
 intro p e s m u mt c s₁ hx y hml ho hq hr hl hZ e0 X0
 refine own_cast (g' := (mkF m 0 #[rv v0_, iv 0, iv 2, .unset, .unset] [])) rfl ?_
 refine sI X0 hx y d27_0 rfl ?_
 refine oCS X0 hx hZ ho (oW hw 123 rfl) (bu24 hw) (rm28_48 hw hS O0) 0 (by decide) [.int 2] rfl (lenOf pd25 rfl) hml rfl rfl rfl y d27_1 e0 ?_
 rintro _ T1 _ X1 ⟨b2, k3, rfl, N1q, K1q, y1_0, F1_0⟩
 have N1 := Fr.app (Fr.nil n0) N1q
 have g1_0 : n0 ≤ b2 := Nat.le_trans (O0.1 ▸ O0.2.1) y1_0
 have ne1_0_0 : v0_ ≠ b2 := Nat.ne_of_lt (Nat.lt_of_lt_of_le U0.lt y1_0)
 have u1_0 : h0.size ≤ b2 := Nat.le_trans (Nat.le_refl _) y1_0
 have O1 := O0.keep K1q all0
 have K1 := Keep.trans (Keep.refl h0 []) K1q all0
 refine sP X1 hx y d27_4 rfl #[rv v0_, iv 0, iv 2, rv b2, .unset] rfl ?_
 refine sC X1 hx y d27_5 ?_
 refine sO X1 hx y d27_6 #[rv v0_, iv 0, iv 2, rv b2, iv 0] rfl ?_
 refine sJ X1 hx y d27_8 rfl ?_
 refine sI X1 hx y d27_10 rfl ?_
 refine sV X1 hx y d27_11 (by decide) ?_
 refine sA X1 hx y d27_14 rfl rfl ?_
 refine sJ X1 hx y d27_15 rfl ?_
 refine sA X1 hx y d27_17 rfl rfl ?_
 refine sI X1 hx y d27_18 rfl ?_
 have f4 := (U0.keep K1q nin0)
 obtain ⟨c5, r5, q5, t5, u5, y5h, y5g⟩ := id f4
 have i5 : ¬ ((0 : Int32) < 0 ∨ c5.slots.size ≤ ((0 : Int32)).toNatClampNeg) := inb_of t5 ⟨by decide, by decide⟩
 refine own_step (fun _ k => X1.caload hx (j := (0 : Int32)) (v := (.int v1_)) r5.1 (State.isArrayOf_alike hZ.alike r5.2.1) r5.2.2 i5 (own_get t5 y5h i5 0 rfl) (g := (mkF m 19 #[rv v0_, iv 0, iv 2, rv b2, iv 0] [.int 0, .ref v0_, .int 0, .ref b2])) rfl rfl (hb y d27_19) _ k) ?_
 refine oCS X1 hx hZ ho (oW hw 130 rfl) (bu28 hw) (rm30_49 hw hS O1 b2 v1_ k3 F1_0 g1_0) 0 (by decide) [.ref b2, .int 0, .int v1_] rfl (lenOf pd29 rfl) hml rfl rfl rfl y d27_20 rfl ?_
 rintro _ T6 _ X6 ⟨rfl, N6q, K6q, F6_0⟩
 have N6 := Fr.app N1 N6q
 have O6 := O1.keep K6q (allS g1_0 all0)
 have K6 := Keep.trans K1 K6q (allS (Or.inr u1_0) all0)
 refine sY X6 hx y d27_23 #[rv v0_, iv ((0 : Int32) + (1 : Int32)), iv 2, rv b2, iv 0] rfl rfl ?_
 rw [(by decide : ((0 : Int32) + (1 : Int32)) = (1 : Int32))]
 refine sY X6 hx y d27_26 #[rv v0_, iv 1, iv 2, rv b2, iv ((0 : Int32) + (1 : Int32))] rfl rfl ?_
 rw [(by decide : ((0 : Int32) + (1 : Int32)) = (1 : Int32))]
 refine sR X6 hx y d27_29 8 (by decide) ?_
 refine sJ X6 hx y d27_8 rfl ?_
 refine sI X6 hx y d27_10 rfl ?_
 refine sV X6 hx y d27_11 (by decide) ?_
 refine sA X6 hx y d27_14 rfl rfl ?_
 refine sJ X6 hx y d27_15 rfl ?_
 refine sA X6 hx y d27_17 rfl rfl ?_
 refine sI X6 hx y d27_18 rfl ?_
 have f7 := (f4.keep K6q (ninS ne1_0_0 nin0))
 obtain ⟨c8, r8, q8, t8, u8, y8h, y8g⟩ := id f7
 have i8 : ¬ ((1 : Int32) < 0 ∨ c8.slots.size ≤ ((1 : Int32)).toNatClampNeg) := inb_of t8 ⟨by decide, by decide⟩
 refine own_step (fun _ k => X6.caload hx (j := (1 : Int32)) (v := (.int v2_)) r8.1 (State.isArrayOf_alike hZ.alike r8.2.1) r8.2.2 i8 (own_get t8 y8h i8 1 rfl) (g := (mkF m 19 #[rv v0_, iv 1, iv 2, rv b2, iv 1] [.int 1, .ref v0_, .int 1, .ref b2])) rfl rfl (hb y d27_19) _ k) ?_
 refine oCS X6 hx hZ ho (oW hw 130 rfl) (bu28 hw) (rm30_50 hw hS O6 b2 v2_ v1_ k3 F6_0 g1_0) 0 (by decide) [.ref b2, .int 1, .int v2_] rfl (lenOf pd29 rfl) hml rfl rfl rfl y d27_20 rfl ?_
 rintro _ T9 _ X9 ⟨rfl, N9q, K9q, F9_0⟩
 have N9 := Fr.app N6 N9q
 have K9 := Keep.trans K6 K9q (allS (Or.inr u1_0) all0)
 refine sY X9 hx y d27_23 #[rv v0_, iv ((1 : Int32) + (1 : Int32)), iv 2, rv b2, iv 1] rfl rfl ?_
 rw [(by decide : ((1 : Int32) + (1 : Int32)) = (2 : Int32))]
 refine sY X9 hx y d27_26 #[rv v0_, iv 2, iv 2, rv b2, iv ((1 : Int32) + (1 : Int32))] rfl rfl ?_
 rw [(by decide : ((1 : Int32) + (1 : Int32)) = (2 : Int32))]
 refine sR X9 hx y d27_29 8 (by decide) ?_
 refine sJ X9 hx y d27_8 rfl ?_
 refine sI X9 hx y d27_10 rfl ?_
 refine sU X9 hx y d27_11 (by decide) 32 (by decide) ?_
 refine sA X9 hx y d27_32 rfl rfl ?_
 exact own_retA X9 hx hr rfl rfl hl (hb y d27_33) (by decide) (by decide) (⟨b2, k3, rfl, N9, K9, u1_0, F9_0⟩)


theorem rm31_52 (v0_ : Addr) (v1_ v2_ : Int32) (v3_ : ClassId) (U0 : Arv Z h0 v0_ v3_ .byte 4 [(.int (oLo v1_)), (.int (oHi v1_)), (.int (oLo v2_)), (.int (oHi v2_))] (.int 0)) (U1 : nar .char v1_ = v1_) (U2 : ¬ (v1_ < (0 : Int32))) (U3 : ¬ ((65535 : Int32) < v1_)) :
  oM hw hS O0 l y31 cd31 (oR 0 0 0 0) #[.ref v0_, .int 0] (fun v h L => (v = some (.int v1_) ∧ Fr n0 L ∧ h = h0)) := by
 refine own_met (own := "java/lang/StringUTF16") (plainFor_of_name pn14) rfl ?_
 intro p e s m u mt c s₁ hx y hml ho hq hr hl hZ e0 X0
 refine own_cast (g' := (mkF m 0 #[rv v0_, iv 0] [])) rfl ?_
 obtain ⟨T1, X1, e1, st1⟩ := getS2 X0 hx hZ ho (host := "") (Or.inl (oW hw 133 rfl)) Via.refl e0 ((si0 hw hS).ext O0.2) (g := (mkF m 0 #[rv v0_, iv 0] [])) rfl (hb y d31_0)
 refine own_step st1 ?_
 refine sS X1 hx y d31_3 (by decide) 28 (by decide) ?_
 refine sI X1 hx y d31_28 rfl ?_
 refine sC X1 hx y d31_29 ?_
 refine sL X1 hx y d31_30 ?_
 refine oV (b := 0) (by decide) ?_
 refine sN X1 hx y d31_31 #[rv v0_, iv 0] rfl ?_
 refine sA X1 hx y d31_32 rfl rfl ?_
 refine sI X1 hx y d31_33 rfl ?_
 refine sY X1 hx y d31_34 #[rv v0_, iv ((0 : Int32) + (1 : Int32))] rfl rfl ?_
 rw [(by decide : ((0 : Int32) + (1 : Int32)) = (1 : Int32))]
 obtain ⟨c2, r2, q2, t2, u2, y2h, y2g⟩ := id U0
 have i2 : ¬ ((0 : Int32) < 0 ∨ c2.slots.size ≤ ((0 : Int32)).toNatClampNeg) := inb_of t2 ⟨by decide, by decide⟩
 refine own_step (fun _ k => X1.baloadBytes hx (j := (0 : Int32)) (v := (.int (oLo v1_))) (by rw [e1]; exact r2.1) (State.isArrayOf_alike hZ.alike r2.2.1) r2.2.2 i2 (own_get t2 y2h i2 0 rfl) (g := (mkF m 37 #[rv v0_, iv 1] [.int 0, .ref v0_])) rfl rfl (hb y d31_37) _ k) ?_
 refine oS (XS.sipush X1.here hx rfl (hb y d31_38)) ?_
 refine oS (XS.iand X1.here hx rfl (hb y d31_41) rfl) ?_
 obtain ⟨T3, X3, e3, st3⟩ := getS2 X1 hx hZ ho (host := "") (Or.inl (oW hw 134 rfl)) Via.refl e1 ((si1 hw hS).ext O0.2) (g := (mkF m 42 #[rv v0_, iv 1] [.int ((oLo v1_) &&& (255 : Int32))])) rfl (hb y d31_42)
 refine own_step st3 ?_
 refine sL X3 hx y d31_45 ?_
 refine sA X3 hx y d31_46 rfl rfl ?_
 refine sI X3 hx y d31_47 rfl ?_
 obtain ⟨c4, r4, q4, t4, u4, y4h, y4g⟩ := id U0
 have i4 : ¬ ((1 : Int32) < 0 ∨ c4.slots.size ≤ ((1 : Int32)).toNatClampNeg) := inb_of t4 ⟨by decide, by decide⟩
 refine own_step (fun _ k => X3.baloadBytes hx (j := (1 : Int32)) (v := (.int (oHi v1_))) (by rw [e3]; exact r4.1) (State.isArrayOf_alike hZ.alike r4.2.1) r4.2.2 i4 (own_get t4 y4h i4 1 rfl) (g := (mkF m 48 #[rv v0_, iv 1] [.int 1, .ref v0_, .int (((oLo v1_) &&& (255 : Int32)) <<< ((0 : Int32) &&& 31))])) rfl rfl (hb y d31_48) _ k) ?_
 refine oS (XS.sipush X3.here hx rfl (hb y d31_49)) ?_
 refine oS (XS.iand X3.here hx rfl (hb y d31_52) rfl) ?_
 obtain ⟨T5, X5, e5, st5⟩ := getS2 X3 hx hZ ho (host := "") (Or.inl (oW hw 135 rfl)) Via.refl e3 ((si2 hw hS).ext O0.2) (g := (mkF m 53 #[rv v0_, iv 1] [.int ((oHi v1_) &&& (255 : Int32)), .int (((oLo v1_) &&& (255 : Int32)) <<< ((0 : Int32) &&& 31))])) rfl (hb y d31_53)
 refine own_step st5 ?_
 refine sL X5 hx y d31_56 ?_
 refine oS (XS.ior X5.here hx rfl (hb y d31_57) rfl) ?_
 refine oS (XS.i2c X5.here hx rfl (hb y d31_58) rfl) ?_
 show own_Wp p e u _ T5 (mkF m 59 #[rv v0_, iv 1] [.int (((((oLo v1_) &&& (255 : Int32)) <<< ((0 : Int32) &&& 31)) ||| (((oHi v1_) &&& (255 : Int32)) <<< ((8 : Int32) &&& 31))).toUInt32.toUInt16.toUInt32.toInt32)])
 rw [(own_b16 U2 U3 : (((((oLo v1_) &&& (255 : Int32)) <<< ((0 : Int32) &&& 31)) ||| (((oHi v1_) &&& (255 : Int32)) <<< ((8 : Int32) &&& 31))).toUInt32.toUInt16.toUInt32.toInt32) = v1_)]
 exact own_retN X5 hx (t := .char) hr (by simp) hl (hb y d31_59) (by decide) (by decide) (by rw [U1, e5]; exact ⟨rfl, (Fr.nil n0), rfl⟩)


theorem rm31_53 (v0_ : Addr) (v1_ v2_ : Int32) (v3_ : ClassId) (U0 : Arv Z h0 v0_ v3_ .byte 4 [(.int (oLo v1_)), (.int (oHi v1_)), (.int (oLo v2_)), (.int (oHi v2_))] (.int 0)) (U1 : nar .char v2_ = v2_) (U2 : ¬ (v2_ < (0 : Int32))) (U3 : ¬ ((65535 : Int32) < v2_)) :
  oM hw hS O0 l y31 cd31 (oR 0 0 0 0) #[.ref v0_, .int 1] (fun v h L => (v = some (.int v2_) ∧ Fr n0 L ∧ h = h0)) := by
 refine own_met (own := "java/lang/StringUTF16") (plainFor_of_name pn14) rfl ?_
 intro p e s m u mt c s₁ hx y hml ho hq hr hl hZ e0 X0
 refine own_cast (g' := (mkF m 0 #[rv v0_, iv 1] [])) rfl ?_
 obtain ⟨T1, X1, e1, st1⟩ := getS2 X0 hx hZ ho (host := "") (Or.inl (oW hw 133 rfl)) Via.refl e0 ((si0 hw hS).ext O0.2) (g := (mkF m 0 #[rv v0_, iv 1] [])) rfl (hb y d31_0)
 refine own_step st1 ?_
 refine sS X1 hx y d31_3 (by decide) 28 (by decide) ?_
 refine sI X1 hx y d31_28 rfl ?_
 refine sC X1 hx y d31_29 ?_
 refine sL X1 hx y d31_30 ?_
 refine oV (b := 2) (by decide) ?_
 refine sN X1 hx y d31_31 #[rv v0_, iv 2] rfl ?_
 refine sA X1 hx y d31_32 rfl rfl ?_
 refine sI X1 hx y d31_33 rfl ?_
 refine sY X1 hx y d31_34 #[rv v0_, iv ((2 : Int32) + (1 : Int32))] rfl rfl ?_
 rw [(by decide : ((2 : Int32) + (1 : Int32)) = (3 : Int32))]
 obtain ⟨c2, r2, q2, t2, u2, y2h, y2g⟩ := id U0
 have i2 : ¬ ((2 : Int32) < 0 ∨ c2.slots.size ≤ ((2 : Int32)).toNatClampNeg) := inb_of t2 ⟨by decide, by decide⟩
 refine own_step (fun _ k => X1.baloadBytes hx (j := (2 : Int32)) (v := (.int (oLo v2_))) (by rw [e1]; exact r2.1) (State.isArrayOf_alike hZ.alike r2.2.1) r2.2.2 i2 (own_get t2 y2h i2 2 rfl) (g := (mkF m 37 #[rv v0_, iv 3] [.int 2, .ref v0_])) rfl rfl (hb y d31_37) _ k) ?_
 refine oS (XS.sipush X1.here hx rfl (hb y d31_38)) ?_
 refine oS (XS.iand X1.here hx rfl (hb y d31_41) rfl) ?_
 obtain ⟨T3, X3, e3, st3⟩ := getS2 X1 hx hZ ho (host := "") (Or.inl (oW hw 134 rfl)) Via.refl e1 ((si1 hw hS).ext O0.2) (g := (mkF m 42 #[rv v0_, iv 3] [.int ((oLo v2_) &&& (255 : Int32))])) rfl (hb y d31_42)
 refine own_step st3 ?_
 refine sL X3 hx y d31_45 ?_
 refine sA X3 hx y d31_46 rfl rfl ?_
 refine sI X3 hx y d31_47 rfl ?_
 obtain ⟨c4, r4, q4, t4, u4, y4h, y4g⟩ := id U0
 have i4 : ¬ ((3 : Int32) < 0 ∨ c4.slots.size ≤ ((3 : Int32)).toNatClampNeg) := inb_of t4 ⟨by decide, by decide⟩
 refine own_step (fun _ k => X3.baloadBytes hx (j := (3 : Int32)) (v := (.int (oHi v2_))) (by rw [e3]; exact r4.1) (State.isArrayOf_alike hZ.alike r4.2.1) r4.2.2 i4 (own_get t4 y4h i4 3 rfl) (g := (mkF m 48 #[rv v0_, iv 3] [.int 3, .ref v0_, .int (((oLo v2_) &&& (255 : Int32)) <<< ((0 : Int32) &&& 31))])) rfl rfl (hb y d31_48) _ k) ?_
 refine oS (XS.sipush X3.here hx rfl (hb y d31_49)) ?_
 refine oS (XS.iand X3.here hx rfl (hb y d31_52) rfl) ?_
 obtain ⟨T5, X5, e5, st5⟩ := getS2 X3 hx hZ ho (host := "") (Or.inl (oW hw 135 rfl)) Via.refl e3 ((si2 hw hS).ext O0.2) (g := (mkF m 53 #[rv v0_, iv 3] [.int ((oHi v2_) &&& (255 : Int32)), .int (((oLo v2_) &&& (255 : Int32)) <<< ((0 : Int32) &&& 31))])) rfl (hb y d31_53)
 refine own_step st5 ?_
 refine sL X5 hx y d31_56 ?_
 refine oS (XS.ior X5.here hx rfl (hb y d31_57) rfl) ?_
 refine oS (XS.i2c X5.here hx rfl (hb y d31_58) rfl) ?_
 show own_Wp p e u _ T5 (mkF m 59 #[rv v0_, iv 3] [.int (((((oLo v2_) &&& (255 : Int32)) <<< ((0 : Int32) &&& 31)) ||| (((oHi v2_) &&& (255 : Int32)) <<< ((8 : Int32) &&& 31))).toUInt32.toUInt16.toUInt32.toInt32)])
 rw [(own_b16 U2 U3 : (((((oLo v2_) &&& (255 : Int32)) <<< ((0 : Int32) &&& 31)) ||| (((oHi v2_) &&& (255 : Int32)) <<< ((8 : Int32) &&& 31))).toUInt32.toUInt16.toUInt32.toInt32) = v2_)]
 exact own_retN X5 hx (t := .char) hr (by simp) hl (hb y d31_59) (by decide) (by decide) (by rw [U1, e5]; exact ⟨rfl, (Fr.nil n0), rfl⟩)


theorem rm7_54 (v0_ : Addr) (v1_ v2_ : Int32) (v3_ : ClassId) (U0 : Arv Z h0 v0_ v3_ .char 2 [(.int v1_), (.int v2_)] (.int 0)) (U1 : nar .char v1_ = v1_) (U2 : nar .char v2_ = v2_) (U3 : ¬ (v1_ < (0 : Int32))) (U4 : ¬ ((65535 : Int32) < v1_)) (U5 : ¬ (v2_ < (0 : Int32))) (U6 : ¬ ((65535 : Int32) < v2_)) :
  oM hw hS O0 l y7 cd7 (oR 3 2 6 40) #[.ref v0_, .int 0, .int 2] (fun v h L => (∃ (b5 : Addr) (k6 : ClassId), v = some (.ref b5) ∧ Fr n0 L ∧ Keep h0 h [] ∧ h0.size ≤ b5 ∧ Arv Z h b5 k6 .byte 4 [(.int (oLo v1_)), (.int (oHi v1_)), (.int (oLo v2_)), (.int (oHi v2_))] (.int 0)) ∨ (∃ (b1 : Addr) (k1 : ClassId), ¬ ((255 : Int32) < v1_) ∧ ¬ ((255 : Int32) < v2_) ∧ v = some (.ref b1) ∧ Fr n0 L ∧ Keep h0 h [] ∧ h0.size ≤ b1 ∧ Arv Z h b1 k1 .byte 2 [(.int (oBy v1_)), (.int (oBy v2_))] (.int 0))) := by
 refine own_met (own := "java/lang/StringUTF16") (plainFor_of_name pn14) rfl ?_
 intro p e s m u mt c s₁ hx y hml ho hq hr hl hZ e0 X0
 refine own_cast (g' := (mkF m 0 #[rv v0_, iv 0, iv 2, .unset, .unset, .unset] [])) rfl ?_
 refine sI X0 hx y d7_0 rfl ?_
 obtain ⟨T1, h1, k1, X1, e1, E1, A1, st1⟩ := newP X0 hx hZ (oW hw 31 rfl) e0 (g := (mkF m 1 #[rv v0_, iv 0, iv 2, .unset, .unset, .unset] [.int 2])) rfl (hb y d7_1) rfl (by decide) (cap := 2) (by decide) (by decide) (by decide) (by decide)
 obtain ⟨b1, z1⟩ : ∃ z, z = h0.size := ⟨_, rfl⟩
 rw [← z1] at A1 st1
 refine own_step st1 ?_
 have g1 : n0 ≤ b1 := Nat.le_trans (O0.1 ▸ O0.2.1) (Nat.le_of_eq z1.symm)
 have ne1_0 : v0_ ≠ b1 := Nat.ne_of_lt (Nat.lt_of_lt_of_le U0.lt (Nat.le_of_eq z1.symm))
 have y1 : h0.size ≤ b1 := Nat.le_trans (Nat.le_refl _) (Nat.le_of_eq z1.symm)
 have O1 := O0.ext E1
 have K1 := (Keep.refl h0 []).ext E1
 have V1 : Arv Z h1 b1 k1 .byte 2 [(.int 0), (.int 0)] (.int 0) := (Arv.new A1 (by decide)).pad (pad_rep [] (.int 0) 2)
 refine sP X1 hx y d7_3 rfl #[rv v0_, iv 0, iv 2, rv b1, .unset, .unset] rfl ?_
 refine sA X1 hx y d7_4 rfl rfl ?_
 refine sI X1 hx y d7_5 rfl ?_
 refine sA X1 hx y d7_6 rfl rfl ?_
 refine sC X1 hx y d7_7 ?_
 refine sI X1 hx y d7_8 rfl ?_
 have f2 := (U0.ext E1)
 refine oCS X1 hx hZ ho (oW hw 32 rfl) (bu15 hw) (rm8_46 hw hS O1 v0_ b1 v1_ v2_ v3_ k1 f2 V1 g1 ne1_0) 0 (by decide) [.ref v0_, .int 0, .ref b1, .int 0, .int 2] rfl (lenOf pd16 rfl) hml rfl rfl rfl y d7_9 e1 ?_
 rintro _ T3 _ X3 (⟨hq3a_0, rfl, N3aq, e3a⟩ | ⟨hq3b_0, hq3b_1, rfl, N3bq, K3bq, F3b_0⟩ | ⟨hq3c_0, hq3c_1, rfl, N3cq, K3cq, F3c_0⟩)
 ·
  have N3a := Fr.app (Fr.nil n0) N3aq
  refine sO X3 hx y d7_12 #[rv v0_, iv 0, iv 2, rv b1, iv 0, .unset] rfl ?_
  refine sJ X3 hx y d7_14 rfl ?_
  refine sI X3 hx y d7_16 rfl ?_
  refine sV X3 hx y d7_17 (by decide) ?_
  refine sA X3 hx y d7_20 rfl rfl ?_
  refine sI X3 hx y d7_21 rfl ?_
  refine sI X3 hx y d7_22 rfl ?_
  refine oCS X3 hx hZ ho (oW hw 120 rfl) (bu31 hw) (rm27_51 hw hS O1 v0_ v1_ v2_ v3_ f2) 0 (by decide) [.ref v0_, .int 0, .int 2] rfl (lenOf pd32 rfl) hml rfl rfl rfl y d7_23 e3a ?_
  rintro _ T4 _ X4 ⟨b5, k6, rfl, N4q, K4q, y4_0, F4_0⟩
  have N4 := Fr.app N3a N4q
  have u4_0 : h0.size ≤ b5 := Nat.le_trans (K1.1) y4_0
  have O4 := O1.keep K4q all0
  have K4 := Keep.trans K1 K4q all0
  refine sQ X4 hx y d7_26 rfl #[rv v0_, iv 0, iv 2, rv b1, iv 0, rv b5] rfl ?_
  refine sB X4 hx y d7_28 rfl rfl ?_
  refine sJ X4 hx y d7_30 rfl ?_
  refine oCS X4 hx hZ ho (oW hw 136 rfl) (bu35 hw) (rm31_52 hw hS O4 b5 v1_ v2_ k6 F4_0 U1 U3 U4) 0 (by decide) [.ref b5, .int 0] rfl (lenOf pd36 rfl) hml rfl rfl rfl y d7_32 rfl ?_
  rintro _ T7 _ X7 ⟨rfl, N7q, e7⟩
  have N7 := Fr.app N4 N7q
  refine oS (XS.sipush X7.here hx rfl (hb y d7_35)) ?_
  refine sU X7 hx y d7_38 (tlt hq3a_0).2.2.1 54 (by decide) ?_
  refine sB X7 hx y d7_54 rfl rfl ?_
  exact own_retA X7 hx hr rfl rfl hl (hb y d7_56) (by decide) (by decide) (by rw [e7]; exact Or.inl ⟨b5, k6, rfl, N7, K4, u4_0, F4_0⟩)
 ·
  have N3b := Fr.app (Fr.nil n0) N3bq
  have O3b := O1.keep K3bq (allS g1 all0)
  have K3b := Keep.trans K1 K3bq (allS (Or.inr y1) all0)
  refine sO X3 hx y d7_12 #[rv v0_, iv 0, iv 2, rv b1, iv 1, .unset] rfl ?_
  refine sJ X3 hx y d7_14 rfl ?_
  refine sI X3 hx y d7_16 rfl ?_
  refine sV X3 hx y d7_17 (by decide) ?_
  refine sA X3 hx y d7_20 rfl rfl ?_
  refine sI X3 hx y d7_21 rfl ?_
  refine sI X3 hx y d7_22 rfl ?_
  have f8 := (f2.keep K3bq (ninS ne1_0 nin0))
  refine oCS X3 hx hZ ho (oW hw 120 rfl) (bu31 hw) (rm27_51 hw hS O3b v0_ v1_ v2_ v3_ f8) 0 (by decide) [.ref v0_, .int 0, .int 2] rfl (lenOf pd32 rfl) hml rfl rfl rfl y d7_23 rfl ?_
  rintro _ T9 _ X9 ⟨b10, k11, rfl, N9q, K9q, y9_0, F9_0⟩
  have N9 := Fr.app N3b N9q
  have u9_0 : h0.size ≤ b10 := Nat.le_trans (K3b.1) y9_0
  have O9 := O3b.keep K9q all0
  have K9 := Keep.trans K3b K9q all0
  refine sQ X9 hx y d7_26 rfl #[rv v0_, iv 0, iv 2, rv b1, iv 1, rv b10] rfl ?_
  refine sB X9 hx y d7_28 rfl rfl ?_
  refine sJ X9 hx y d7_30 rfl ?_
  refine oCS X9 hx hZ ho (oW hw 136 rfl) (bu35 hw) (rm31_53 hw hS O9 b10 v1_ v2_ k11 F9_0 U2 U5 U6) 0 (by decide) [.ref b10, .int 1] rfl (lenOf pd36 rfl) hml rfl rfl rfl y d7_32 rfl ?_
  rintro _ T12 _ X12 ⟨rfl, N12q, e12⟩
  have N12 := Fr.app N9 N12q
  refine oS (XS.sipush X12.here hx rfl (hb y d7_35)) ?_
  refine sU X12 hx y d7_38 (tlt hq3b_1).2.2.1 54 (by decide) ?_
  refine sB X12 hx y d7_54 rfl rfl ?_
  exact own_retA X12 hx hr rfl rfl hl (hb y d7_56) (by decide) (by decide) (by rw [e12]; exact Or.inl ⟨b10, k11, rfl, N12, K9, u9_0, F9_0⟩)
 ·
  have N3c := Fr.app (Fr.nil n0) N3cq
  have K3c := Keep.trans K1 K3cq (allS (Or.inr y1) all0)
  refine sO X3 hx y d7_12 #[rv v0_, iv 0, iv 2, rv b1, iv 2, .unset] rfl ?_
  refine sJ X3 hx y d7_14 rfl ?_
  refine sI X3 hx y d7_16 rfl ?_
  refine sU X3 hx y d7_17 (by decide) 57 (by decide) ?_
  refine sA X3 hx y d7_57 rfl rfl ?_
  exact own_retA X3 hx hr rfl rfl hl (hb y d7_58) (by decide) (by decide) (Or.inr (⟨b1, k1, hq3c_0, hq3c_1, rfl, N3c, K3c, y1, F3c_0⟩))


theorem rm9_55 (v0_ : Addr) (v1_ v2_ : Int32) (v3_ : ClassId) (U0 : Arv Z h0 v0_ v3_ .byte 4 [(.int (oLo v1_)), (.int (oHi v1_)), (.int (oLo v2_)), (.int (oHi v2_))] (.int 0)) :
  oM hw hS O0 l y9 cd9 (oR 0 0 0 0) #[.ref v0_, .int 2] (fun v h L => (v = some (.int 1) ∧ Fr n0 L ∧ h = h0)) := by
 refine own_met (own := "java/lang/StringUTF16") (plainFor_of_name pn14) rfl ?_
 intro p e s m u mt c s₁ hx y hml ho hq hr hl hZ e0 X0
 refine own_cast (g' := (mkF m 0 #[rv v0_, iv 2] [])) rfl ?_
 refine sI X0 hx y d9_0 rfl ?_
 refine sA X0 hx y d9_1 rfl rfl ?_
 refine sa X0 hx hZ e0 U0 y d9_2 ?_
 refine sK X0 hx y d9_3 ?_
 refine oV (b := (-2)) (by decide) ?_
 refine sD X0 hx y d9_4 ?_
 refine oS (XS.iushr X0.here hx rfl (hb y d9_6) rfl) ?_
 refine oV (b := 1) (by decide) ?_
 refine oS (XS.i2b X0.here hx rfl (hb y d9_7) rfl) ?_
 refine oV (b := 1) (by decide) ?_
 exact own_retN X0 hx (t := .byte) hr (by simp) hl (hb y d9_8) (by decide) (by decide) (by rw [e0]; exact ⟨rfl, (Fr.nil n0), rfl⟩)


theorem rm9_56 (v0_ : Addr) (v1_ v2_ : Int32) (v3_ : ClassId) (U0 : Arv Z h0 v0_ v3_ .byte 2 [(.int (oBy v1_)), (.int (oBy v2_))] (.int 0)) :
  oM hw hS O0 l y9 cd9 (oR 0 0 0 0) #[.ref v0_, .int 2] (fun v h L => (v = some (.int 0) ∧ Fr n0 L ∧ h = h0)) := by
 refine own_met (own := "java/lang/StringUTF16") (plainFor_of_name pn14) rfl ?_
 intro p e s m u mt c s₁ hx y hml ho hq hr hl hZ e0 X0
 refine own_cast (g' := (mkF m 0 #[rv v0_, iv 2] [])) rfl ?_
 refine sI X0 hx y d9_0 rfl ?_
 refine sA X0 hx y d9_1 rfl rfl ?_
 refine sa X0 hx hZ e0 U0 y d9_2 ?_
 refine sK X0 hx y d9_3 ?_
 refine oV (b := 0) (by decide) ?_
 refine sD X0 hx y d9_4 ?_
 refine oS (XS.iushr X0.here hx rfl (hb y d9_6) rfl) ?_
 refine oV (b := 0) (by decide) ?_
 refine oS (XS.i2b X0.here hx rfl (hb y d9_7) rfl) ?_
 refine oV (b := 0) (by decide) ?_
 exact own_retN X0 hx (t := .byte) hr (by simp) hl (hb y d9_8) (by decide) (by decide) (by rw [e0]; exact ⟨rfl, (Fr.nil n0), rfl⟩)


theorem rm5_57 (v0_ v1_ : Addr) (v2_ v3_ : Int32) (v4_ : ClassId) (U0 : Ga Z h0 v0_) (U1 : Fa Z h0 v0_ (.int 0)) (U2 : Fb Z h0 v0_ .null) (U3 : Arv Z h0 v1_ v4_ .char 2 [(.int v2_), (.int v3_)] (.int 0)) (U4 : n0 ≤ v0_) (U5 : nar .char v2_ = v2_) (U6 : nar .char v3_ = v3_) (U7 : ¬ (v2_ < (0 : Int32))) (U8 : ¬ ((65535 : Int32) < v2_)) (U9 : ¬ (v3_ < (0 : Int32))) (U10 : ¬ ((65535 : Int32) < v3_)) :
  oM hw hS O0 l y5 cd5 (oR 4 2 6 57) #[.ref v0_, .ref v1_, .int 0, .int 2, .null] (fun v h L => (∃ (b4 : Addr) (k5 : ClassId), v = none ∧ Fr n0 L ∧ Keep h0 h [v0_] ∧ h0.size ≤ b4 ∧ v0_ ≠ b4 ∧ Ga Z h v0_ ∧ Fa Z h v0_ (.int 1) ∧ Fb Z h v0_ (.ref b4) ∧ Arv Z h b4 k5 .byte 4 [(.int (oLo v2_)), (.int (oHi v2_)), (.int (oLo v3_)), (.int (oHi v3_))] (.int 0)) ∨ (∃ (b6 : Addr) (k7 : ClassId), ¬ ((255 : Int32) < v2_) ∧ ¬ ((255 : Int32) < v3_) ∧ v = none ∧ Fr n0 L ∧ Keep h0 h [v0_] ∧ h0.size ≤ b6 ∧ v0_ ≠ b6 ∧ Ga Z h v0_ ∧ Fa Z h v0_ (.int 0) ∧ Fb Z h v0_ (.ref b6) ∧ Arv Z h b6 k7 .byte 2 [(.int (oBy v2_)), (.int (oBy v3_))] (.int 0))) := by
 refine own_met (own := "java/lang/String") (plainFor_of_name pn46) rfl ?_
 intro p e s m u mt c s₁ hx y hml ho hq hr hl hZ e0 X0
 refine own_cast (g' := (mkF m 0 #[rv v0_, rv v1_, iv 0, iv 2, .val .null, .unset] [])) rfl ?_
 refine sA X0 hx y d5_0 rfl rfl ?_
 obtain ⟨T1, X1, e1, st1⟩ := initO X0 hx hZ ho (oW hw 23 rfl) (oW hw 24 rfl) (oW hw 25 rfl) e0 (g := (mkF m 1 #[rv v0_, rv v1_, iv 0, iv 2, .val .null, .unset] [.ref v0_])) rfl (by rw [hml]; rfl) rfl (hb y d5_1) (by decide) (W := 0) (by show 2 * 0 + _ ≤ _; exact Nat.le_of_eq rfl) (by decide)
 refine own_step st1 ?_
 refine sI X1 hx y d5_4 rfl ?_
 refine sS X1 hx y d5_5 (by decide) 27 (by decide) ?_
 obtain ⟨T2, X2, e2, st2⟩ := getS2 X1 hx hZ ho (host := "") (Or.inl (oW hw 26 rfl)) Via.refl e1 ((st_w3i_COMPACT_STRINGS hw hS).ext O0.2) (g := (mkF m 27 #[rv v0_, rv v1_, iv 0, iv 2, .val .null, .unset] [])) rfl (hb y d5_27)
 refine own_step st2 ?_
 refine sT X2 hx y d5_30 ((if0 _ _).trans (feq (ne_w3i_COMPACT_STRINGS hw hS)).1) ?_
 refine sA X2 hx y d5_33 rfl rfl ?_
 refine sI X2 hx y d5_34 rfl ?_
 refine sI X2 hx y d5_35 rfl ?_
 refine oCS X2 hx hZ ho (oW hw 27 rfl) (bu38 hw) (rm7_54 hw hS O0 v1_ v2_ v3_ v4_ U3 U5 U6 U7 U8 U9 U10) 0 (by decide) [.ref v1_, .int 0, .int 2] rfl (lenOf pd32 rfl) hml rfl rfl rfl y d5_36 e2 ?_
 rintro _ T3 _ X3 (⟨b4, k5, rfl, N3aq, K3aq, y3a_0, F3a_0⟩ | ⟨b6, k7, hq3b_0, hq3b_1, rfl, N3bq, K3bq, y3b_0, F3b_0⟩)
 ·
  have N3a := Fr.app (Fr.nil n0) N3aq
  have ne3a_0_0 : v0_ ≠ b4 := Nat.ne_of_lt (Nat.lt_of_lt_of_le U0.lt y3a_0)
  have u3a_0 : h0.size ≤ b4 := Nat.le_trans (Nat.le_refl _) y3a_0
  have O3a := O0.keep K3aq all0
  have K3a := Keep.trans (Keep.refl h0 [v0_]) K3aq all0
  refine sQ X3 hx y d5_39 rfl #[rv v0_, rv v1_, iv 0, iv 2, .val .null, rv b4] rfl ?_
  refine sA X3 hx y d5_41 rfl rfl ?_
  refine sB X3 hx y d5_42 rfl rfl ?_
  refine sI X3 hx y d5_44 rfl ?_
  refine oCS X3 hx hZ ho (oW hw 35 rfl) (bu41 hw) (rm9_55 hw hS O3a b4 v2_ v3_ k5 F3a_0) 1 (by decide) [.ref b4, .int 2] rfl (lenOf pd42 rfl) hml rfl rfl rfl y d5_45 rfl ?_
  rintro _ T8 _ X8 ⟨rfl, N8q, e8⟩
  have N8 := Fr.app N3a N8q
  have f9 := (U1.keep K3aq nin0)
  have f10 := (U0.keep K3aq)
  obtain ⟨T11, h11, X11, e11, W11, st11⟩ := putFN X8 hx hZ ho (oW hw 38 rfl) Via.refl e8 f9 f10 (Or.inr ⟨(oW hw 39 rfl), rfl, hq⟩) (oW hw 13 rfl) (ty := .byte) (v' := (.int 1)) (by decide) rfl (by decide) (g := (mkF m 48 #[rv v0_, rv v1_, iv 0, iv 2, .val .null, rv b4] [.int 1, .ref v0_])) rfl rfl (hb y d5_48)
  refine own_step st11 ?_
  have N11 := Fr.snoc X11 N8 U4
  have K11 := K3a.wr W11 (Or.inl (by simp))
  have Fw11 := f9.same W11
  refine sA X11 hx y d5_51 rfl rfl ?_
  refine sB X11 hx y d5_52 rfl rfl ?_
  have f12 := ((U2.keep K3aq nin0).other W11 (Or.inr (sn43 hw)))
  have f13 := (f10.wr W11)
  refine sp X11 hx hZ ho (oW hw 40 rfl) e11 f12 f13 (Or.inr ⟨(oW hw 41 rfl), rfl, hq⟩) (oW hw 13 rfl) (ty := (.array .byte)) (by decide) rfl rfl y d5_54 fun T14 h14 X14 e14 W14 => ?_
  have N14 := Fr.snoc X14 N11 U4
  have K14 := K11.wr W14 (Or.inl (by simp))
  have Fw14 := f12.same W14
  have f15 := (f13.wr W14)
  have f16 := (Fw11.other W14 (Or.inr (sn44 hw)))
  have f17 := ((F3a_0.other W11 (Ne.symm ne3a_0_0)).other W14 (Ne.symm ne3a_0_0))
  exact own_retV X14 hx hr hl (hb y d5_57) (by decide) (by decide) (by rw [e14]; exact Or.inl ⟨b4, k5, rfl, N14, K14, u3a_0, ne3a_0_0, f15, f16, Fw14, f17⟩)
 ·
  have N3b := Fr.app (Fr.nil n0) N3bq
  have ne3b_0_0 : v0_ ≠ b6 := Nat.ne_of_lt (Nat.lt_of_lt_of_le U0.lt y3b_0)
  have u3b_0 : h0.size ≤ b6 := Nat.le_trans (Nat.le_refl _) y3b_0
  have O3b := O0.keep K3bq all0
  have K3b := Keep.trans (Keep.refl h0 [v0_]) K3bq all0
  refine sQ X3 hx y d5_39 rfl #[rv v0_, rv v1_, iv 0, iv 2, .val .null, rv b6] rfl ?_
  refine sA X3 hx y d5_41 rfl rfl ?_
  refine sB X3 hx y d5_42 rfl rfl ?_
  refine sI X3 hx y d5_44 rfl ?_
  refine oCS X3 hx hZ ho (oW hw 35 rfl) (bu41 hw) (rm9_56 hw hS O3b b6 v2_ v3_ k7 F3b_0) 1 (by decide) [.ref b6, .int 2] rfl (lenOf pd42 rfl) hml rfl rfl rfl y d5_45 rfl ?_
  rintro _ T18 _ X18 ⟨rfl, N18q, e18⟩
  have N18 := Fr.app N3b N18q
  have f19 := (U1.keep K3bq nin0)
  have f20 := (U0.keep K3bq)
  obtain ⟨T21, h21, X21, e21, W21, st21⟩ := putFN X18 hx hZ ho (oW hw 38 rfl) Via.refl e18 f19 f20 (Or.inr ⟨(oW hw 39 rfl), rfl, hq⟩) (oW hw 13 rfl) (ty := .byte) (v' := (.int 0)) (by decide) rfl (by decide) (g := (mkF m 48 #[rv v0_, rv v1_, iv 0, iv 2, .val .null, rv b6] [.int 0, .ref v0_])) rfl rfl (hb y d5_48)
  refine own_step st21 ?_
  have N21 := Fr.snoc X21 N18 U4
  have K21 := K3b.wr W21 (Or.inl (by simp))
  have Fw21 := f19.same W21
  refine sA X21 hx y d5_51 rfl rfl ?_
  refine sB X21 hx y d5_52 rfl rfl ?_
  have f22 := ((U2.keep K3bq nin0).other W21 (Or.inr (sn43 hw)))
  have f23 := (f20.wr W21)
  refine sp X21 hx hZ ho (oW hw 40 rfl) e21 f22 f23 (Or.inr ⟨(oW hw 41 rfl), rfl, hq⟩) (oW hw 13 rfl) (ty := (.array .byte)) (by decide) rfl rfl y d5_54 fun T24 h24 X24 e24 W24 => ?_
  have N24 := Fr.snoc X24 N21 U4
  have K24 := K21.wr W24 (Or.inl (by simp))
  have Fw24 := f22.same W24
  have f25 := (f23.wr W24)
  have f26 := (Fw21.other W24 (Or.inr (sn44 hw)))
  have f27 := ((F3b_0.other W21 (Ne.symm ne3b_0_0)).other W24 (Ne.symm ne3b_0_0))
  exact own_retV X24 hx hr hl (hb y d5_57) (by decide) (by decide) (by rw [e24]; exact Or.inr (⟨b6, k7, hq3b_0, hq3b_1, rfl, N24, K24, u3b_0, ne3b_0_0, f25, f26, Fw24, f27⟩))


theorem rm4_58 (v0_ v1_ : Addr) (v2_ v3_ : Int32) (v4_ : ClassId) (U0 : Ga Z h0 v0_) (U1 : Fa Z h0 v0_ (.int 0)) (U2 : Fb Z h0 v0_ .null) (U3 : Arv Z h0 v1_ v4_ .char 2 [(.int v2_), (.int v3_)] (.int 0)) (U4 : n0 ≤ v0_) (U5 : nar .char v2_ = v2_) (U6 : nar .char v3_ = v3_) (U7 : ¬ (v2_ < (0 : Int32))) (U8 : ¬ ((65535 : Int32) < v2_)) (U9 : ¬ (v3_ < (0 : Int32))) (U10 : ¬ ((65535 : Int32) < v3_)) :
  oM hw hS O0 l y4 cd4 (oR 5 2 6 74) #[.ref v0_, .ref v1_] (fun v h L => (∃ (b3 : Addr) (k4 : ClassId), v = none ∧ Fr n0 L ∧ Keep h0 h [v0_] ∧ h0.size ≤ b3 ∧ v0_ ≠ b3 ∧ Ga Z h v0_ ∧ Fa Z h v0_ (.int 1) ∧ Fb Z h v0_ (.ref b3) ∧ Arv Z h b3 k4 .byte 4 [(.int (oLo v2_)), (.int (oHi v2_)), (.int (oLo v3_)), (.int (oHi v3_))] (.int 0)) ∨ (∃ (b5 : Addr) (k6 : ClassId), ¬ ((255 : Int32) < v2_) ∧ ¬ ((255 : Int32) < v3_) ∧ v = none ∧ Fr n0 L ∧ Keep h0 h [v0_] ∧ h0.size ≤ b5 ∧ v0_ ≠ b5 ∧ Ga Z h v0_ ∧ Fa Z h v0_ (.int 0) ∧ Fb Z h v0_ (.ref b5) ∧ Arv Z h b5 k6 .byte 2 [(.int (oBy v2_)), (.int (oBy v3_))] (.int 0))) := by
 refine own_met (own := "java/lang/String") (plainFor_of_name pn46) rfl ?_
 intro p e s m u mt c s₁ hx y hml ho hq hr hl hZ e0 X0
 refine own_cast (g' := (mkF m 0 #[rv v0_, rv v1_] [])) rfl ?_
 refine sA X0 hx y d4_0 rfl rfl ?_
 refine sA X0 hx y d4_1 rfl rfl ?_
 refine sC X0 hx y d4_2 ?_
 refine sA X0 hx y d4_3 rfl rfl ?_
 refine sa X0 hx hZ e0 U3 y d4_4 ?_
 refine oS (XS.aconstNull X0.here hx rfl (hb y d4_5)) ?_
 refine oCN X0 hx hZ ho (oW hw 19 rfl) (bu47 hw) (rm5_57 hw hS O0 v0_ v1_ v2_ v3_ v4_ U0 U1 U2 U3 U4 U5 U6 U7 U8 U9 U10) 0 (by decide) [.ref v1_, .int 0, .int 2, .null] rfl (lenOf pd48 rfl) hml rfl rfl rfl y d4_6 e0 ?_
 rintro _ T2 _ X2 (⟨b3, k4, rfl, N2aq, K2aq, y2a_0, m2a_0, F2a_0, F2a_1, F2a_2, F2a_3⟩ | ⟨b5, k6, hq2b_0, hq2b_1, rfl, N2bq, K2bq, y2b_0, m2b_0, F2b_0, F2b_1, F2b_2, F2b_3⟩)
 ·
  have N2a := Fr.app (Fr.nil n0) N2aq
  have u2a_0 : h0.size ≤ b3 := Nat.le_trans (Nat.le_refl _) y2a_0
  have K2a := Keep.trans (Keep.refl h0 [v0_]) K2aq (allS (Or.inl (by simp)) all0)
  exact own_retV X2 hx hr hl (hb y d4_9) (by decide) (by decide) (Or.inl ⟨b3, k4, rfl, N2a, K2a, u2a_0, m2a_0, F2a_0, F2a_1, F2a_2, F2a_3⟩)
 ·
  have N2b := Fr.app (Fr.nil n0) N2bq
  have u2b_0 : h0.size ≤ b5 := Nat.le_trans (Nat.le_refl _) y2b_0
  have K2b := Keep.trans (Keep.refl h0 [v0_]) K2bq (allS (Or.inl (by simp)) all0)
  exact own_retV X2 hx hr hl (hb y d4_9) (by decide) (by decide) (Or.inr (⟨b5, k6, hq2b_0, hq2b_1, rfl, N2b, K2b, u2b_0, m2b_0, F2b_0, F2b_1, F2b_2, F2b_3⟩))


theorem rm3_59 (v0_ v1_ v2_ v3_ : Int32) (U0 : nar .char v0_ = v0_) (U1 : nar .char v1_ = v1_) (U2 : ¬ (v0_ < (0 : Int32))) (U3 : ¬ ((65535 : Int32) < v0_)) (U4 : ¬ (v1_ < (0 : Int32))) (U5 : ¬ ((65535 : Int32) < v1_)) :
  oM hw hS O0 l y3 cd3 (oR 6 4 12 88) #[.int 2, .int v0_, .int v1_, .int v2_, .int v3_] (fun v h L => (∃ (b1 : Addr) (b9 : Addr) (k10 : ClassId), v = some (.ref b1) ∧ Fr n0 L ∧ Keep h0 h [] ∧ h0.size ≤ b1 ∧ h0.size ≤ b9 ∧ b1 ≠ b9 ∧ Ga Z h b1 ∧ Fa Z h b1 (.int 1) ∧ Fb Z h b1 (.ref b9) ∧ Arv Z h b9 k10 .byte 4 [(.int (oLo v0_)), (.int (oHi v0_)), (.int (oLo v1_)), (.int (oHi v1_))] (.int 0)) ∨ (∃ (b1 : Addr) (b11 : Addr) (k12 : ClassId), ¬ ((255 : Int32) < v0_) ∧ ¬ ((255 : Int32) < v1_) ∧ v = some (.ref b1) ∧ Fr n0 L ∧ Keep h0 h [] ∧ h0.size ≤ b1 ∧ h0.size ≤ b11 ∧ b1 ≠ b11 ∧ Ga Z h b1 ∧ Fa Z h b1 (.int 0) ∧ Fb Z h b1 (.ref b11) ∧ Arv Z h b11 k12 .byte 2 [(.int (oBy v0_)), (.int (oBy v1_))] (.int 0))) := by
 refine own_met (own := "com/example/linepack/linepack/ValuesIdPinLaw") (plainFor_of_name pn2) rfl ?_
 intro p e s m u mt c s₁ hx y hml ho hq hr hl hZ e0 X0
 refine own_cast (g' := (mkF m 0 #[iv 2, iv v0_, iv v1_, iv v2_, iv v3_] [])) rfl ?_
 refine sI X0 hx y d3_0 rfl ?_
 refine sC X0 hx y d3_1 ?_
 refine sU X0 hx y d3_2 (by decide) 20 (by decide) ?_
 refine sI X0 hx y d3_20 rfl ?_
 refine sC X0 hx y d3_21 ?_
 refine sV X0 hx y d3_22 (by decide) ?_
 obtain ⟨T1, h1, X1, e1, E1, A1, D1, -, st1⟩ := newO X0 hx hZ ho (oW hw 12 rfl) (oW hw 13 rfl) (oW hw 14 rfl) e0 (g := (mkF m 25 #[iv 2, iv v0_, iv v1_, iv v2_, iv v3_] [])) rfl (hb y d3_25) (by decide) (by decide)
 obtain ⟨b1, z1⟩ : ∃ z, z = h0.size := ⟨_, rfl⟩
 rw [← z1] at A1 D1 st1
 refine own_step st1 ?_
 have g1 : n0 ≤ b1 := Nat.le_trans (O0.1 ▸ O0.2.1) (Nat.le_of_eq z1.symm)
 have y1 : h0.size ≤ b1 := Nat.le_trans (Nat.le_refl _) (Nat.le_of_eq z1.symm)
 have O1 := O0.ext E1
 have K1 := (Keep.refl h0 []).ext E1
 have F1_39 : Fa Z h1 b1 (.int 0) := D1 (Or.inr (oW hw 39 rfl)) (ty := .byte) (by decide)
 have F1_41 : Fb Z h1 b1 .null := D1 (Or.inr (oW hw 41 rfl)) (ty := (.array .byte)) (by decide)
 refine sF X1 hx y d3_28 rfl ?_
 refine sC X1 hx y d3_29 ?_
 obtain ⟨T2, h2, k2, X2, e2, E2, A2, st2⟩ := newP X1 hx hZ (oW hw 15 rfl) e1 (g := (mkF m 30 #[iv 2, iv v0_, iv v1_, iv v2_, iv v3_] [.int 2, .ref b1, .ref b1])) rfl (hb y d3_30) rfl (by decide) (cap := 2) (by decide) (by decide) (by decide) (by decide)
 obtain ⟨b2, z2⟩ : ∃ z, z = h1.size := ⟨_, rfl⟩
 rw [← z2] at A2 st2
 refine own_step st2 ?_
 have g2 : n0 ≤ b2 := Nat.le_trans (O1.1 ▸ O1.2.1) (Nat.le_of_eq z2.symm)
 have ne2_0 : b1 ≠ b2 := Nat.ne_of_lt (Nat.lt_of_lt_of_le A1.lt (Nat.le_of_eq z2.symm))
 have y2 : h0.size ≤ b2 := Nat.le_trans (K1.1) (Nat.le_of_eq z2.symm)
 have O2 := O1.ext E2
 have K2 := K1.ext E2
 have V2 : Arv Z h2 b2 k2 .char 2 [(.int 0), (.int 0)] (.int 0) := (Arv.new A2 (by decide)).pad (pad_rep [] (.int 0) 2)
 refine sF X2 hx y d3_32 rfl ?_
 refine sC X2 hx y d3_33 ?_
 refine sI X2 hx y d3_34 rfl ?_
 obtain ⟨c3, r3, q3, t3, u3, y3h, y3g⟩ := id V2
 have i3 : ¬ ((0 : Int32) < 0 ∨ c3.slots.size ≤ ((0 : Int32)).toNatClampNeg) := inb_of t3 ⟨by decide, by decide⟩
 obtain ⟨T3, h3, X3, e3, W3, st3⟩ := stC X2 hx hZ e2 r3 (j := (0 : Int32)) i3 (g := (mkF m 35 #[iv 2, iv v0_, iv v1_, iv v2_, iv v3_] [.int v0_, .int 0, .ref b2, .ref b2, .ref b1, .ref b1])) rfl rfl (hb y d3_35)
 rw [U0] at W3
 refine own_step st3 ?_
 have N3 := Fr.snoc X3 (Fr.nil n0) g2
 have O3 := O2.wr W3 g2
 have K3 := K2.wr W3 (Or.inr y2)
 have V3 : Arv Z h3 b2 k2 .char 2 [(.int v0_), (.int 0)] (.int 0) := Arv.set r3 q3 t3 u3 y3h y3g (own_fitc U0) W3 0 rfl (Nat.le_of_ble_eq_true rfl)
 refine sF X3 hx y d3_36 rfl ?_
 refine sC X3 hx y d3_37 ?_
 refine sI X3 hx y d3_38 rfl ?_
 obtain ⟨c4, r4, q4, t4, u4, y4h, y4g⟩ := id V3
 have i4 : ¬ ((1 : Int32) < 0 ∨ c4.slots.size ≤ ((1 : Int32)).toNatClampNeg) := inb_of t4 ⟨by decide, by decide⟩
 obtain ⟨T4, h4, X4, e4, W4, st4⟩ := stC X3 hx hZ e3 r4 (j := (1 : Int32)) i4 (g := (mkF m 39 #[iv 2, iv v0_, iv v1_, iv v2_, iv v3_] [.int v1_, .int 1, .ref b2, .ref b2, .ref b1, .ref b1])) rfl rfl (hb y d3_39)
 rw [U1] at W4
 refine own_step st4 ?_
 have N4 := Fr.snoc X4 N3 g2
 have O4 := O3.wr W4 g2
 have K4 := K3.wr W4 (Or.inr y2)
 have V4 : Arv Z h4 b2 k2 .char 2 [(.int v0_), (.int v1_)] (.int 0) := Arv.set r4 q4 t4 u4 y4h y4g (own_fitc U1) W4 1 rfl (Nat.le_of_ble_eq_true rfl)
 have f5 := (((A1.ext E2).wr W3).wr W4)
 have f6 := (((F1_39.ext E2).other W3 (Or.inl ne2_0)).other W4 (Or.inl ne2_0))
 have f7 := (((F1_41.ext E2).other W3 (Or.inl ne2_0)).other W4 (Or.inl ne2_0))
 refine oCN X4 hx hZ ho (oW hw 16 rfl) (bu50 hw) (rm4_58 hw hS O4 b1 b2 v0_ v1_ k2 f5 f6 f7 V4 g1 U0 U1 U2 U3 U4 U5) 1 (by decide) [.ref b2] rfl (lenOf pd51 rfl) hml rfl rfl rfl y d3_40 e4 ?_
 rintro _ T8 _ X8 (⟨b9, k10, rfl, N8aq, K8aq, y8a_0, m8a_0, F8a_0, F8a_1, F8a_2, F8a_3⟩ | ⟨b11, k12, hq8b_0, hq8b_1, rfl, N8bq, K8bq, y8b_0, m8b_0, F8b_0, F8b_1, F8b_2, F8b_3⟩)
 ·
  have N8a := Fr.app N4 N8aq
  have u8a_0 : h0.size ≤ b9 := Nat.le_trans (K4.1) y8a_0
  have K8a := Keep.trans K4 K8aq (allS (Or.inr y1) all0)
  exact own_retA X8 hx hr rfl rfl hl (hb y d3_43) (by decide) (by decide) (Or.inl ⟨b1, b9, k10, rfl, N8a, K8a, y1, u8a_0, m8a_0, F8a_0, F8a_1, F8a_2, F8a_3⟩)
 ·
  have N8b := Fr.app N4 N8bq
  have u8b_0 : h0.size ≤ b11 := Nat.le_trans (K4.1) y8b_0
  have K8b := Keep.trans K4 K8bq (allS (Or.inr y1) all0)
  exact own_retA X8 hx hr rfl rfl hl (hb y d3_43) (by decide) (by decide) (Or.inr (⟨b1, b11, k12, hq8b_0, hq8b_1, rfl, N8b, K8b, y1, u8b_0, m8b_0, F8b_0, F8b_1, F8b_2, F8b_3⟩))


theorem rm11_60 (v0_ v1_ : Addr) (v2_ v3_ : Int32) (v4_ : ClassId) (U0 : Fb Z h0 v0_ (.ref v1_)) (U1 : Arv Z h0 v1_ v4_ .byte 4 [(.int (oLo v2_)), (.int (oHi v2_)), (.int (oLo v3_)), (.int (oHi v3_))] (.int 0)) :
  oM hw hS O0 l y11 cd11 (oR 0 0 0 0) #[.ref v0_] (fun v h L => (v = some (.int 0) ∧ Fr n0 L ∧ h = h0)) := by
 refine own_met (own := "java/lang/String") (plainFor_of_name pn46) rfl ?_
 intro p e s m u mt c s₁ hx y hml ho hq hr hl hZ e0 X0
 refine own_cast (g' := (mkF m 0 #[rv v0_] [])) rfl ?_
 refine sA X0 hx y d11_0 rfl rfl ?_
 refine sg X0 hx hZ ho (oW hw 40 rfl) e0 U0 y d11_1 fun T1 X1 e1 => ?_
 refine sa X1 hx hZ e1 U1 y d11_4 ?_
 refine sS X1 hx y d11_5 (by decide) 12 (by decide) ?_
 refine sC X1 hx y d11_12 ?_
 exact own_retN X1 hx (t := .boolean) hr (by simp) hl (hb y d11_13) (by decide) (by decide) (by rw [e1]; exact ⟨rfl, (Fr.nil n0), rfl⟩)


theorem rm12_61 (v0_ v1_ : Addr) (v2_ v3_ : Int32) (v4_ : ClassId) (U0 : Ga Z h0 v0_) (U1 : Fa Z h0 v0_ (.int 1)) (U2 : Fb Z h0 v0_ (.ref v1_)) (U3 : Arv Z h0 v1_ v4_ .byte 4 [(.int (oLo v2_)), (.int (oHi v2_)), (.int (oLo v3_)), (.int (oHi v3_))] (.int 0)) :
  oM hw hS O0 l y12 cd12 (oR 1 0 0 13) #[.ref v0_] (fun v h L => (v = some (.int 2) ∧ Fr n0 L ∧ h = h0)) := by
 refine own_met (own := "java/lang/String") (plainFor_of_name pn46) rfl ?_
 intro p e s m u mt c s₁ hx y hml ho hq hr hl hZ e0 X0
 refine own_cast (g' := (mkF m 0 #[rv v0_] [])) rfl ?_
 refine sA X0 hx y d12_0 rfl rfl ?_
 refine sg X0 hx hZ ho (oW hw 40 rfl) e0 U2 y d12_1 fun T1 X1 e1 => ?_
 refine sa X1 hx hZ e1 U3 y d12_4 ?_
 refine sA X1 hx y d12_5 rfl rfl ?_
 refine oCV X1 hx hZ ho (oW hw 59 rfl) (bu63 hw) U0 (rm13_15 hw hS O0 v0_ U1) 1 (by decide) [] rfl (lenOf pd64 rfl) hml rfl rfl rfl y d12_6 e1 ?_
 rintro _ T3 _ X3 ⟨rfl, N3q, e3⟩
 have N3 := Fr.app (Fr.nil n0) N3q
 refine sM X3 hx y d12_9 ?_
 refine oV (b := 2) (by decide) ?_
 exact own_retI X3 hx hr hl (hb y d12_10) (by decide) (by decide) (by rw [e3]; exact ⟨rfl, N3, rfl⟩)


theorem rm34_62 (v0_ : Addr) (v1_ v2_ : Int32) (v3_ : ClassId) (U0 : Arv Z h0 v0_ v3_ .byte 4 [(.int (oLo v1_)), (.int (oHi v1_)), (.int (oLo v2_)), (.int (oHi v2_))] (.int 0)) :
  oM hw hS O0 l y34 cd34 (oR 0 0 0 0) #[.ref v0_] (fun v h L => (v = some (.int 2) ∧ Fr n0 L ∧ h = h0)) := by
 refine own_met (own := "java/lang/StringUTF16") (plainFor_of_name pn14) rfl ?_
 intro p e s m u mt c s₁ hx y hml ho hq hr hl hZ e0 X0
 refine own_cast (g' := (mkF m 0 #[rv v0_] [])) rfl ?_
 refine sA X0 hx y d34_0 rfl rfl ?_
 refine sa X0 hx hZ e0 U0 y d34_1 ?_
 refine sC X0 hx y d34_2 ?_
 refine sM X0 hx y d34_3 ?_
 refine oV (b := 2) (by decide) ?_
 exact own_retI X0 hx hr hl (hb y d34_4) (by decide) (by decide) (by rw [e0]; exact ⟨rfl, (Fr.nil n0), rfl⟩)


theorem rm18_63  :
  oM hw hS O0 l y18 cd18 (oR 0 0 0 0) #[.int 0, .int 2, .null] (fun v h L => (v = some (.int 0) ∧ Fr n0 L ∧ h = h0)) := by
 refine own_met (own := "jdk/internal/util/Preconditions") (plainFor_of_name pn81) rfl ?_
 intro p e s m u mt c s₁ hx y hml ho hq hr hl hZ e0 X0
 refine own_cast (g' := (mkF m 0 #[iv 0, iv 2, .val .null] [])) rfl ?_
 refine sI X0 hx y d18_0 rfl ?_
 refine sT X0 hx y d18_1 (by decide) ?_
 refine sI X0 hx y d18_4 rfl ?_
 refine sI X0 hx y d18_5 rfl ?_
 refine sU X0 hx y d18_6 (by decide) 16 (by decide) ?_
 refine sI X0 hx y d18_16 rfl ?_
 exact own_retI X0 hx hr hl (hb y d18_17) (by decide) (by decide) (by rw [e0]; exact ⟨rfl, (Fr.nil n0), rfl⟩)


theorem rm18_64 (v0_ : Addr) :
  oM hw hS O0 l y18 cd18 (oR 0 0 0 0) #[.int 0, .int 2, .ref v0_] (fun v h L => (v = some (.int 0) ∧ Fr n0 L ∧ h = h0)) := by
 refine own_met (own := "jdk/internal/util/Preconditions") (plainFor_of_name pn81) rfl ?_
 intro p e s m u mt c s₁ hx y hml ho hq hr hl hZ e0 X0
 refine own_cast (g' := (mkF m 0 #[iv 0, iv 2, rv v0_] [])) rfl ?_
 refine sI X0 hx y d18_0 rfl ?_
 refine sT X0 hx y d18_1 (by decide) ?_
 refine sI X0 hx y d18_4 rfl ?_
 refine sI X0 hx y d18_5 rfl ?_
 refine sU X0 hx y d18_6 (by decide) 16 (by decide) ?_
 refine sI X0 hx y d18_16 rfl ?_
 exact own_retI X0 hx hr hl (hb y d18_17) (by decide) (by decide) (by rw [e0]; exact ⟨rfl, (Fr.nil n0), rfl⟩)


theorem rm17_65  :
  oM hw hS O0 l y17 cd17 (oR 1 0 0 14) #[.int 0, .int 2] (fun v h L => (v = none ∧ Fr n0 L ∧ h = h0)) := by
 refine own_met (own := "java/lang/String") (plainFor_of_name pn46) rfl ?_
 intro p e s m u mt c s₁ hx y hml ho hq hr hl hZ e0 X0
 refine own_cast (g' := (mkF m 0 #[iv 0, iv 2] [])) rfl ?_
 refine sI X0 hx y d17_0 rfl ?_
 refine sI X0 hx y d17_1 rfl ?_
 rcases (sr0 hw hS) with hs1 | ⟨a1, hs1⟩
 ·
  obtain ⟨T1n, X1n, e1n, st1n⟩ := getS2 X0 hx hZ ho (host := "") (Or.inl (oW hw 81 rfl)) Via.refl e0 (hs1.ext O0.2) (g := (mkF m 2 #[iv 0, iv 2] [.int 2, .int 0])) rfl (hb y d17_2)
  refine own_step st1n ?_
  refine oCS X1n hx hZ ho (oW hw 83 rfl) (bu82 hw) (rm18_63 hw hS O0) 0 (by decide) [.int 0, .int 2, .null] rfl (lenOf pd83 rfl) hml rfl rfl rfl y d17_5 e1n ?_
  rintro _ T2 _ X2 ⟨rfl, N2q, e2⟩
  have N2 := Fr.app (Fr.nil n0) N2q
  refine sG X2 hx y d17_8 rfl ?_
  exact own_retV X2 hx hr hl (hb y d17_9) (by decide) (by decide) (by rw [e2]; exact ⟨rfl, N2, rfl⟩)
 ·
  obtain ⟨T1r, X1r, e1r, st1r⟩ := getS2 X0 hx hZ ho (host := "") (Or.inl (oW hw 81 rfl)) Via.refl e0 (hs1.ext O0.2) (g := (mkF m 2 #[iv 0, iv 2] [.int 2, .int 0])) rfl (hb y d17_2)
  refine own_step st1r ?_
  refine oCS X1r hx hZ ho (oW hw 83 rfl) (bu82 hw) (rm18_64 hw hS O0 a1) 0 (by decide) [.int 0, .int 2, .ref a1] rfl (lenOf pd83 rfl) hml rfl rfl rfl y d17_5 e1r ?_
  rintro _ T3 _ X3 ⟨rfl, N3q, e3⟩
  have N3 := Fr.app (Fr.nil n0) N3q
  refine sG X3 hx y d17_8 rfl ?_
  exact own_retV X3 hx hr hl (hb y d17_9) (by decide) (by decide) (by rw [e3]; exact ⟨rfl, N3, rfl⟩)


theorem rm33_66 (v0_ : Addr) (v1_ v2_ : Int32) (v3_ : ClassId) (U0 : Arv Z h0 v0_ v3_ .byte 4 [(.int (oLo v1_)), (.int (oHi v1_)), (.int (oLo v2_)), (.int (oHi v2_))] (.int 0)) :
  oM hw hS O0 l y33 cd33 (oR 2 0 0 27) #[.int 0, .ref v0_] (fun v h L => (v = none ∧ Fr n0 L ∧ h = h0)) := by
 refine own_met (own := "java/lang/StringUTF16") (plainFor_of_name pn14) rfl ?_
 intro p e s m u mt c s₁ hx y hml ho hq hr hl hZ e0 X0
 refine own_cast (g' := (mkF m 0 #[iv 0, rv v0_] [])) rfl ?_
 refine sI X0 hx y d33_0 rfl ?_
 refine sA X0 hx y d33_1 rfl rfl ?_
 refine oCS X0 hx hZ ho (oW hw 145 rfl) (bu76 hw) (rm34_62 hw hS O0 v0_ v1_ v2_ v3_ U0) 1 (by decide) [.ref v0_] rfl (lenOf pd77 rfl) hml rfl rfl rfl y d33_2 e0 ?_
 rintro _ T1 _ X1 ⟨rfl, N1q, e1⟩
 have N1 := Fr.app (Fr.nil n0) N1q
 refine oCS X1 hx hZ ho (oW hw 148 rfl) (bu85 hw) (rm17_65 hw hS O0) 0 (by decide) [.int 0, .int 2] rfl (lenOf pd86 rfl) hml rfl rfl rfl y d33_5 e1 ?_
 rintro _ T2 _ X2 ⟨rfl, N2q, e2⟩
 have N2 := Fr.app N1 N2q
 exact own_retV X2 hx hr hl (hb y d33_8) (by decide) (by decide) (by rw [e2]; exact ⟨rfl, N2, rfl⟩)


theorem rm32_67 (v0_ : Addr) (v1_ v2_ : Int32) (v3_ : ClassId) (U0 : Arv Z h0 v0_ v3_ .byte 4 [(.int (oLo v1_)), (.int (oHi v1_)), (.int (oLo v2_)), (.int (oHi v2_))] (.int 0)) (U1 : nar .char v1_ = v1_) (U2 : ¬ (v1_ < (0 : Int32))) (U3 : ¬ ((65535 : Int32) < v1_)) :
  oM hw hS O0 l y32 cd32 (oR 3 0 0 40) #[.ref v0_, .int 0] (fun v h L => (v = some (.int v1_) ∧ Fr n0 L ∧ h = h0)) := by
 refine own_met (own := "java/lang/StringUTF16") (plainFor_of_name pn14) rfl ?_
 intro p e s m u mt c s₁ hx y hml ho hq hr hl hZ e0 X0
 refine own_cast (g' := (mkF m 0 #[rv v0_, iv 0] [])) rfl ?_
 refine sI X0 hx y d32_0 rfl ?_
 refine sA X0 hx y d32_1 rfl rfl ?_
 refine oCS X0 hx hZ ho (oW hw 142 rfl) (bu88 hw) (rm33_66 hw hS O0 v0_ v1_ v2_ v3_ U0) 0 (by decide) [.int 0, .ref v0_] rfl (lenOf pd89 rfl) hml rfl rfl rfl y d32_2 e0 ?_
 rintro _ T1 _ X1 ⟨rfl, N1q, e1⟩
 have N1 := Fr.app (Fr.nil n0) N1q
 refine sA X1 hx y d32_5 rfl rfl ?_
 refine sI X1 hx y d32_6 rfl ?_
 refine oCS X1 hx hZ ho (oW hw 136 rfl) (bu35 hw) (rm31_52 hw hS O0 v0_ v1_ v2_ v3_ U0 U1 U2 U3) 0 (by decide) [.ref v0_, .int 0] rfl (lenOf pd36 rfl) hml rfl rfl rfl y d32_7 e1 ?_
 rintro _ T2 _ X2 ⟨rfl, N2q, e2⟩
 have N2 := Fr.app N1 N2q
 exact own_retN X2 hx (t := .char) hr (by simp) hl (hb y d32_10) (by decide) (by decide) (by rw [U1, e2]; exact ⟨rfl, N2, rfl⟩)


theorem rm14_68 (v0_ v1_ : Addr) (v2_ v3_ : Int32) (v4_ : ClassId) (U0 : Ga Z h0 v0_) (U1 : Fa Z h0 v0_ (.int 1)) (U2 : Fb Z h0 v0_ (.ref v1_)) (U3 : Arv Z h0 v1_ v4_ .byte 4 [(.int (oLo v2_)), (.int (oHi v2_)), (.int (oLo v3_)), (.int (oHi v3_))] (.int 0)) (U4 : nar .char v2_ = v2_) (U5 : ¬ (v2_ < (0 : Int32))) (U6 : ¬ ((65535 : Int32) < v2_)) :
  oM hw hS O0 l y14 cd14 (oR 4 0 0 53) #[.ref v0_, .int 0] (fun v h L => (v = some (.int v2_) ∧ Fr n0 L ∧ h = h0)) := by
 refine own_met (own := "java/lang/String") (plainFor_of_name pn46) rfl ?_
 intro p e s m u mt c s₁ hx y hml ho hq hr hl hZ e0 X0
 refine own_cast (g' := (mkF m 0 #[rv v0_, iv 0] [])) rfl ?_
 refine sA X0 hx y d14_0 rfl rfl ?_
 refine oCV X0 hx hZ ho (oW hw 69 rfl) (bu71 hw) U0 (rm15_17 hw hS O0 v0_ U1) 0 (by decide) [] rfl (lenOf pd59 rfl) hml rfl rfl rfl y d14_1 e0 ?_
 rintro _ T1 _ X1 ⟨rfl, N1q, e1⟩
 have N1 := Fr.app (Fr.nil n0) N1q
 refine sS X1 hx y d14_4 (by decide) 16 (by decide) ?_
 refine sA X1 hx y d14_16 rfl rfl ?_
 refine sg X1 hx hZ ho (oW hw 40 rfl) e1 U2 y d14_17 fun T2 X2 e2 => ?_
 refine sI X2 hx y d14_20 rfl ?_
 refine oCS X2 hx hZ ho (oW hw 139 rfl) (bu91 hw) (rm32_67 hw hS O0 v1_ v2_ v3_ v4_ U3 U4 U5 U6) 0 (by decide) [.ref v1_, .int 0] rfl (lenOf pd36 rfl) hml rfl rfl rfl y d14_21 e2 ?_
 rintro _ T3 _ X3 ⟨rfl, N3q, e3⟩
 have N3 := Fr.app N1 N3q
 exact own_retN X3 hx (t := .char) hr (by simp) hl (hb y d14_24) (by decide) (by decide) (by rw [U4, e3]; exact ⟨rfl, N3, rfl⟩)


theorem rm18_69  :
  oM hw hS O0 l y18 cd18 (oR 0 0 0 0) #[.int 1, .int 2, .null] (fun v h L => (v = some (.int 1) ∧ Fr n0 L ∧ h = h0)) := by
 refine own_met (own := "jdk/internal/util/Preconditions") (plainFor_of_name pn81) rfl ?_
 intro p e s m u mt c s₁ hx y hml ho hq hr hl hZ e0 X0
 refine own_cast (g' := (mkF m 0 #[iv 1, iv 2, .val .null] [])) rfl ?_
 refine sI X0 hx y d18_0 rfl ?_
 refine sT X0 hx y d18_1 (by decide) ?_
 refine sI X0 hx y d18_4 rfl ?_
 refine sI X0 hx y d18_5 rfl ?_
 refine sU X0 hx y d18_6 (by decide) 16 (by decide) ?_
 refine sI X0 hx y d18_16 rfl ?_
 exact own_retI X0 hx hr hl (hb y d18_17) (by decide) (by decide) (by rw [e0]; exact ⟨rfl, (Fr.nil n0), rfl⟩)


theorem rm18_70 (v0_ : Addr) :
  oM hw hS O0 l y18 cd18 (oR 0 0 0 0) #[.int 1, .int 2, .ref v0_] (fun v h L => (v = some (.int 1) ∧ Fr n0 L ∧ h = h0)) := by
 refine own_met (own := "jdk/internal/util/Preconditions") (plainFor_of_name pn81) rfl ?_
 intro p e s m u mt c s₁ hx y hml ho hq hr hl hZ e0 X0
 refine own_cast (g' := (mkF m 0 #[iv 1, iv 2, rv v0_] [])) rfl ?_
 refine sI X0 hx y d18_0 rfl ?_
 refine sT X0 hx y d18_1 (by decide) ?_
 refine sI X0 hx y d18_4 rfl ?_
 refine sI X0 hx y d18_5 rfl ?_
 refine sU X0 hx y d18_6 (by decide) 16 (by decide) ?_
 refine sI X0 hx y d18_16 rfl ?_
 exact own_retI X0 hx hr hl (hb y d18_17) (by decide) (by decide) (by rw [e0]; exact ⟨rfl, (Fr.nil n0), rfl⟩)


theorem rm17_71  :
  oM hw hS O0 l y17 cd17 (oR 1 0 0 14) #[.int 1, .int 2] (fun v h L => (v = none ∧ Fr n0 L ∧ h = h0)) := by
 refine own_met (own := "java/lang/String") (plainFor_of_name pn46) rfl ?_
 intro p e s m u mt c s₁ hx y hml ho hq hr hl hZ e0 X0
 refine own_cast (g' := (mkF m 0 #[iv 1, iv 2] [])) rfl ?_
 refine sI X0 hx y d17_0 rfl ?_
 refine sI X0 hx y d17_1 rfl ?_
 rcases (sr0 hw hS) with hs1 | ⟨a1, hs1⟩
 ·
  obtain ⟨T1n, X1n, e1n, st1n⟩ := getS2 X0 hx hZ ho (host := "") (Or.inl (oW hw 81 rfl)) Via.refl e0 (hs1.ext O0.2) (g := (mkF m 2 #[iv 1, iv 2] [.int 2, .int 1])) rfl (hb y d17_2)
  refine own_step st1n ?_
  refine oCS X1n hx hZ ho (oW hw 83 rfl) (bu82 hw) (rm18_69 hw hS O0) 0 (by decide) [.int 1, .int 2, .null] rfl (lenOf pd83 rfl) hml rfl rfl rfl y d17_5 e1n ?_
  rintro _ T2 _ X2 ⟨rfl, N2q, e2⟩
  have N2 := Fr.app (Fr.nil n0) N2q
  refine sG X2 hx y d17_8 rfl ?_
  exact own_retV X2 hx hr hl (hb y d17_9) (by decide) (by decide) (by rw [e2]; exact ⟨rfl, N2, rfl⟩)
 ·
  obtain ⟨T1r, X1r, e1r, st1r⟩ := getS2 X0 hx hZ ho (host := "") (Or.inl (oW hw 81 rfl)) Via.refl e0 (hs1.ext O0.2) (g := (mkF m 2 #[iv 1, iv 2] [.int 2, .int 1])) rfl (hb y d17_2)
  refine own_step st1r ?_
  refine oCS X1r hx hZ ho (oW hw 83 rfl) (bu82 hw) (rm18_70 hw hS O0 a1) 0 (by decide) [.int 1, .int 2, .ref a1] rfl (lenOf pd83 rfl) hml rfl rfl rfl y d17_5 e1r ?_
  rintro _ T3 _ X3 ⟨rfl, N3q, e3⟩
  have N3 := Fr.app (Fr.nil n0) N3q
  refine sG X3 hx y d17_8 rfl ?_
  exact own_retV X3 hx hr hl (hb y d17_9) (by decide) (by decide) (by rw [e3]; exact ⟨rfl, N3, rfl⟩)


theorem rm33_72 (v0_ : Addr) (v1_ v2_ : Int32) (v3_ : ClassId) (U0 : Arv Z h0 v0_ v3_ .byte 4 [(.int (oLo v1_)), (.int (oHi v1_)), (.int (oLo v2_)), (.int (oHi v2_))] (.int 0)) :
  oM hw hS O0 l y33 cd33 (oR 2 0 0 27) #[.int 1, .ref v0_] (fun v h L => (v = none ∧ Fr n0 L ∧ h = h0)) := by
 refine own_met (own := "java/lang/StringUTF16") (plainFor_of_name pn14) rfl ?_
 intro p e s m u mt c s₁ hx y hml ho hq hr hl hZ e0 X0
 refine own_cast (g' := (mkF m 0 #[iv 1, rv v0_] [])) rfl ?_
 refine sI X0 hx y d33_0 rfl ?_
 refine sA X0 hx y d33_1 rfl rfl ?_
 refine oCS X0 hx hZ ho (oW hw 145 rfl) (bu76 hw) (rm34_62 hw hS O0 v0_ v1_ v2_ v3_ U0) 1 (by decide) [.ref v0_] rfl (lenOf pd77 rfl) hml rfl rfl rfl y d33_2 e0 ?_
 rintro _ T1 _ X1 ⟨rfl, N1q, e1⟩
 have N1 := Fr.app (Fr.nil n0) N1q
 refine oCS X1 hx hZ ho (oW hw 148 rfl) (bu85 hw) (rm17_71 hw hS O0) 0 (by decide) [.int 1, .int 2] rfl (lenOf pd86 rfl) hml rfl rfl rfl y d33_5 e1 ?_
 rintro _ T2 _ X2 ⟨rfl, N2q, e2⟩
 have N2 := Fr.app N1 N2q
 exact own_retV X2 hx hr hl (hb y d33_8) (by decide) (by decide) (by rw [e2]; exact ⟨rfl, N2, rfl⟩)


theorem rm32_73 (v0_ : Addr) (v1_ v2_ : Int32) (v3_ : ClassId) (U0 : Arv Z h0 v0_ v3_ .byte 4 [(.int (oLo v1_)), (.int (oHi v1_)), (.int (oLo v2_)), (.int (oHi v2_))] (.int 0)) (U1 : nar .char v2_ = v2_) (U2 : ¬ (v2_ < (0 : Int32))) (U3 : ¬ ((65535 : Int32) < v2_)) :
  oM hw hS O0 l y32 cd32 (oR 3 0 0 40) #[.ref v0_, .int 1] (fun v h L => (v = some (.int v2_) ∧ Fr n0 L ∧ h = h0)) := by
 refine own_met (own := "java/lang/StringUTF16") (plainFor_of_name pn14) rfl ?_
 intro p e s m u mt c s₁ hx y hml ho hq hr hl hZ e0 X0
 refine own_cast (g' := (mkF m 0 #[rv v0_, iv 1] [])) rfl ?_
 refine sI X0 hx y d32_0 rfl ?_
 refine sA X0 hx y d32_1 rfl rfl ?_
 refine oCS X0 hx hZ ho (oW hw 142 rfl) (bu88 hw) (rm33_72 hw hS O0 v0_ v1_ v2_ v3_ U0) 0 (by decide) [.int 1, .ref v0_] rfl (lenOf pd89 rfl) hml rfl rfl rfl y d32_2 e0 ?_
 rintro _ T1 _ X1 ⟨rfl, N1q, e1⟩
 have N1 := Fr.app (Fr.nil n0) N1q
 refine sA X1 hx y d32_5 rfl rfl ?_
 refine sI X1 hx y d32_6 rfl ?_
 refine oCS X1 hx hZ ho (oW hw 136 rfl) (bu35 hw) (rm31_53 hw hS O0 v0_ v1_ v2_ v3_ U0 U1 U2 U3) 0 (by decide) [.ref v0_, .int 1] rfl (lenOf pd36 rfl) hml rfl rfl rfl y d32_7 e1 ?_
 rintro _ T2 _ X2 ⟨rfl, N2q, e2⟩
 have N2 := Fr.app N1 N2q
 exact own_retN X2 hx (t := .char) hr (by simp) hl (hb y d32_10) (by decide) (by decide) (by rw [U1, e2]; exact ⟨rfl, N2, rfl⟩)


theorem rm14_74 (v0_ v1_ : Addr) (v2_ v3_ : Int32) (v4_ : ClassId) (U0 : Ga Z h0 v0_) (U1 : Fa Z h0 v0_ (.int 1)) (U2 : Fb Z h0 v0_ (.ref v1_)) (U3 : Arv Z h0 v1_ v4_ .byte 4 [(.int (oLo v2_)), (.int (oHi v2_)), (.int (oLo v3_)), (.int (oHi v3_))] (.int 0)) (U4 : nar .char v3_ = v3_) (U5 : ¬ (v3_ < (0 : Int32))) (U6 : ¬ ((65535 : Int32) < v3_)) :
  oM hw hS O0 l y14 cd14 (oR 4 0 0 53) #[.ref v0_, .int 1] (fun v h L => (v = some (.int v3_) ∧ Fr n0 L ∧ h = h0)) := by
 refine own_met (own := "java/lang/String") (plainFor_of_name pn46) rfl ?_
 intro p e s m u mt c s₁ hx y hml ho hq hr hl hZ e0 X0
 refine own_cast (g' := (mkF m 0 #[rv v0_, iv 1] [])) rfl ?_
 refine sA X0 hx y d14_0 rfl rfl ?_
 refine oCV X0 hx hZ ho (oW hw 69 rfl) (bu71 hw) U0 (rm15_17 hw hS O0 v0_ U1) 0 (by decide) [] rfl (lenOf pd59 rfl) hml rfl rfl rfl y d14_1 e0 ?_
 rintro _ T1 _ X1 ⟨rfl, N1q, e1⟩
 have N1 := Fr.app (Fr.nil n0) N1q
 refine sS X1 hx y d14_4 (by decide) 16 (by decide) ?_
 refine sA X1 hx y d14_16 rfl rfl ?_
 refine sg X1 hx hZ ho (oW hw 40 rfl) e1 U2 y d14_17 fun T2 X2 e2 => ?_
 refine sI X2 hx y d14_20 rfl ?_
 refine oCS X2 hx hZ ho (oW hw 139 rfl) (bu91 hw) (rm32_73 hw hS O0 v1_ v2_ v3_ v4_ U3 U4 U5 U6) 0 (by decide) [.ref v1_, .int 1] rfl (lenOf pd36 rfl) hml rfl rfl rfl y d14_21 e2 ?_
 rintro _ T3 _ X3 ⟨rfl, N3q, e3⟩
 have N3 := Fr.app N1 N3q
 exact own_retN X3 hx (t := .char) hr (by simp) hl (hb y d14_24) (by decide) (by decide) (by rw [U4, e3]; exact ⟨rfl, N3, rfl⟩)


theorem rm22_75 (v0_ : Int32) (U0 : ¬ (v0_ < (0 : Int32))) :
  oM hw hS O0 l y22 cd22 (oR 0 0 0 0) #[.int v0_] (fun v h L => ((255 : Int32) < v0_ ∧ v = some (.int 0) ∧ Fr n0 L ∧ h = h0) ∨ (¬ ((255 : Int32) < v0_) ∧ v = some (.int 1) ∧ Fr n0 L ∧ h = h0)) := by
 refine own_met (own := "java/lang/StringLatin1") (plainFor_of_name pn100) rfl ?_
 intro p e s m u mt c s₁ hx y hml ho hq hr hl hZ e0 X0
 refine own_cast (g' := (mkF m 0 #[iv v0_] [])) rfl ?_
 refine sI X0 hx y d22_0 rfl ?_
 refine sT X0 hx y d22_1 ((if0 _ _).trans (flt U0).1) ?_
 refine sI X0 hx y d22_4 rfl ?_
 refine oS (XS.sipush X0.here hx rfl (hb y d22_5)) ?_
 by_cases hc1 : (255 : Int32) < v0_
 ·
  refine sU X0 hx y d22_8 (tlt hc1).2.2.1 15 (by decide) ?_
  refine sC X0 hx y d22_15 ?_
  exact own_retN X0 hx (t := .boolean) hr (by simp) hl (hb y d22_16) (by decide) (by decide) (by rw [e0]; exact Or.inl ⟨hc1, rfl, (Fr.nil n0), rfl⟩)
 ·
  refine sV X0 hx y d22_8 (flt hc1).2.2.1 ?_
  refine sC X0 hx y d22_11 ?_
  refine sR X0 hx y d22_12 16 (by decide) ?_
  exact own_retN X0 hx (t := .boolean) hr (by simp) hl (hb y d22_16) (by decide) (by decide) (by rw [e0]; exact Or.inr (⟨hc1, rfl, (Fr.nil n0), rfl⟩))


theorem rm21_76 (v0_ : Addr) (v1_ : Int32) (v2_ : ClassId) (U0 : Arv Z h0 v0_ v2_ .byte 4 [(.int 61), (.int 43), (.int 45), (.int 64)] (.int 0)) (U1 : ¬ (v1_ < (0 : Int32))) (U2 : ¬ (v1_ = (61 : Int32))) (U3 : ¬ (v1_ = (43 : Int32))) (U4 : ¬ (v1_ = (45 : Int32))) (U5 : ¬ (v1_ = (64 : Int32))) :
  oM hw hS O0 l y21 cd21 (oR 1 0 0 17) #[.ref v0_, .int v1_, .int 0, .int 4] (fun v h L => (v = some (.int (-1)) ∧ Fr n0 L ∧ h = h0)) := by
 refine own_met (own := "java/lang/StringLatin1") (plainFor_of_name pn100) rfl ?_
 intro p e s m u mt c s₁ hx y hml ho hq hr hl hZ e0 X0
 refine own_cast (g' := (mkF m 0 #[rv v0_, iv v1_, iv 0, iv 4] [])) rfl ?_
 refine sI X0 hx y d21_0 rfl ?_
 refine oCS X0 hx hZ ho (oW hw 101 rfl) (bu101 hw) (rm22_75 hw hS O0 v1_ U1) 0 (by decide) [.int v1_] rfl (lenOf pd102 rfl) hml rfl rfl rfl y d21_1 e0 ?_
 rintro _ T1 _ X1 (⟨hq1a_0, rfl, N1aq, e1a⟩ | ⟨hq1b_0, rfl, N1bq, e1b⟩)
 ·
  have N1a := Fr.app (Fr.nil n0) N1aq
  refine sT X1 hx y d21_4 (by decide) ?_
  refine sC X1 hx y d21_7 ?_
  exact own_retI X1 hx hr hl (hb y d21_8) (by decide) (by decide) (by rw [e1a]; exact ⟨rfl, N1a, rfl⟩)
 ·
  have N1b := Fr.app (Fr.nil n0) N1bq
  refine sS X1 hx y d21_4 (by decide) 9 (by decide) ?_
  refine sI X1 hx y d21_9 rfl ?_
  refine sC X1 hx y d21_10 ?_
  refine oCS X1 hx hZ ho (oW hw 104 rfl) (bu123 hw) (rm23_39 hw hS O0) 0 (by decide) [.int 0, .int 0] rfl (lenOf pd108 rfl) hml rfl rfl rfl y d21_11 e1b ?_
  rintro _ T2 _ X2 ⟨rfl, N2q, e2⟩
  have N2 := Fr.app N1b N2q
  refine sN X2 hx y d21_14 #[rv v0_, iv v1_, iv 0, iv 4] rfl ?_
  refine sI X2 hx y d21_15 rfl ?_
  refine sA X2 hx y d21_16 rfl rfl ?_
  refine sa X2 hx hZ e2 U0 y d21_17 ?_
  refine oCS X2 hx hZ ho (oW hw 108 rfl) (bu126 hw) (rm24_40 hw hS O0) 0 (by decide) [.int 4, .int 4] rfl (lenOf pd108 rfl) hml rfl rfl rfl y d21_18 e2 ?_
  rintro _ T4 _ X4 ⟨rfl, N4q, e4⟩
  have N4 := Fr.app N2 N4q
  refine sN X4 hx y d21_21 #[rv v0_, iv v1_, iv 0, iv 4] rfl ?_
  refine sI X4 hx y d21_22 rfl ?_
  refine sI X4 hx y d21_23 rfl ?_
  refine sU X4 hx y d21_24 (by decide) 29 (by decide) ?_
  refine sA X4 hx y d21_29 rfl rfl ?_
  refine sI X4 hx y d21_30 rfl ?_
  refine sI X4 hx y d21_31 rfl ?_
  refine sI X4 hx y d21_32 rfl ?_
  refine oCS X4 hx hZ ho (oW hw 111 rfl) (bu129 hw) (rm25_41 hw hS O0 v0_ v1_ v2_ U0 U1 U2 U3 U4 U5 hq1b_0) 0 (by decide) [.ref v0_, .int v1_, .int 0, .int 4] rfl (lenOf pd105 rfl) hml rfl rfl rfl y d21_33 e4 ?_
  rintro _ T5 _ X5 ⟨rfl, N5q, e5⟩
  have N5 := Fr.app N4 N5q
  exact own_retI X5 hx hr hl (hb y d21_36) (by decide) (by decide) (by rw [e5]; exact ⟨rfl, N5, rfl⟩)


theorem rm20_77 (v0_ : Addr) (v1_ : Int32) (v2_ : Addr) (v3_ : ClassId) (U0 : Ga Z h0 v0_) (U1 : Fa Z h0 v0_ (.int 0)) (U2 : Fb Z h0 v0_ (.ref v2_)) (U3 : Arv Z h0 v2_ v3_ .byte 4 [(.int 61), (.int 43), (.int 45), (.int 64)] (.int 0)) (U4 : ¬ (v1_ < (0 : Int32))) (U5 : ¬ (v1_ = (61 : Int32))) (U6 : ¬ (v1_ = (43 : Int32))) (U7 : ¬ (v1_ = (45 : Int32))) (U8 : ¬ (v1_ = (64 : Int32))) :
  oM hw hS O0 l y20 cd20 (oR 2 0 0 32) #[.ref v0_, .int v1_, .int 0] (fun v h L => (v = some (.int (-1)) ∧ Fr n0 L ∧ h = h0)) := by
 refine own_met (own := "java/lang/String") (plainFor_of_name pn46) rfl ?_
 intro p e s m u mt c s₁ hx y hml ho hq hr hl hZ e0 X0
 refine own_cast (g' := (mkF m 0 #[rv v0_, iv v1_, iv 0] [])) rfl ?_
 refine sA X0 hx y d20_0 rfl rfl ?_
 refine oCV X0 hx hZ ho (oW hw 69 rfl) (bu71 hw) U0 (rm15_25 hw hS O0 v0_ U1) 0 (by decide) [] rfl (lenOf pd59 rfl) hml rfl rfl rfl y d20_1 e0 ?_
 rintro _ T1 _ X1 ⟨rfl, N1q, e1⟩
 have N1 := Fr.app (Fr.nil n0) N1q
 refine sT X1 hx y d20_4 (by decide) ?_
 refine sA X1 hx y d20_7 rfl rfl ?_
 refine sg X1 hx hZ ho (oW hw 40 rfl) e1 U2 y d20_8 fun T2 X2 e2 => ?_
 refine sI X2 hx y d20_11 rfl ?_
 refine sI X2 hx y d20_12 rfl ?_
 refine sA X2 hx y d20_13 rfl rfl ?_
 refine oCV X2 hx hZ ho (oW hw 97 rfl) (bu66 hw) U0 (rm12_27 hw hS O0 v0_ v2_ v3_ U0 U1 U2 U3) 3 (by decide) [] rfl (lenOf pd67 rfl) hml rfl rfl rfl y d20_14 e2 ?_
 rintro _ T3 _ X3 ⟨rfl, N3q, e3⟩
 have N3 := Fr.app N1 N3q
 refine oCS X3 hx hZ ho (oW hw 98 rfl) (bu104 hw) (rm21_76 hw hS O0 v2_ v1_ v3_ U3 U4 U5 U6 U7 U8) 0 (by decide) [.ref v2_, .int v1_, .int 0, .int 4] rfl (lenOf pd105 rfl) hml rfl rfl rfl y d20_17 e3 ?_
 rintro _ T4 _ X4 ⟨rfl, N4q, e4⟩
 have N4 := Fr.app N3 N4q
 refine sR X4 hx y d20_20 36 (by decide) ?_
 exact own_retI X4 hx hr hl (hb y d20_36) (by decide) (by decide) (by rw [e4]; exact ⟨rfl, N4, rfl⟩)


theorem rm19_78 (v0_ : Addr) (v1_ : Int32) (v2_ : Addr) (v3_ : ClassId) (U0 : Ga Z h0 v0_) (U1 : Fa Z h0 v0_ (.int 0)) (U2 : Fb Z h0 v0_ (.ref v2_)) (U3 : Arv Z h0 v2_ v3_ .byte 4 [(.int 61), (.int 43), (.int 45), (.int 64)] (.int 0)) (U4 : ¬ (v1_ < (0 : Int32))) (U5 : ¬ (v1_ = (61 : Int32))) (U6 : ¬ (v1_ = (43 : Int32))) (U7 : ¬ (v1_ = (45 : Int32))) (U8 : ¬ (v1_ = (64 : Int32))) :
  oM hw hS O0 l y19 cd19 (oR 3 0 0 46) #[.ref v0_, .int v1_] (fun v h L => (v = some (.int (-1)) ∧ Fr n0 L ∧ h = h0)) := by
 refine own_met (own := "java/lang/String") (plainFor_of_name pn46) rfl ?_
 intro p e s m u mt c s₁ hx y hml ho hq hr hl hZ e0 X0
 refine own_cast (g' := (mkF m 0 #[rv v0_, iv v1_] [])) rfl ?_
 refine sA X0 hx y d19_0 rfl rfl ?_
 refine sI X0 hx y d19_1 rfl ?_
 refine sC X0 hx y d19_2 ?_
 refine oCV X0 hx hZ ho (oW hw 92 rfl) (bu107 hw) U0 (rm20_77 hw hS O0 v0_ v1_ v2_ v3_ U0 U1 U2 U3 U4 U5 U6 U7 U8) 0 (by decide) [.int v1_, .int 0] rfl (lenOf pd108 rfl) hml rfl rfl rfl y d19_3 e0 ?_
 rintro _ T1 _ X1 ⟨rfl, N1q, e1⟩
 have N1 := Fr.app (Fr.nil n0) N1q
 exact own_retI X1 hx hr hl (hb y d19_6) (by decide) (by decide) (by rw [e1]; exact ⟨rfl, N1, rfl⟩)


theorem rm10_79 (v0_ v1_ v2_ : Addr) (v3_ v4_ : Int32) (v5_ : ClassId) (U0 : Ga Z h0 v0_) (U1 : Fa Z h0 v0_ (.int 1)) (U2 : Fb Z h0 v0_ (.ref v2_)) (U3 : Arv Z h0 v2_ v5_ .byte 4 [(.int (oLo v3_)), (.int (oHi v3_)), (.int (oLo v4_)), (.int (oHi v4_))] (.int 0)) (U4 : nar .char v3_ = v3_) (U5 : nar .char v4_ = v4_) (U6 : ¬ (v3_ < (0 : Int32))) (U7 : ¬ ((65535 : Int32) < v3_)) (U8 : ¬ (v4_ < (0 : Int32))) (U9 : ¬ ((65535 : Int32) < v4_)) (U10 : ¬ (v3_ < (32 : Int32))) (U11 : ¬ (v3_ = (127 : Int32))) (U12 : ¬ (v4_ < (32 : Int32))) (U13 : ¬ (v4_ = (127 : Int32))) (U14 : ¬ (v3_ = (61 : Int32))) (U15 : ¬ (v3_ = (43 : Int32))) (U16 : ¬ (v3_ = (45 : Int32))) (U17 : ¬ (v3_ = (64 : Int32))) :
  oMH hw hS O0 l y10 cd10 (oR 5 2 20 66) #[.ref v0_, .ref v1_] (fun v h L => (v = some (.ref v0_) ∧ Fr n0 L ∧ Keep h0 h [])) := by
 refine own_metH (own := "com/example/linepack/linepack/Values") (plainFor_of_name pn112) rfl ?_
 intro p e s m u mt c s₁ hx y hml ho hq hr hl hZ e0 X0 hS0 H0
 refine own_cast (g' := (mkF m 0 #[rv v0_, rv v1_, .unset, .unset] [])) rfl ?_
 refine sA X0 hx y d10_0 rfl rfl ?_
 refine oCV X0 hx hZ ho (oW hw 49 rfl) (bu58 hw) U0 (rm11_60 hw hS O0 v0_ v2_ v3_ v4_ v5_ U2 U3) 0 (by decide) [] rfl (lenOf pd59 rfl) hml rfl rfl rfl y d10_1 e0 ?_
 rintro _ T1 _ X1 ⟨rfl, N1q, e1⟩
 have N1 := Fr.app (Fr.nil n0) N1q
 refine sS X1 hx y d10_4 (by decide) 21 (by decide) ?_
 refine sC X1 hx y d10_21 ?_
 refine sN X1 hx y d10_22 #[rv v0_, rv v1_, iv 0, .unset] rfl ?_
 refine sI X1 hx y d10_23 rfl ?_
 refine sA X1 hx y d10_24 rfl rfl ?_
 refine oCV X1 hx hZ ho (oW hw 54 rfl) (bu66 hw) U0 (rm12_61 hw hS O0 v0_ v2_ v3_ v4_ v5_ U0 U1 U2 U3) 1 (by decide) [] rfl (lenOf pd67 rfl) hml rfl rfl rfl y d10_25 e1 ?_
 rintro _ T2 _ X2 ⟨rfl, N2q, e2⟩
 have N2 := Fr.app N1 N2q
 refine sV X2 hx y d10_28 (by decide) ?_
 refine sA X2 hx y d10_31 rfl rfl ?_
 refine sI X2 hx y d10_32 rfl ?_
 refine oCV X2 hx hZ ho (oW hw 64 rfl) (bu93 hw) U0 (rm14_68 hw hS O0 v0_ v2_ v3_ v4_ v5_ U0 U1 U2 U3 U4 U6 U7) 0 (by decide) [.int 0] rfl (lenOf pd94 rfl) hml rfl rfl rfl y d10_33 e2 ?_
 rintro _ T3 _ X3 ⟨rfl, N3q, e3⟩
 have N3 := Fr.app N2 N3q
 refine sN X3 hx y d10_36 #[rv v0_, rv v1_, iv 0, iv v3_] rfl ?_
 refine sI X3 hx y d10_37 rfl ?_
 refine sD X3 hx y d10_38 ?_
 refine sV X3 hx y d10_40 (flt U10).1 ?_
 refine sI X3 hx y d10_43 rfl ?_
 refine sD X3 hx y d10_44 ?_
 refine sU X3 hx y d10_46 (feq U11).2 63 (by decide) ?_
 refine sY X3 hx y d10_63 #[rv v0_, rv v1_, iv ((0 : Int32) + (1 : Int32)), iv v3_] rfl rfl ?_
 rw [(by decide : ((0 : Int32) + (1 : Int32)) = (1 : Int32))]
 refine sR X3 hx y d10_66 23 (by decide) ?_
 refine sI X3 hx y d10_23 rfl ?_
 refine sA X3 hx y d10_24 rfl rfl ?_
 refine oCV X3 hx hZ ho (oW hw 54 rfl) (bu66 hw) U0 (rm12_61 hw hS O0 v0_ v2_ v3_ v4_ v5_ U0 U1 U2 U3) 1 (by decide) [] rfl (lenOf pd67 rfl) hml rfl rfl rfl y d10_25 e3 ?_
 rintro _ T4 _ X4 ⟨rfl, N4q, e4⟩
 have N4 := Fr.app N3 N4q
 refine sV X4 hx y d10_28 (by decide) ?_
 refine sA X4 hx y d10_31 rfl rfl ?_
 refine sI X4 hx y d10_32 rfl ?_
 refine oCV X4 hx hZ ho (oW hw 64 rfl) (bu93 hw) U0 (rm14_74 hw hS O0 v0_ v2_ v3_ v4_ v5_ U0 U1 U2 U3 U5 U8 U9) 0 (by decide) [.int 1] rfl (lenOf pd94 rfl) hml rfl rfl rfl y d10_33 e4 ?_
 rintro _ T5 _ X5 ⟨rfl, N5q, e5⟩
 have N5 := Fr.app N4 N5q
 refine sN X5 hx y d10_36 #[rv v0_, rv v1_, iv 1, iv v4_] rfl ?_
 refine sI X5 hx y d10_37 rfl ?_
 refine sD X5 hx y d10_38 ?_
 refine sV X5 hx y d10_40 (flt U12).1 ?_
 refine sI X5 hx y d10_43 rfl ?_
 refine sD X5 hx y d10_44 ?_
 refine sU X5 hx y d10_46 (feq U13).2 63 (by decide) ?_
 refine sY X5 hx y d10_63 #[rv v0_, rv v1_, iv ((1 : Int32) + (1 : Int32)), iv v4_] rfl rfl ?_
 rw [(by decide : ((1 : Int32) + (1 : Int32)) = (2 : Int32))]
 refine sR X5 hx y d10_66 23 (by decide) ?_
 refine sI X5 hx y d10_23 rfl ?_
 refine sA X5 hx y d10_24 rfl rfl ?_
 refine oCV X5 hx hZ ho (oW hw 54 rfl) (bu66 hw) U0 (rm12_61 hw hS O0 v0_ v2_ v3_ v4_ v5_ U0 U1 U2 U3) 1 (by decide) [] rfl (lenOf pd67 rfl) hml rfl rfl rfl y d10_25 e5 ?_
 rintro _ T6 _ X6 ⟨rfl, N6q, e6⟩
 have N6 := Fr.app N5 N6q
 refine sU X6 hx y d10_28 (by decide) 69 (by decide) ?_
 refine sA X6 hx y d10_69 rfl rfl ?_
 refine sC X6 hx y d10_70 ?_
 refine oCV X6 hx hZ ho (oW hw 64 rfl) (bu93 hw) U0 (rm14_68 hw hS O0 v0_ v2_ v3_ v4_ v5_ U0 U1 U2 U3 U4 U6 U7) 0 (by decide) [.int 0] rfl (lenOf pd94 rfl) hml rfl rfl rfl y d10_71 e6 ?_
 rintro _ T7 _ X7 ⟨rfl, N7q, e7⟩
 have N7 := Fr.app N6 N7q
 refine sN X7 hx y d10_74 #[rv v0_, rv v1_, iv v3_, iv v4_] rfl ?_
 obtain ⟨b8, T8, h8, k8, d8, kd8, X8, e8, E8, hS8, hk8, hZ8, hown8, Ea8, Fc8, Fv8, V8, -, -, hC8, -, hne8, st8⟩ := ldcCH X7 hx hZ ho (oW hw 86 rfl) (fun d hd => hw d (own_satoms d hd)) e7 hS0 (Nat.zero_le _) (own_EW hw) (by decide) (CHr.refl H0).1 (vs := [(.int 61), (.int 43), (.int 45), (.int 64)]) (z := (4 : Int32)) ⟨by decide, by decide⟩ (by decide) rfl (g := (mkF m 75 #[rv v0_, rv v1_, iv v3_, iv v4_] [])) rfl (hb y d10_75) (n := 16) (by decide) (by decide) (by decide) (by decide)
 refine own_step st8 ?_
 have O8 := O0.ext E8
 have K8 := (Keep.refl h0 []).ext E8
 have R8 := CHr.trans (CHr.refl H0) hC8
 refine sI X8 hx y d10_77 rfl ?_
 refine oCV X8 hx hZ8 hown8 (oW hw 87 rfl) (bu110 hw) Ea8 (rm19_78 hw hS O8 b8 v3_ d8 kd8 Ea8 Fc8 Fv8 V8 U6 U14 U15 U16 U17) 0 (by decide) [.int v3_] rfl (lenOf pd22 rfl) hml rfl rfl rfl y d10_78 e8 ?_
 rintro _ T9 _ X9 ⟨rfl, N9q, e9⟩
 have N9 := Fr.app N7 N9q
 refine sS X9 hx y d10_81 (by decide) 99 (by decide) ?_
 refine sA X9 hx y d10_99 rfl rfl ?_
 exact own_retAH X9 hS8 (by rw [e9]; exact hk8) hZ8 (own_EW hw) (by rw [e9]; exact R8) hx hr rfl rfl hl (hb y d10_100) (by decide) (by decide) (by rw [e9]; exact ⟨rfl, N9, K8⟩)


theorem rm11_80 (v0_ v1_ : Addr) (v2_ v3_ : Int32) (v4_ : ClassId) (U0 : Fb Z h0 v0_ (.ref v1_)) (U1 : Arv Z h0 v1_ v4_ .byte 2 [(.int (oBy v2_)), (.int (oBy v3_))] (.int 0)) :
  oM hw hS O0 l y11 cd11 (oR 0 0 0 0) #[.ref v0_] (fun v h L => (v = some (.int 0) ∧ Fr n0 L ∧ h = h0)) := by
 refine own_met (own := "java/lang/String") (plainFor_of_name pn46) rfl ?_
 intro p e s m u mt c s₁ hx y hml ho hq hr hl hZ e0 X0
 refine own_cast (g' := (mkF m 0 #[rv v0_] [])) rfl ?_
 refine sA X0 hx y d11_0 rfl rfl ?_
 refine sg X0 hx hZ ho (oW hw 40 rfl) e0 U0 y d11_1 fun T1 X1 e1 => ?_
 refine sa X1 hx hZ e1 U1 y d11_4 ?_
 refine sS X1 hx y d11_5 (by decide) 12 (by decide) ?_
 refine sC X1 hx y d11_12 ?_
 exact own_retN X1 hx (t := .boolean) hr (by simp) hl (hb y d11_13) (by decide) (by decide) (by rw [e1]; exact ⟨rfl, (Fr.nil n0), rfl⟩)


theorem rm12_81 (v0_ v1_ : Addr) (v2_ v3_ : Int32) (v4_ : ClassId) (U0 : Ga Z h0 v0_) (U1 : Fa Z h0 v0_ (.int 0)) (U2 : Fb Z h0 v0_ (.ref v1_)) (U3 : Arv Z h0 v1_ v4_ .byte 2 [(.int (oBy v2_)), (.int (oBy v3_))] (.int 0)) :
  oM hw hS O0 l y12 cd12 (oR 1 0 0 13) #[.ref v0_] (fun v h L => (v = some (.int 2) ∧ Fr n0 L ∧ h = h0)) := by
 refine own_met (own := "java/lang/String") (plainFor_of_name pn46) rfl ?_
 intro p e s m u mt c s₁ hx y hml ho hq hr hl hZ e0 X0
 refine own_cast (g' := (mkF m 0 #[rv v0_] [])) rfl ?_
 refine sA X0 hx y d12_0 rfl rfl ?_
 refine sg X0 hx hZ ho (oW hw 40 rfl) e0 U2 y d12_1 fun T1 X1 e1 => ?_
 refine sa X1 hx hZ e1 U3 y d12_4 ?_
 refine sA X1 hx y d12_5 rfl rfl ?_
 refine oCV X1 hx hZ ho (oW hw 59 rfl) (bu63 hw) U0 (rm13_26 hw hS O0 v0_ U1) 1 (by decide) [] rfl (lenOf pd64 rfl) hml rfl rfl rfl y d12_6 e1 ?_
 rintro _ T3 _ X3 ⟨rfl, N3q, e3⟩
 have N3 := Fr.app (Fr.nil n0) N3q
 refine sM X3 hx y d12_9 ?_
 refine oV (b := 2) (by decide) ?_
 exact own_retI X3 hx hr hl (hb y d12_10) (by decide) (by decide) (by rw [e3]; exact ⟨rfl, N3, rfl⟩)


theorem rm16_82 (v0_ : Addr) (v1_ v2_ : Int32) (v3_ : ClassId) (U0 : Arv Z h0 v0_ v3_ .byte 2 [(.int (oBy v1_)), (.int (oBy v2_))] (.int 0)) (U1 : nar .char v1_ = v1_) (U2 : ¬ (v1_ < (0 : Int32))) (U3 : ¬ ((255 : Int32) < v1_)) :
  oM hw hS O0 l y16 cd16 (oR 2 0 0 27) #[.ref v0_, .int 0] (fun v h L => (v = some (.int v1_) ∧ Fr n0 L ∧ h = h0)) := by
 refine own_met (own := "java/lang/StringLatin1") (plainFor_of_name pn100) rfl ?_
 intro p e s m u mt c s₁ hx y hml ho hq hr hl hZ e0 X0
 refine own_cast (g' := (mkF m 0 #[rv v0_, iv 0] [])) rfl ?_
 refine sI X0 hx y d16_0 rfl ?_
 refine sA X0 hx y d16_1 rfl rfl ?_
 refine sa X0 hx hZ e0 U0 y d16_2 ?_
 refine oCS X0 hx hZ ho (oW hw 78 rfl) (bu85 hw) (rm17_65 hw hS O0) 0 (by decide) [.int 0, .int 2] rfl (lenOf pd86 rfl) hml rfl rfl rfl y d16_3 e0 ?_
 rintro _ T2 _ X2 ⟨rfl, N2q, e2⟩
 have N2 := Fr.app (Fr.nil n0) N2q
 refine sA X2 hx y d16_6 rfl rfl ?_
 refine sI X2 hx y d16_7 rfl ?_
 obtain ⟨c3, r3, q3, t3, u3, y3h, y3g⟩ := id U0
 have i3 : ¬ ((0 : Int32) < 0 ∨ c3.slots.size ≤ ((0 : Int32)).toNatClampNeg) := inb_of t3 ⟨by decide, by decide⟩
 refine own_step (fun _ k => X2.baloadBytes hx (j := (0 : Int32)) (v := (.int (oBy v1_))) (by rw [e2]; exact r3.1) (State.isArrayOf_alike hZ.alike r3.2.1) r3.2.2 i3 (own_get t3 y3h i3 0 rfl) (g := (mkF m 8 #[rv v0_, iv 0] [.int 0, .ref v0_])) rfl rfl (hb y d16_8) _ k) ?_
 refine oS (XS.sipush X2.here hx rfl (hb y d16_9)) ?_
 refine oS (XS.iand X2.here hx rfl (hb y d16_12) rfl) ?_
 refine oS (XS.i2c X2.here hx rfl (hb y d16_13) rfl) ?_
 show own_Wp p e u _ T2 (mkF m 14 #[rv v0_, iv 0] [.int (((oBy v1_) &&& (255 : Int32)).toUInt32.toUInt16.toUInt32.toInt32)])
 rw [(own_b8 U2 U3 : (((oBy v1_) &&& (255 : Int32)).toUInt32.toUInt16.toUInt32.toInt32) = v1_)]
 exact own_retN X2 hx (t := .char) hr (by simp) hl (hb y d16_14) (by decide) (by decide) (by rw [U1, e2]; exact ⟨rfl, N2, rfl⟩)


theorem rm14_83 (v0_ v1_ : Addr) (v2_ v3_ : Int32) (v4_ : ClassId) (U0 : Ga Z h0 v0_) (U1 : Fa Z h0 v0_ (.int 0)) (U2 : Fb Z h0 v0_ (.ref v1_)) (U3 : Arv Z h0 v1_ v4_ .byte 2 [(.int (oBy v2_)), (.int (oBy v3_))] (.int 0)) (U4 : nar .char v2_ = v2_) (U5 : ¬ (v2_ < (0 : Int32))) (U6 : ¬ ((255 : Int32) < v2_)) :
  oM hw hS O0 l y14 cd14 (oR 3 0 0 40) #[.ref v0_, .int 0] (fun v h L => (v = some (.int v2_) ∧ Fr n0 L ∧ h = h0)) := by
 refine own_met (own := "java/lang/String") (plainFor_of_name pn46) rfl ?_
 intro p e s m u mt c s₁ hx y hml ho hq hr hl hZ e0 X0
 refine own_cast (g' := (mkF m 0 #[rv v0_, iv 0] [])) rfl ?_
 refine sA X0 hx y d14_0 rfl rfl ?_
 refine oCV X0 hx hZ ho (oW hw 69 rfl) (bu71 hw) U0 (rm15_25 hw hS O0 v0_ U1) 0 (by decide) [] rfl (lenOf pd59 rfl) hml rfl rfl rfl y d14_1 e0 ?_
 rintro _ T1 _ X1 ⟨rfl, N1q, e1⟩
 have N1 := Fr.app (Fr.nil n0) N1q
 refine sT X1 hx y d14_4 (by decide) ?_
 refine sA X1 hx y d14_7 rfl rfl ?_
 refine sg X1 hx hZ ho (oW hw 40 rfl) e1 U2 y d14_8 fun T2 X2 e2 => ?_
 refine sI X2 hx y d14_11 rfl ?_
 refine oCS X2 hx hZ ho (oW hw 74 rfl) (bu120 hw) (rm16_82 hw hS O0 v1_ v2_ v3_ v4_ U3 U4 U5 U6) 0 (by decide) [.ref v1_, .int 0] rfl (lenOf pd36 rfl) hml rfl rfl rfl y d14_12 e2 ?_
 rintro _ T3 _ X3 ⟨rfl, N3q, e3⟩
 have N3 := Fr.app N1 N3q
 exact own_retN X3 hx (t := .char) hr (by simp) hl (hb y d14_15) (by decide) (by decide) (by rw [U4, e3]; exact ⟨rfl, N3, rfl⟩)


theorem rm16_84 (v0_ : Addr) (v1_ v2_ : Int32) (v3_ : ClassId) (U0 : Arv Z h0 v0_ v3_ .byte 2 [(.int (oBy v1_)), (.int (oBy v2_))] (.int 0)) (U1 : nar .char v2_ = v2_) (U2 : ¬ (v2_ < (0 : Int32))) (U3 : ¬ ((255 : Int32) < v2_)) :
  oM hw hS O0 l y16 cd16 (oR 2 0 0 27) #[.ref v0_, .int 1] (fun v h L => (v = some (.int v2_) ∧ Fr n0 L ∧ h = h0)) := by
 refine own_met (own := "java/lang/StringLatin1") (plainFor_of_name pn100) rfl ?_
 intro p e s m u mt c s₁ hx y hml ho hq hr hl hZ e0 X0
 refine own_cast (g' := (mkF m 0 #[rv v0_, iv 1] [])) rfl ?_
 refine sI X0 hx y d16_0 rfl ?_
 refine sA X0 hx y d16_1 rfl rfl ?_
 refine sa X0 hx hZ e0 U0 y d16_2 ?_
 refine oCS X0 hx hZ ho (oW hw 78 rfl) (bu85 hw) (rm17_71 hw hS O0) 0 (by decide) [.int 1, .int 2] rfl (lenOf pd86 rfl) hml rfl rfl rfl y d16_3 e0 ?_
 rintro _ T2 _ X2 ⟨rfl, N2q, e2⟩
 have N2 := Fr.app (Fr.nil n0) N2q
 refine sA X2 hx y d16_6 rfl rfl ?_
 refine sI X2 hx y d16_7 rfl ?_
 obtain ⟨c3, r3, q3, t3, u3, y3h, y3g⟩ := id U0
 have i3 : ¬ ((1 : Int32) < 0 ∨ c3.slots.size ≤ ((1 : Int32)).toNatClampNeg) := inb_of t3 ⟨by decide, by decide⟩
 refine own_step (fun _ k => X2.baloadBytes hx (j := (1 : Int32)) (v := (.int (oBy v2_))) (by rw [e2]; exact r3.1) (State.isArrayOf_alike hZ.alike r3.2.1) r3.2.2 i3 (own_get t3 y3h i3 1 rfl) (g := (mkF m 8 #[rv v0_, iv 1] [.int 1, .ref v0_])) rfl rfl (hb y d16_8) _ k) ?_
 refine oS (XS.sipush X2.here hx rfl (hb y d16_9)) ?_
 refine oS (XS.iand X2.here hx rfl (hb y d16_12) rfl) ?_
 refine oS (XS.i2c X2.here hx rfl (hb y d16_13) rfl) ?_
 show own_Wp p e u _ T2 (mkF m 14 #[rv v0_, iv 1] [.int (((oBy v2_) &&& (255 : Int32)).toUInt32.toUInt16.toUInt32.toInt32)])
 rw [(own_b8 U2 U3 : (((oBy v2_) &&& (255 : Int32)).toUInt32.toUInt16.toUInt32.toInt32) = v2_)]
 exact own_retN X2 hx (t := .char) hr (by simp) hl (hb y d16_14) (by decide) (by decide) (by rw [U1, e2]; exact ⟨rfl, N2, rfl⟩)


theorem rm14_85 (v0_ v1_ : Addr) (v2_ v3_ : Int32) (v4_ : ClassId) (U0 : Ga Z h0 v0_) (U1 : Fa Z h0 v0_ (.int 0)) (U2 : Fb Z h0 v0_ (.ref v1_)) (U3 : Arv Z h0 v1_ v4_ .byte 2 [(.int (oBy v2_)), (.int (oBy v3_))] (.int 0)) (U4 : nar .char v3_ = v3_) (U5 : ¬ (v3_ < (0 : Int32))) (U6 : ¬ ((255 : Int32) < v3_)) :
  oM hw hS O0 l y14 cd14 (oR 3 0 0 40) #[.ref v0_, .int 1] (fun v h L => (v = some (.int v3_) ∧ Fr n0 L ∧ h = h0)) := by
 refine own_met (own := "java/lang/String") (plainFor_of_name pn46) rfl ?_
 intro p e s m u mt c s₁ hx y hml ho hq hr hl hZ e0 X0
 refine own_cast (g' := (mkF m 0 #[rv v0_, iv 1] [])) rfl ?_
 refine sA X0 hx y d14_0 rfl rfl ?_
 refine oCV X0 hx hZ ho (oW hw 69 rfl) (bu71 hw) U0 (rm15_25 hw hS O0 v0_ U1) 0 (by decide) [] rfl (lenOf pd59 rfl) hml rfl rfl rfl y d14_1 e0 ?_
 rintro _ T1 _ X1 ⟨rfl, N1q, e1⟩
 have N1 := Fr.app (Fr.nil n0) N1q
 refine sT X1 hx y d14_4 (by decide) ?_
 refine sA X1 hx y d14_7 rfl rfl ?_
 refine sg X1 hx hZ ho (oW hw 40 rfl) e1 U2 y d14_8 fun T2 X2 e2 => ?_
 refine sI X2 hx y d14_11 rfl ?_
 refine oCS X2 hx hZ ho (oW hw 74 rfl) (bu120 hw) (rm16_84 hw hS O0 v1_ v2_ v3_ v4_ U3 U4 U5 U6) 0 (by decide) [.ref v1_, .int 1] rfl (lenOf pd36 rfl) hml rfl rfl rfl y d14_12 e2 ?_
 rintro _ T3 _ X3 ⟨rfl, N3q, e3⟩
 have N3 := Fr.app N1 N3q
 exact own_retN X3 hx (t := .char) hr (by simp) hl (hb y d14_15) (by decide) (by decide) (by rw [U4, e3]; exact ⟨rfl, N3, rfl⟩)


theorem rm10_86 (v0_ v1_ v2_ : Addr) (v3_ v4_ : Int32) (v5_ : ClassId) (U0 : Ga Z h0 v0_) (U1 : Fa Z h0 v0_ (.int 0)) (U2 : Fb Z h0 v0_ (.ref v2_)) (U3 : Arv Z h0 v2_ v5_ .byte 2 [(.int (oBy v3_)), (.int (oBy v4_))] (.int 0)) (U4 : nar .char v3_ = v3_) (U5 : nar .char v4_ = v4_) (U6 : ¬ (v3_ < (0 : Int32))) (U7 : ¬ (v4_ < (0 : Int32))) (U8 : ¬ (v3_ < (32 : Int32))) (U9 : ¬ (v3_ = (127 : Int32))) (U10 : ¬ (v4_ < (32 : Int32))) (U11 : ¬ (v4_ = (127 : Int32))) (U12 : ¬ (v3_ = (61 : Int32))) (U13 : ¬ (v3_ = (43 : Int32))) (U14 : ¬ (v3_ = (45 : Int32))) (U15 : ¬ (v3_ = (64 : Int32))) (U16 : ¬ ((255 : Int32) < v3_)) (U17 : ¬ ((255 : Int32) < v4_)) :
  oMH hw hS O0 l y10 cd10 (oR 4 2 20 59) #[.ref v0_, .ref v1_] (fun v h L => (v = some (.ref v0_) ∧ Fr n0 L ∧ Keep h0 h [])) := by
 refine own_metH (own := "com/example/linepack/linepack/Values") (plainFor_of_name pn112) rfl ?_
 intro p e s m u mt c s₁ hx y hml ho hq hr hl hZ e0 X0 hS0 H0
 refine own_cast (g' := (mkF m 0 #[rv v0_, rv v1_, .unset, .unset] [])) rfl ?_
 refine sA X0 hx y d10_0 rfl rfl ?_
 refine oCV X0 hx hZ ho (oW hw 49 rfl) (bu58 hw) U0 (rm11_80 hw hS O0 v0_ v2_ v3_ v4_ v5_ U2 U3) 0 (by decide) [] rfl (lenOf pd59 rfl) hml rfl rfl rfl y d10_1 e0 ?_
 rintro _ T1 _ X1 ⟨rfl, N1q, e1⟩
 have N1 := Fr.app (Fr.nil n0) N1q
 refine sS X1 hx y d10_4 (by decide) 21 (by decide) ?_
 refine sC X1 hx y d10_21 ?_
 refine sN X1 hx y d10_22 #[rv v0_, rv v1_, iv 0, .unset] rfl ?_
 refine sI X1 hx y d10_23 rfl ?_
 refine sA X1 hx y d10_24 rfl rfl ?_
 refine oCV X1 hx hZ ho (oW hw 54 rfl) (bu66 hw) U0 (rm12_81 hw hS O0 v0_ v2_ v3_ v4_ v5_ U0 U1 U2 U3) 1 (by decide) [] rfl (lenOf pd67 rfl) hml rfl rfl rfl y d10_25 e1 ?_
 rintro _ T2 _ X2 ⟨rfl, N2q, e2⟩
 have N2 := Fr.app N1 N2q
 refine sV X2 hx y d10_28 (by decide) ?_
 refine sA X2 hx y d10_31 rfl rfl ?_
 refine sI X2 hx y d10_32 rfl ?_
 refine oCV X2 hx hZ ho (oW hw 64 rfl) (bu93 hw) U0 (rm14_83 hw hS O0 v0_ v2_ v3_ v4_ v5_ U0 U1 U2 U3 U4 U6 U16) 0 (by decide) [.int 0] rfl (lenOf pd94 rfl) hml rfl rfl rfl y d10_33 e2 ?_
 rintro _ T3 _ X3 ⟨rfl, N3q, e3⟩
 have N3 := Fr.app N2 N3q
 refine sN X3 hx y d10_36 #[rv v0_, rv v1_, iv 0, iv v3_] rfl ?_
 refine sI X3 hx y d10_37 rfl ?_
 refine sD X3 hx y d10_38 ?_
 refine sV X3 hx y d10_40 (flt U8).1 ?_
 refine sI X3 hx y d10_43 rfl ?_
 refine sD X3 hx y d10_44 ?_
 refine sU X3 hx y d10_46 (feq U9).2 63 (by decide) ?_
 refine sY X3 hx y d10_63 #[rv v0_, rv v1_, iv ((0 : Int32) + (1 : Int32)), iv v3_] rfl rfl ?_
 rw [(by decide : ((0 : Int32) + (1 : Int32)) = (1 : Int32))]
 refine sR X3 hx y d10_66 23 (by decide) ?_
 refine sI X3 hx y d10_23 rfl ?_
 refine sA X3 hx y d10_24 rfl rfl ?_
 refine oCV X3 hx hZ ho (oW hw 54 rfl) (bu66 hw) U0 (rm12_81 hw hS O0 v0_ v2_ v3_ v4_ v5_ U0 U1 U2 U3) 1 (by decide) [] rfl (lenOf pd67 rfl) hml rfl rfl rfl y d10_25 e3 ?_
 rintro _ T4 _ X4 ⟨rfl, N4q, e4⟩
 have N4 := Fr.app N3 N4q
 refine sV X4 hx y d10_28 (by decide) ?_
 refine sA X4 hx y d10_31 rfl rfl ?_
 refine sI X4 hx y d10_32 rfl ?_
 refine oCV X4 hx hZ ho (oW hw 64 rfl) (bu93 hw) U0 (rm14_85 hw hS O0 v0_ v2_ v3_ v4_ v5_ U0 U1 U2 U3 U5 U7 U17) 0 (by decide) [.int 1] rfl (lenOf pd94 rfl) hml rfl rfl rfl y d10_33 e4 ?_
 rintro _ T5 _ X5 ⟨rfl, N5q, e5⟩
 have N5 := Fr.app N4 N5q
 refine sN X5 hx y d10_36 #[rv v0_, rv v1_, iv 1, iv v4_] rfl ?_
 refine sI X5 hx y d10_37 rfl ?_
 refine sD X5 hx y d10_38 ?_
 refine sV X5 hx y d10_40 (flt U10).1 ?_
 refine sI X5 hx y d10_43 rfl ?_
 refine sD X5 hx y d10_44 ?_
 refine sU X5 hx y d10_46 (feq U11).2 63 (by decide) ?_
 refine sY X5 hx y d10_63 #[rv v0_, rv v1_, iv ((1 : Int32) + (1 : Int32)), iv v4_] rfl rfl ?_
 rw [(by decide : ((1 : Int32) + (1 : Int32)) = (2 : Int32))]
 refine sR X5 hx y d10_66 23 (by decide) ?_
 refine sI X5 hx y d10_23 rfl ?_
 refine sA X5 hx y d10_24 rfl rfl ?_
 refine oCV X5 hx hZ ho (oW hw 54 rfl) (bu66 hw) U0 (rm12_81 hw hS O0 v0_ v2_ v3_ v4_ v5_ U0 U1 U2 U3) 1 (by decide) [] rfl (lenOf pd67 rfl) hml rfl rfl rfl y d10_25 e5 ?_
 rintro _ T6 _ X6 ⟨rfl, N6q, e6⟩
 have N6 := Fr.app N5 N6q
 refine sU X6 hx y d10_28 (by decide) 69 (by decide) ?_
 refine sA X6 hx y d10_69 rfl rfl ?_
 refine sC X6 hx y d10_70 ?_
 refine oCV X6 hx hZ ho (oW hw 64 rfl) (bu93 hw) U0 (rm14_83 hw hS O0 v0_ v2_ v3_ v4_ v5_ U0 U1 U2 U3 U4 U6 U16) 0 (by decide) [.int 0] rfl (lenOf pd94 rfl) hml rfl rfl rfl y d10_71 e6 ?_
 rintro _ T7 _ X7 ⟨rfl, N7q, e7⟩
 have N7 := Fr.app N6 N7q
 refine sN X7 hx y d10_74 #[rv v0_, rv v1_, iv v3_, iv v4_] rfl ?_
 obtain ⟨b8, T8, h8, k8, d8, kd8, X8, e8, E8, hS8, hk8, hZ8, hown8, Ea8, Fc8, Fv8, V8, -, -, hC8, -, hne8, st8⟩ := ldcCH X7 hx hZ ho (oW hw 86 rfl) (fun d hd => hw d (own_satoms d hd)) e7 hS0 (Nat.zero_le _) (own_EW hw) (by decide) (CHr.refl H0).1 (vs := [(.int 61), (.int 43), (.int 45), (.int 64)]) (z := (4 : Int32)) ⟨by decide, by decide⟩ (by decide) rfl (g := (mkF m 75 #[rv v0_, rv v1_, iv v3_, iv v4_] [])) rfl (hb y d10_75) (n := 16) (by decide) (by decide) (by decide) (by decide)
 refine own_step st8 ?_
 have O8 := O0.ext E8
 have K8 := (Keep.refl h0 []).ext E8
 have R8 := CHr.trans (CHr.refl H0) hC8
 refine sI X8 hx y d10_77 rfl ?_
 refine oCV X8 hx hZ8 hown8 (oW hw 87 rfl) (bu110 hw) Ea8 (rm19_44 hw hS O8 b8 v3_ d8 kd8 Ea8 Fc8 Fv8 V8 U6 U12 U13 U14 U15 U16) 0 (by decide) [.int v3_] rfl (lenOf pd22 rfl) hml rfl rfl rfl y d10_78 e8 ?_
 rintro _ T9 _ X9 ⟨rfl, N9q, e9⟩
 have N9 := Fr.app N7 N9q
 refine sS X9 hx y d10_81 (by decide) 99 (by decide) ?_
 refine sA X9 hx y d10_99 rfl rfl ?_
 exact own_retAH X9 hS8 (by rw [e9]; exact hk8) hZ8 (own_EW hw) (by rw [e9]; exact R8) hx hr rfl rfl hl (hb y d10_100) (by decide) (by decide) (by rw [e9]; exact ⟨rfl, N9, K8⟩)


theorem rm8_87 (v0_ v1_ : Addr) (v2_ v3_ v4_ : Int32) (v5_ v6_ : ClassId) (U0 : Arv Z h0 v0_ v5_ .char 3 [(.int v2_), (.int v3_), (.int v4_)] (.int 0)) (U1 : Arv Z h0 v1_ v6_ .byte 3 [(.int 0), (.int 0), (.int 0)] (.int 0)) (U2 : n0 ≤ v1_) (U3 : v0_ ≠ v1_) :
  oM hw hS O0 l y8 cd8 (oR 0 0 0 0) #[.ref v0_, .int 0, .ref v1_, .int 0, .int 3] (fun v h L => ((255 : Int32) < v2_ ∧ v = some (.int 0) ∧ Fr n0 L ∧ h = h0) ∨ (¬ ((255 : Int32) < v2_) ∧ (255 : Int32) < v3_ ∧ v = some (.int 1) ∧ Fr n0 L ∧ Keep h0 h [v1_] ∧ Arv Z h v1_ v6_ .byte 3 [(.int (oBy v2_)), (.int 0), (.int 0)] (.int 0)) ∨ (¬ ((255 : Int32) < v2_) ∧ ¬ ((255 : Int32) < v3_) ∧ (255 : Int32) < v4_ ∧ v = some (.int 2) ∧ Fr n0 L ∧ Keep h0 h [v1_] ∧ Arv Z h v1_ v6_ .byte 3 [(.int (oBy v2_)), (.int (oBy v3_)), (.int 0)] (.int 0)) ∨ (¬ ((255 : Int32) < v2_) ∧ ¬ ((255 : Int32) < v3_) ∧ ¬ ((255 : Int32) < v4_) ∧ v = some (.int 3) ∧ Fr n0 L ∧ Keep h0 h [v1_] ∧ Arv Z h v1_ v6_ .byte 3 [(.int (oBy v2_)), (.int (oBy v3_)), (.int (oBy v4_))] (.int 0))) := by
 refine own_met (own := "java/lang/StringUTF16") (plainFor_of_name pn14) rfl ?_
 intro p e s m u mt c s₁ hx y hml ho hq hr hl hZ e0 X0
 refine own_cast (g' := (mkF m 0 #[rv v0_, iv 0, rv v1_, iv 0, iv 3, .unset, .unset] [])) rfl ?_
 refine sC X0 hx y d8_0 ?_
 refine sO X0 hx y d8_1 #[rv v0_, iv 0, rv v1_, iv 0, iv 3, iv 0, .unset] rfl ?_
 refine sJ X0 hx y d8_3 rfl ?_
 refine sJ X0 hx y d8_5 rfl ?_
 refine sV X0 hx y d8_7 (by decide) ?_
 refine sA X0 hx y d8_10 rfl rfl ?_
 refine sI X0 hx y d8_11 rfl ?_
 obtain ⟨c1, r1, q1, t1, u1, y1h, y1g⟩ := id U0
 have i1 : ¬ ((0 : Int32) < 0 ∨ c1.slots.size ≤ ((0 : Int32)).toNatClampNeg) := inb_of t1 ⟨by decide, by decide⟩
 refine own_step (fun _ k => X0.caload hx (j := (0 : Int32)) (v := (.int v2_)) (by rw [e0]; exact r1.1) (State.isArrayOf_alike hZ.alike r1.2.1) r1.2.2 i1 (own_get t1 y1h i1 0 rfl) (g := (mkF m 12 #[rv v0_, iv 0, rv v1_, iv 0, iv 3, iv 0, .unset] [.int 0, .ref v0_])) rfl rfl (hb y d8_12) _ k) ?_
 refine sO X0 hx y d8_13 #[rv v0_, iv 0, rv v1_, iv 0, iv 3, iv 0, iv v2_] rfl ?_
 refine sJ X0 hx y d8_15 rfl ?_
 refine oS (XS.sipush X0.here hx rfl (hb y d8_17)) ?_
 by_cases hc2 : (255 : Int32) < v2_
 ·
  refine sV X0 hx y d8_20 (tlt hc2).2.2.2 ?_
  refine sJ X0 hx y d8_23 rfl ?_
  exact own_retI X0 hx hr hl (hb y d8_25) (by decide) (by decide) (by rw [e0]; exact Or.inl ⟨hc2, rfl, (Fr.nil n0), rfl⟩)
 ·
  refine sU X0 hx y d8_20 (flt hc2).2.2.2 26 (by decide) ?_
  refine sA X0 hx y d8_26 rfl rfl ?_
  refine sI X0 hx y d8_27 rfl ?_
  refine sJ X0 hx y d8_28 rfl ?_
  refine oS (XS.i2b X0.here hx rfl (hb y d8_30) rfl) ?_
  obtain ⟨c3, r3, q3, t3, u3, y3h, y3g⟩ := id U1
  have i3 : ¬ ((0 : Int32) < 0 ∨ c3.slots.size ≤ ((0 : Int32)).toNatClampNeg) := inb_of t3 ⟨by decide, by decide⟩
  obtain ⟨T3, h3, X3, e3, W3, st3⟩ := stB X0 hx hZ e0 r3 (j := (0 : Int32)) i3 (g := (mkF m 31 #[rv v0_, iv 0, rv v1_, iv 0, iv 3, iv 0, iv v2_] [.int (v2_.toInt8.toInt32), .int 0, .ref v1_])) rfl rfl (hb y d8_31)
  refine own_step st3 ?_
  have N3 := Fr.snoc X3 (Fr.nil n0) U2
  have K3 := (Keep.refl h0 [v1_]).wr W3 (Or.inl (by simp))
  have V3 : Arv Z h3 v1_ v6_ .byte 3 [(.int (oBy v2_)), (.int 0), (.int 0)] (.int 0) := Arv.set r3 q3 t3 u3 y3h y3g (fits_nar_byte _) W3 0 rfl (Nat.le_of_ble_eq_true rfl)
  refine sY X3 hx y d8_32 #[rv v0_, iv ((0 : Int32) + (1 : Int32)), rv v1_, iv 0, iv 3, iv 0, iv v2_] rfl rfl ?_
  rw [(by decide : ((0 : Int32) + (1 : Int32)) = (1 : Int32))]
  refine sY X3 hx y d8_35 #[rv v0_, iv 1, rv v1_, iv ((0 : Int32) + (1 : Int32)), iv 3, iv 0, iv v2_] rfl rfl ?_
  rw [(by decide : ((0 : Int32) + (1 : Int32)) = (1 : Int32))]
  refine sY X3 hx y d8_38 #[rv v0_, iv 1, rv v1_, iv 1, iv 3, iv ((0 : Int32) + (1 : Int32)), iv v2_] rfl rfl ?_
  rw [(by decide : ((0 : Int32) + (1 : Int32)) = (1 : Int32))]
  refine sR X3 hx y d8_41 3 (by decide) ?_
  refine sJ X3 hx y d8_3 rfl ?_
  refine sJ X3 hx y d8_5 rfl ?_
  refine sV X3 hx y d8_7 (by decide) ?_
  refine sA X3 hx y d8_10 rfl rfl ?_
  refine sI X3 hx y d8_11 rfl ?_
  have f4 := (U0.other W3 U3)
  obtain ⟨c5, r5, q5, t5, u5, y5h, y5g⟩ := id f4
  have i5 : ¬ ((1 : Int32) < 0 ∨ c5.slots.size ≤ ((1 : Int32)).toNatClampNeg) := inb_of t5 ⟨by decide, by decide⟩
  refine own_step (fun _ k => X3.caload hx (j := (1 : Int32)) (v := (.int v3_)) (by rw [e3]; exact r5.1) (State.isArrayOf_alike hZ.alike r5.2.1) r5.2.2 i5 (own_get t5 y5h i5 1 rfl) (g := (mkF m 12 #[rv v0_, iv 1, rv v1_, iv 1, iv 3, iv 1, iv v2_] [.int 1, .ref v0_])) rfl rfl (hb y d8_12) _ k) ?_
  refine sO X3 hx y d8_13 #[rv v0_, iv 1, rv v1_, iv 1, iv 3, iv 1, iv v3_] rfl ?_
  refine sJ X3 hx y d8_15 rfl ?_
  refine oS (XS.sipush X3.here hx rfl (hb y d8_17)) ?_
  by_cases hc6 : (255 : Int32) < v3_
  ·
   refine sV X3 hx y d8_20 (tlt hc6).2.2.2 ?_
   refine sJ X3 hx y d8_23 rfl ?_
   exact own_retI X3 hx hr hl (hb y d8_25) (by decide) (by decide) (by rw [e3]; exact Or.inr (Or.inl ⟨hc2, hc6, rfl, N3, K3, V3⟩))
  ·
   refine sU X3 hx y d8_20 (flt hc6).2.2.2 26 (by decide) ?_
   refine sA X3 hx y d8_26 rfl rfl ?_
   refine sI X3 hx y d8_27 rfl ?_
   refine sJ X3 hx y d8_28 rfl ?_
   refine oS (XS.i2b X3.here hx rfl (hb y d8_30) rfl) ?_
   obtain ⟨c7, r7, q7, t7, u7, y7h, y7g⟩ := id V3
   have i7 : ¬ ((1 : Int32) < 0 ∨ c7.slots.size ≤ ((1 : Int32)).toNatClampNeg) := inb_of t7 ⟨by decide, by decide⟩
   obtain ⟨T7, h7, X7, e7, W7, st7⟩ := stB X3 hx hZ e3 r7 (j := (1 : Int32)) i7 (g := (mkF m 31 #[rv v0_, iv 1, rv v1_, iv 1, iv 3, iv 1, iv v3_] [.int (v3_.toInt8.toInt32), .int 1, .ref v1_])) rfl rfl (hb y d8_31)
   refine own_step st7 ?_
   have N7 := Fr.snoc X7 N3 U2
   have K7 := K3.wr W7 (Or.inl (by simp))
   have V7 : Arv Z h7 v1_ v6_ .byte 3 [(.int (oBy v2_)), (.int (oBy v3_)), (.int 0)] (.int 0) := Arv.set r7 q7 t7 u7 y7h y7g (fits_nar_byte _) W7 1 rfl (Nat.le_of_ble_eq_true rfl)
   refine sY X7 hx y d8_32 #[rv v0_, iv ((1 : Int32) + (1 : Int32)), rv v1_, iv 1, iv 3, iv 1, iv v3_] rfl rfl ?_
   rw [(by decide : ((1 : Int32) + (1 : Int32)) = (2 : Int32))]
   refine sY X7 hx y d8_35 #[rv v0_, iv 2, rv v1_, iv ((1 : Int32) + (1 : Int32)), iv 3, iv 1, iv v3_] rfl rfl ?_
   rw [(by decide : ((1 : Int32) + (1 : Int32)) = (2 : Int32))]
   refine sY X7 hx y d8_38 #[rv v0_, iv 2, rv v1_, iv 2, iv 3, iv ((1 : Int32) + (1 : Int32)), iv v3_] rfl rfl ?_
   rw [(by decide : ((1 : Int32) + (1 : Int32)) = (2 : Int32))]
   refine sR X7 hx y d8_41 3 (by decide) ?_
   refine sJ X7 hx y d8_3 rfl ?_
   refine sJ X7 hx y d8_5 rfl ?_
   refine sV X7 hx y d8_7 (by decide) ?_
   refine sA X7 hx y d8_10 rfl rfl ?_
   refine sI X7 hx y d8_11 rfl ?_
   have f8 := (f4.other W7 U3)
   obtain ⟨c9, r9, q9, t9, u9, y9h, y9g⟩ := id f8
   have i9 : ¬ ((2 : Int32) < 0 ∨ c9.slots.size ≤ ((2 : Int32)).toNatClampNeg) := inb_of t9 ⟨by decide, by decide⟩
   refine own_step (fun _ k => X7.caload hx (j := (2 : Int32)) (v := (.int v4_)) (by rw [e7]; exact r9.1) (State.isArrayOf_alike hZ.alike r9.2.1) r9.2.2 i9 (own_get t9 y9h i9 2 rfl) (g := (mkF m 12 #[rv v0_, iv 2, rv v1_, iv 2, iv 3, iv 2, iv v3_] [.int 2, .ref v0_])) rfl rfl (hb y d8_12) _ k) ?_
   refine sO X7 hx y d8_13 #[rv v0_, iv 2, rv v1_, iv 2, iv 3, iv 2, iv v4_] rfl ?_
   refine sJ X7 hx y d8_15 rfl ?_
   refine oS (XS.sipush X7.here hx rfl (hb y d8_17)) ?_
   by_cases hc10 : (255 : Int32) < v4_
   ·
    refine sV X7 hx y d8_20 (tlt hc10).2.2.2 ?_
    refine sJ X7 hx y d8_23 rfl ?_
    exact own_retI X7 hx hr hl (hb y d8_25) (by decide) (by decide) (by rw [e7]; exact Or.inr (Or.inr (Or.inl ⟨hc2, hc6, hc10, rfl, N7, K7, V7⟩)))
   ·
    refine sU X7 hx y d8_20 (flt hc10).2.2.2 26 (by decide) ?_
    refine sA X7 hx y d8_26 rfl rfl ?_
    refine sI X7 hx y d8_27 rfl ?_
    refine sJ X7 hx y d8_28 rfl ?_
    refine oS (XS.i2b X7.here hx rfl (hb y d8_30) rfl) ?_
    obtain ⟨c11, r11, q11, t11, u11, y11h, y11g⟩ := id V7
    have i11 : ¬ ((2 : Int32) < 0 ∨ c11.slots.size ≤ ((2 : Int32)).toNatClampNeg) := inb_of t11 ⟨by decide, by decide⟩
    obtain ⟨T11, h11, X11, e11, W11, st11⟩ := stB X7 hx hZ e7 r11 (j := (2 : Int32)) i11 (g := (mkF m 31 #[rv v0_, iv 2, rv v1_, iv 2, iv 3, iv 2, iv v4_] [.int (v4_.toInt8.toInt32), .int 2, .ref v1_])) rfl rfl (hb y d8_31)
    refine own_step st11 ?_
    have N11 := Fr.snoc X11 N7 U2
    have K11 := K7.wr W11 (Or.inl (by simp))
    have V11 : Arv Z h11 v1_ v6_ .byte 3 [(.int (oBy v2_)), (.int (oBy v3_)), (.int (oBy v4_))] (.int 0) := Arv.set r11 q11 t11 u11 y11h y11g (fits_nar_byte _) W11 2 rfl (Nat.le_of_ble_eq_true rfl)
    refine sY X11 hx y d8_32 #[rv v0_, iv ((2 : Int32) + (1 : Int32)), rv v1_, iv 2, iv 3, iv 2, iv v4_] rfl rfl ?_
    rw [(by decide : ((2 : Int32) + (1 : Int32)) = (3 : Int32))]
    refine sY X11 hx y d8_35 #[rv v0_, iv 3, rv v1_, iv ((2 : Int32) + (1 : Int32)), iv 3, iv 2, iv v4_] rfl rfl ?_
    rw [(by decide : ((2 : Int32) + (1 : Int32)) = (3 : Int32))]
    refine sY X11 hx y d8_38 #[rv v0_, iv 3, rv v1_, iv 3, iv 3, iv ((2 : Int32) + (1 : Int32)), iv v4_] rfl rfl ?_
    rw [(by decide : ((2 : Int32) + (1 : Int32)) = (3 : Int32))]
    refine sR X11 hx y d8_41 3 (by decide) ?_
    refine sJ X11 hx y d8_3 rfl ?_
    refine sJ X11 hx y d8_5 rfl ?_
    refine sU X11 hx y d8_7 (by decide) 44 (by decide) ?_
    refine sJ X11 hx y d8_44 rfl ?_
    exact own_retI X11 hx hr hl (hb y d8_46) (by decide) (by decide) (by rw [e11]; exact Or.inr (Or.inr (Or.inr (⟨hc2, hc6, hc10, rfl, N11, K11, V11⟩))))


theorem rm29_88  :
  oM hw hS O0 l y29 cd29 (oR 0 0 0 0) #[.int 3] (fun v h L => (v = some (.int 6) ∧ Fr n0 L ∧ h = h0)) := by
 refine own_met (own := "java/lang/StringUTF16") (plainFor_of_name pn14) rfl ?_
 intro p e s m u mt c s₁ hx y hml ho hq hr hl hZ e0 X0
 refine own_cast (g' := (mkF m 0 #[iv 3] [])) rfl ?_
 refine sI X0 hx y d29_0 rfl ?_
 refine sS X0 hx y d29_1 (by decide) 12 (by decide) ?_
 refine sI X0 hx y d29_12 rfl ?_
 refine own_step (X0.ldcInt hx ho (mvT hZ (oW hw 129 rfl)) (g := (mkF m 13 #[iv 3] [.int 3])) rfl (hb y d29_13)) ?_
 refine sU X0 hx y d29_15 (by decide) 55 (by decide) ?_
 refine sI X0 hx y d29_55 rfl ?_
 refine sC X0 hx y d29_56 ?_
 refine sL X0 hx y d29_57 ?_
 refine oV (b := 6) (by decide) ?_
 exact own_retI X0 hx hr hl (hb y d29_58) (by decide) (by decide) (by rw [e0]; exact ⟨rfl, (Fr.nil n0), rfl⟩)


theorem rm28_89  :
  oM hw hS O0 l y28 cd28 (oR 1 1 6 12) #[.int 3] (fun v h L => (∃ (b2 : Addr) (k2 : ClassId), v = some (.ref b2) ∧ Fr n0 L ∧ Keep h0 h [] ∧ h0.size ≤ b2 ∧ Arv Z h b2 k2 .byte 6 [(.int 0), (.int 0), (.int 0), (.int 0), (.int 0), (.int 0)] (.int 0))) := by
 refine own_met (own := "java/lang/StringUTF16") (plainFor_of_name pn14) rfl ?_
 intro p e s m u mt c s₁ hx y hml ho hq hr hl hZ e0 X0
 refine own_cast (g' := (mkF m 0 #[iv 3] [])) rfl ?_
 refine sI X0 hx y d28_0 rfl ?_
 refine oCS X0 hx hZ ho (oW hw 126 rfl) (bu21 hw) (rm29_88 hw hS O0) 0 (by decide) [.int 3] rfl (lenOf pd22 rfl) hml rfl rfl rfl y d28_1 e0 ?_
 rintro _ T1 _ X1 ⟨rfl, N1q, e1⟩
 have N1 := Fr.app (Fr.nil n0) N1q
 obtain ⟨T2, h2, k2, X2, e2, E2, A2, st2⟩ := newP X1 hx hZ (oW hw 31 rfl) e1 (g := (mkF m 4 #[iv 3] [.int 6])) rfl (hb y d28_4) rfl (by decide) (cap := 6) (by decide) (by decide) (by decide) (by decide)
 obtain ⟨b2, z2⟩ : ∃ z, z = h0.size := ⟨_, rfl⟩
 rw [← z2] at A2 st2
 refine own_step st2 ?_
 have y2 : h0.size ≤ b2 := Nat.le_trans (Nat.le_refl _) (Nat.le_of_eq z2.symm)
 have K2 := (Keep.refl h0 []).ext E2
 have V2 : Arv Z h2 b2 k2 .byte 6 [(.int 0), (.int 0), (.int 0), (.int 0), (.int 0), (.int 0)] (.int 0) := (Arv.new A2 (by decide)).pad (pad_rep [] (.int 0) 6)
 exact own_retA X2 hx hr rfl rfl hl (hb y d28_6) (by decide) (by decide) (by rw [e2]; exact ⟨b2, k2, rfl, N1, K2, y2, V2⟩)


theorem rm30_90 (v0_ : Addr) (v1_ : Int32) (v2_ : ClassId) (U0 : Arv Z h0 v0_ v2_ .byte 6 [(.int 0), (.int 0), (.int 0), (.int 0), (.int 0), (.int 0)] (.int 0)) (U1 : n0 ≤ v0_) :
  oM hw hS O0 l y30 cd30 (oR 0 0 0 0) #[.ref v0_, .int 0, .int v1_] (fun v h L => (v = none ∧ Fr n0 L ∧ Keep h0 h [v0_] ∧ Arv Z h v0_ v2_ .byte 6 [(.int (oLo v1_)), (.int (oHi v1_)), (.int 0), (.int 0), (.int 0), (.int 0)] (.int 0))) := by
 refine own_met (own := "java/lang/StringUTF16") (plainFor_of_name pn14) rfl ?_
 intro p e s m u mt c s₁ hx y hml ho hq hr hl hZ e0 X0
 refine own_cast (g' := (mkF m 0 #[rv v0_, iv 0, iv v1_] [])) rfl ?_
 obtain ⟨T1, X1, e1, st1⟩ := getS2 X0 hx hZ ho (host := "") (Or.inl (oW hw 133 rfl)) Via.refl e0 ((si0 hw hS).ext O0.2) (g := (mkF m 0 #[rv v0_, iv 0, iv v1_] [])) rfl (hb y d30_0)
 refine own_step st1 ?_
 refine sS X1 hx y d30_3 (by decide) 28 (by decide) ?_
 refine sI X1 hx y d30_28 rfl ?_
 refine sC X1 hx y d30_29 ?_
 refine sL X1 hx y d30_30 ?_
 refine oV (b := 0) (by decide) ?_
 refine sN X1 hx y d30_31 #[rv v0_, iv 0, iv v1_] rfl ?_
 refine sA X1 hx y d30_32 rfl rfl ?_
 refine sI X1 hx y d30_33 rfl ?_
 refine sY X1 hx y d30_34 #[rv v0_, iv ((0 : Int32) + (1 : Int32)), iv v1_] rfl rfl ?_
 rw [(by decide : ((0 : Int32) + (1 : Int32)) = (1 : Int32))]
 refine sI X1 hx y d30_37 rfl ?_
 obtain ⟨T2, X2, e2, st2⟩ := getS2 X1 hx hZ ho (host := "") (Or.inl (oW hw 134 rfl)) Via.refl e1 ((si1 hw hS).ext O0.2) (g := (mkF m 38 #[rv v0_, iv 1, iv v1_] [.int v1_, .int 0, .ref v0_])) rfl (hb y d30_38)
 refine own_step st2 ?_
 refine sM X2 hx y d30_41 ?_
 refine oS (XS.i2b X2.here hx rfl (hb y d30_42) rfl) ?_
 obtain ⟨c3, r3, q3, t3, u3, y3h, y3g⟩ := id U0
 have i3 : ¬ ((0 : Int32) < 0 ∨ c3.slots.size ≤ ((0 : Int32)).toNatClampNeg) := inb_of t3 ⟨by decide, by decide⟩
 obtain ⟨T3, h3, X3, e3, W3, st3⟩ := stB X2 hx hZ e2 r3 (j := (0 : Int32)) i3 (g := (mkF m 43 #[rv v0_, iv 1, iv v1_] [.int ((v1_ >>> ((0 : Int32) &&& 31)).toInt8.toInt32), .int 0, .ref v0_])) rfl rfl (hb y d30_43)
 refine own_step st3 ?_
 have N3 := Fr.snoc X3 (Fr.nil n0) U1
 have O3 := O0.wr W3 U1
 have K3 := (Keep.refl h0 [v0_]).wr W3 (Or.inl (by simp))
 have V3 : Arv Z h3 v0_ v2_ .byte 6 [(.int (oLo v1_)), (.int 0), (.int 0), (.int 0), (.int 0), (.int 0)] (.int 0) := Arv.set r3 q3 t3 u3 y3h y3g (fits_nar_byte _) W3 0 rfl (Nat.le_of_ble_eq_true rfl)
 refine sA X3 hx y d30_44 rfl rfl ?_
 refine sI X3 hx y d30_45 rfl ?_
 refine sI X3 hx y d30_46 rfl ?_
 obtain ⟨T4, X4, e4, st4⟩ := getS2 X3 hx hZ ho (host := "") (Or.inl (oW hw 135 rfl)) Via.refl e3 ((si2 hw hS).ext O3.2) (g := (mkF m 47 #[rv v0_, iv 1, iv v1_] [.int v1_, .int 1, .ref v0_])) rfl (hb y d30_47)
 refine own_step st4 ?_
 refine sM X4 hx y d30_50 ?_
 refine oS (XS.i2b X4.here hx rfl (hb y d30_51) rfl) ?_
 obtain ⟨c5, r5, q5, t5, u5, y5h, y5g⟩ := id V3
 have i5 : ¬ ((1 : Int32) < 0 ∨ c5.slots.size ≤ ((1 : Int32)).toNatClampNeg) := inb_of t5 ⟨by decide, by decide⟩
 obtain ⟨T5, h5, X5, e5, W5, st5⟩ := stB X4 hx hZ e4 r5 (j := (1 : Int32)) i5 (g := (mkF m 52 #[rv v0_, iv 1, iv v1_] [.int ((v1_ >>> ((8 : Int32) &&& 31)).toInt8.toInt32), .int 1, .ref v0_])) rfl rfl (hb y d30_52)
 refine own_step st5 ?_
 have N5 := Fr.snoc X5 N3 U1
 have K5 := K3.wr W5 (Or.inl (by simp))
 have V5 : Arv Z h5 v0_ v2_ .byte 6 [(.int (oLo v1_)), (.int (oHi v1_)), (.int 0), (.int 0), (.int 0), (.int 0)] (.int 0) := Arv.set r5 q5 t5 u5 y5h y5g (fits_nar_byte _) W5 1 rfl (Nat.le_of_ble_eq_true rfl)
 exact own_retV X5 hx hr hl (hb y d30_53) (by decide) (by decide) (by rw [e5]; exact ⟨rfl, N5, K5, V5⟩)


theorem rm30_91 (v0_ : Addr) (v1_ v2_ : Int32) (v3_ : ClassId) (U0 : Arv Z h0 v0_ v3_ .byte 6 [(.int (oLo v2_)), (.int (oHi v2_)), (.int 0), (.int 0), (.int 0), (.int 0)] (.int 0)) (U1 : n0 ≤ v0_) :
  oM hw hS O0 l y30 cd30 (oR 0 0 0 0) #[.ref v0_, .int 1, .int v1_] (fun v h L => (v = none ∧ Fr n0 L ∧ Keep h0 h [v0_] ∧ Arv Z h v0_ v3_ .byte 6 [(.int (oLo v2_)), (.int (oHi v2_)), (.int (oLo v1_)), (.int (oHi v1_)), (.int 0), (.int 0)] (.int 0))) := by
 refine own_met (own := "java/lang/StringUTF16") (plainFor_of_name pn14) rfl ?_
 intro p e s m u mt c s₁ hx y hml ho hq hr hl hZ e0 X0
 refine own_cast (g' := (mkF m 0 #[rv v0_, iv 1, iv v1_] [])) rfl ?_
 obtain ⟨T1, X1, e1, st1⟩ := getS2 X0 hx hZ ho (host := "") (Or.inl (oW hw 133 rfl)) Via.refl e0 ((si0 hw hS).ext O0.2) (g := (mkF m 0 #[rv v0_, iv 1, iv v1_] [])) rfl (hb y d30_0)
 refine own_step st1 ?_
 refine sS X1 hx y d30_3 (by decide) 28 (by decide) ?_
 refine sI X1 hx y d30_28 rfl ?_
 refine sC X1 hx y d30_29 ?_
 refine sL X1 hx y d30_30 ?_
 refine oV (b := 2) (by decide) ?_
 refine sN X1 hx y d30_31 #[rv v0_, iv 2, iv v1_] rfl ?_
 refine sA X1 hx y d30_32 rfl rfl ?_
 refine sI X1 hx y d30_33 rfl ?_
 refine sY X1 hx y d30_34 #[rv v0_, iv ((2 : Int32) + (1 : Int32)), iv v1_] rfl rfl ?_
 rw [(by decide : ((2 : Int32) + (1 : Int32)) = (3 : Int32))]
 refine sI X1 hx y d30_37 rfl ?_
 obtain ⟨T2, X2, e2, st2⟩ := getS2 X1 hx hZ ho (host := "") (Or.inl (oW hw 134 rfl)) Via.refl e1 ((si1 hw hS).ext O0.2) (g := (mkF m 38 #[rv v0_, iv 3, iv v1_] [.int v1_, .int 2, .ref v0_])) rfl (hb y d30_38)
 refine own_step st2 ?_
 refine sM X2 hx y d30_41 ?_
 refine oS (XS.i2b X2.here hx rfl (hb y d30_42) rfl) ?_
 obtain ⟨c3, r3, q3, t3, u3, y3h, y3g⟩ := id U0
 have i3 : ¬ ((2 : Int32) < 0 ∨ c3.slots.size ≤ ((2 : Int32)).toNatClampNeg) := inb_of t3 ⟨by decide, by decide⟩
 obtain ⟨T3, h3, X3, e3, W3, st3⟩ := stB X2 hx hZ e2 r3 (j := (2 : Int32)) i3 (g := (mkF m 43 #[rv v0_, iv 3, iv v1_] [.int ((v1_ >>> ((0 : Int32) &&& 31)).toInt8.toInt32), .int 2, .ref v0_])) rfl rfl (hb y d30_43)
 refine own_step st3 ?_
 have N3 := Fr.snoc X3 (Fr.nil n0) U1
 have O3 := O0.wr W3 U1
 have K3 := (Keep.refl h0 [v0_]).wr W3 (Or.inl (by simp))
 have V3 : Arv Z h3 v0_ v3_ .byte 6 [(.int (oLo v2_)), (.int (oHi v2_)), (.int (oLo v1_)), (.int 0), (.int 0), (.int 0)] (.int 0) := Arv.set r3 q3 t3 u3 y3h y3g (fits_nar_byte _) W3 2 rfl (Nat.le_of_ble_eq_true rfl)
 refine sA X3 hx y d30_44 rfl rfl ?_
 refine sI X3 hx y d30_45 rfl ?_
 refine sI X3 hx y d30_46 rfl ?_
 obtain ⟨T4, X4, e4, st4⟩ := getS2 X3 hx hZ ho (host := "") (Or.inl (oW hw 135 rfl)) Via.refl e3 ((si2 hw hS).ext O3.2) (g := (mkF m 47 #[rv v0_, iv 3, iv v1_] [.int v1_, .int 3, .ref v0_])) rfl (hb y d30_47)
 refine own_step st4 ?_
 refine sM X4 hx y d30_50 ?_
 refine oS (XS.i2b X4.here hx rfl (hb y d30_51) rfl) ?_
 obtain ⟨c5, r5, q5, t5, u5, y5h, y5g⟩ := id V3
 have i5 : ¬ ((3 : Int32) < 0 ∨ c5.slots.size ≤ ((3 : Int32)).toNatClampNeg) := inb_of t5 ⟨by decide, by decide⟩
 obtain ⟨T5, h5, X5, e5, W5, st5⟩ := stB X4 hx hZ e4 r5 (j := (3 : Int32)) i5 (g := (mkF m 52 #[rv v0_, iv 3, iv v1_] [.int ((v1_ >>> ((8 : Int32) &&& 31)).toInt8.toInt32), .int 3, .ref v0_])) rfl rfl (hb y d30_52)
 refine own_step st5 ?_
 have N5 := Fr.snoc X5 N3 U1
 have K5 := K3.wr W5 (Or.inl (by simp))
 have V5 : Arv Z h5 v0_ v3_ .byte 6 [(.int (oLo v2_)), (.int (oHi v2_)), (.int (oLo v1_)), (.int (oHi v1_)), (.int 0), (.int 0)] (.int 0) := Arv.set r5 q5 t5 u5 y5h y5g (fits_nar_byte _) W5 3 rfl (Nat.le_of_ble_eq_true rfl)
 exact own_retV X5 hx hr hl (hb y d30_53) (by decide) (by decide) (by rw [e5]; exact ⟨rfl, N5, K5, V5⟩)


theorem rm30_92 (v0_ : Addr) (v1_ v2_ v3_ : Int32) (v4_ : ClassId) (U0 : Arv Z h0 v0_ v4_ .byte 6 [(.int (oLo v2_)), (.int (oHi v2_)), (.int (oLo v3_)), (.int (oHi v3_)), (.int 0), (.int 0)] (.int 0)) (U1 : n0 ≤ v0_) :
  oM hw hS O0 l y30 cd30 (oR 0 0 0 0) #[.ref v0_, .int 2, .int v1_] (fun v h L => (v = none ∧ Fr n0 L ∧ Keep h0 h [v0_] ∧ Arv Z h v0_ v4_ .byte 6 [(.int (oLo v2_)), (.int (oHi v2_)), (.int (oLo v3_)), (.int (oHi v3_)), (.int (oLo v1_)), (.int (oHi v1_))] (.int 0))) := by
 refine own_met (own := "java/lang/StringUTF16") (plainFor_of_name pn14) rfl ?_
 intro p e s m u mt c s₁ hx y hml ho hq hr hl hZ e0 X0
 refine own_cast (g' := (mkF m 0 #[rv v0_, iv 2, iv v1_] [])) rfl ?_
 obtain ⟨T1, X1, e1, st1⟩ := getS2 X0 hx hZ ho (host := "") (Or.inl (oW hw 133 rfl)) Via.refl e0 ((si0 hw hS).ext O0.2) (g := (mkF m 0 #[rv v0_, iv 2, iv v1_] [])) rfl (hb y d30_0)
 refine own_step st1 ?_
 refine sS X1 hx y d30_3 (by decide) 28 (by decide) ?_
 refine sI X1 hx y d30_28 rfl ?_
 refine sC X1 hx y d30_29 ?_
 refine sL X1 hx y d30_30 ?_
 refine oV (b := 4) (by decide) ?_
 refine sN X1 hx y d30_31 #[rv v0_, iv 4, iv v1_] rfl ?_
 refine sA X1 hx y d30_32 rfl rfl ?_
 refine sI X1 hx y d30_33 rfl ?_
 refine sY X1 hx y d30_34 #[rv v0_, iv ((4 : Int32) + (1 : Int32)), iv v1_] rfl rfl ?_
 rw [(by decide : ((4 : Int32) + (1 : Int32)) = (5 : Int32))]
 refine sI X1 hx y d30_37 rfl ?_
 obtain ⟨T2, X2, e2, st2⟩ := getS2 X1 hx hZ ho (host := "") (Or.inl (oW hw 134 rfl)) Via.refl e1 ((si1 hw hS).ext O0.2) (g := (mkF m 38 #[rv v0_, iv 5, iv v1_] [.int v1_, .int 4, .ref v0_])) rfl (hb y d30_38)
 refine own_step st2 ?_
 refine sM X2 hx y d30_41 ?_
 refine oS (XS.i2b X2.here hx rfl (hb y d30_42) rfl) ?_
 obtain ⟨c3, r3, q3, t3, u3, y3h, y3g⟩ := id U0
 have i3 : ¬ ((4 : Int32) < 0 ∨ c3.slots.size ≤ ((4 : Int32)).toNatClampNeg) := inb_of t3 ⟨by decide, by decide⟩
 obtain ⟨T3, h3, X3, e3, W3, st3⟩ := stB X2 hx hZ e2 r3 (j := (4 : Int32)) i3 (g := (mkF m 43 #[rv v0_, iv 5, iv v1_] [.int ((v1_ >>> ((0 : Int32) &&& 31)).toInt8.toInt32), .int 4, .ref v0_])) rfl rfl (hb y d30_43)
 refine own_step st3 ?_
 have N3 := Fr.snoc X3 (Fr.nil n0) U1
 have O3 := O0.wr W3 U1
 have K3 := (Keep.refl h0 [v0_]).wr W3 (Or.inl (by simp))
 have V3 : Arv Z h3 v0_ v4_ .byte 6 [(.int (oLo v2_)), (.int (oHi v2_)), (.int (oLo v3_)), (.int (oHi v3_)), (.int (oLo v1_)), (.int 0)] (.int 0) := Arv.set r3 q3 t3 u3 y3h y3g (fits_nar_byte _) W3 4 rfl (Nat.le_of_ble_eq_true rfl)
 refine sA X3 hx y d30_44 rfl rfl ?_
 refine sI X3 hx y d30_45 rfl ?_
 refine sI X3 hx y d30_46 rfl ?_
 obtain ⟨T4, X4, e4, st4⟩ := getS2 X3 hx hZ ho (host := "") (Or.inl (oW hw 135 rfl)) Via.refl e3 ((si2 hw hS).ext O3.2) (g := (mkF m 47 #[rv v0_, iv 5, iv v1_] [.int v1_, .int 5, .ref v0_])) rfl (hb y d30_47)
 refine own_step st4 ?_
 refine sM X4 hx y d30_50 ?_
 refine oS (XS.i2b X4.here hx rfl (hb y d30_51) rfl) ?_
 obtain ⟨c5, r5, q5, t5, u5, y5h, y5g⟩ := id V3
 have i5 : ¬ ((5 : Int32) < 0 ∨ c5.slots.size ≤ ((5 : Int32)).toNatClampNeg) := inb_of t5 ⟨by decide, by decide⟩
 obtain ⟨T5, h5, X5, e5, W5, st5⟩ := stB X4 hx hZ e4 r5 (j := (5 : Int32)) i5 (g := (mkF m 52 #[rv v0_, iv 5, iv v1_] [.int ((v1_ >>> ((8 : Int32) &&& 31)).toInt8.toInt32), .int 5, .ref v0_])) rfl rfl (hb y d30_52)
 refine own_step st5 ?_
 have N5 := Fr.snoc X5 N3 U1
 have K5 := K3.wr W5 (Or.inl (by simp))
 have V5 : Arv Z h5 v0_ v4_ .byte 6 [(.int (oLo v2_)), (.int (oHi v2_)), (.int (oLo v3_)), (.int (oHi v3_)), (.int (oLo v1_)), (.int (oHi v1_))] (.int 0) := Arv.set r5 q5 t5 u5 y5h y5g (fits_nar_byte _) W5 5 rfl (Nat.le_of_ble_eq_true rfl)
 exact own_retV X5 hx hr hl (hb y d30_53) (by decide) (by decide) (by rw [e5]; exact ⟨rfl, N5, K5, V5⟩)


theorem rm27_93 (v0_ : Addr) (v1_ v2_ v3_ : Int32) (v4_ : ClassId) (U0 : Arv Z h0 v0_ v4_ .char 3 [(.int v1_), (.int v2_), (.int v3_)] (.int 0)) :
  oM hw hS O0 l y27 cd27 (oR 2 1 6 24) #[.ref v0_, .int 0, .int 3] (fun v h L => (∃ (b2 : Addr) (k3 : ClassId), v = some (.ref b2) ∧ Fr n0 L ∧ Keep h0 h [] ∧ h0.size ≤ b2 ∧ Arv Z h b2 k3 .byte 6 [(.int (oLo v1_)), (.int (oHi v1_)), (.int (oLo v2_)), (.int (oHi v2_)), (.int (oLo v3_)), (.int (oHi v3_))] (.int 0))) := by
 refine own_met (own := "java/lang/StringUTF16") (plainFor_of_name pn14) rfl ?_
 intro p e s m u mt c s₁ hx y hml ho hq hr hl hZ e0 X0
 refine own_cast (g' := (mkF m 0 #[rv v0_, iv 0, iv 3, .unset, .unset] [])) rfl ?_
 refine sI X0 hx y d27_0 rfl ?_
 refine oCS X0 hx hZ ho (oW hw 123 rfl) (bu24 hw) (rm28_89 hw hS O0) 0 (by decide) [.int 3] rfl (lenOf pd25 rfl) hml rfl rfl rfl y d27_1 e0 ?_
 rintro _ T1 _ X1 ⟨b2, k3, rfl, N1q, K1q, y1_0, F1_0⟩
 have N1 := Fr.app (Fr.nil n0) N1q
 have g1_0 : n0 ≤ b2 := Nat.le_trans (O0.1 ▸ O0.2.1) y1_0
 have ne1_0_0 : v0_ ≠ b2 := Nat.ne_of_lt (Nat.lt_of_lt_of_le U0.lt y1_0)
 have u1_0 : h0.size ≤ b2 := Nat.le_trans (Nat.le_refl _) y1_0
 have O1 := O0.keep K1q all0
 have K1 := Keep.trans (Keep.refl h0 []) K1q all0
 refine sP X1 hx y d27_4 rfl #[rv v0_, iv 0, iv 3, rv b2, .unset] rfl ?_
 refine sC X1 hx y d27_5 ?_
 refine sO X1 hx y d27_6 #[rv v0_, iv 0, iv 3, rv b2, iv 0] rfl ?_
 refine sJ X1 hx y d27_8 rfl ?_
 refine sI X1 hx y d27_10 rfl ?_
 refine sV X1 hx y d27_11 (by decide) ?_
 refine sA X1 hx y d27_14 rfl rfl ?_
 refine sJ X1 hx y d27_15 rfl ?_
 refine sA X1 hx y d27_17 rfl rfl ?_
 refine sI X1 hx y d27_18 rfl ?_
 have f4 := (U0.keep K1q nin0)
 obtain ⟨c5, r5, q5, t5, u5, y5h, y5g⟩ := id f4
 have i5 : ¬ ((0 : Int32) < 0 ∨ c5.slots.size ≤ ((0 : Int32)).toNatClampNeg) := inb_of t5 ⟨by decide, by decide⟩
 refine own_step (fun _ k => X1.caload hx (j := (0 : Int32)) (v := (.int v1_)) r5.1 (State.isArrayOf_alike hZ.alike r5.2.1) r5.2.2 i5 (own_get t5 y5h i5 0 rfl) (g := (mkF m 19 #[rv v0_, iv 0, iv 3, rv b2, iv 0] [.int 0, .ref v0_, .int 0, .ref b2])) rfl rfl (hb y d27_19) _ k) ?_
 refine oCS X1 hx hZ ho (oW hw 130 rfl) (bu28 hw) (rm30_90 hw hS O1 b2 v1_ k3 F1_0 g1_0) 0 (by decide) [.ref b2, .int 0, .int v1_] rfl (lenOf pd29 rfl) hml rfl rfl rfl y d27_20 rfl ?_
 rintro _ T6 _ X6 ⟨rfl, N6q, K6q, F6_0⟩
 have N6 := Fr.app N1 N6q
 have O6 := O1.keep K6q (allS g1_0 all0)
 have K6 := Keep.trans K1 K6q (allS (Or.inr u1_0) all0)
 refine sY X6 hx y d27_23 #[rv v0_, iv ((0 : Int32) + (1 : Int32)), iv 3, rv b2, iv 0] rfl rfl ?_
 rw [(by decide : ((0 : Int32) + (1 : Int32)) = (1 : Int32))]
 refine sY X6 hx y d27_26 #[rv v0_, iv 1, iv 3, rv b2, iv ((0 : Int32) + (1 : Int32))] rfl rfl ?_
 rw [(by decide : ((0 : Int32) + (1 : Int32)) = (1 : Int32))]
 refine sR X6 hx y d27_29 8 (by decide) ?_
 refine sJ X6 hx y d27_8 rfl ?_
 refine sI X6 hx y d27_10 rfl ?_
 refine sV X6 hx y d27_11 (by decide) ?_
 refine sA X6 hx y d27_14 rfl rfl ?_
 refine sJ X6 hx y d27_15 rfl ?_
 refine sA X6 hx y d27_17 rfl rfl ?_
 refine sI X6 hx y d27_18 rfl ?_
 have f7 := (f4.keep K6q (ninS ne1_0_0 nin0))
 obtain ⟨c8, r8, q8, t8, u8, y8h, y8g⟩ := id f7
 have i8 : ¬ ((1 : Int32) < 0 ∨ c8.slots.size ≤ ((1 : Int32)).toNatClampNeg) := inb_of t8 ⟨by decide, by decide⟩
 refine own_step (fun _ k => X6.caload hx (j := (1 : Int32)) (v := (.int v2_)) r8.1 (State.isArrayOf_alike hZ.alike r8.2.1) r8.2.2 i8 (own_get t8 y8h i8 1 rfl) (g := (mkF m 19 #[rv v0_, iv 1, iv 3, rv b2, iv 1] [.int 1, .ref v0_, .int 1, .ref b2])) rfl rfl (hb y d27_19) _ k) ?_
 refine oCS X6 hx hZ ho (oW hw 130 rfl) (bu28 hw) (rm30_91 hw hS O6 b2 v2_ v1_ k3 F6_0 g1_0) 0 (by decide) [.ref b2, .int 1, .int v2_] rfl (lenOf pd29 rfl) hml rfl rfl rfl y d27_20 rfl ?_
 rintro _ T9 _ X9 ⟨rfl, N9q, K9q, F9_0⟩
 have N9 := Fr.app N6 N9q
 have O9 := O6.keep K9q (allS g1_0 all0)
 have K9 := Keep.trans K6 K9q (allS (Or.inr u1_0) all0)
 refine sY X9 hx y d27_23 #[rv v0_, iv ((1 : Int32) + (1 : Int32)), iv 3, rv b2, iv 1] rfl rfl ?_
 rw [(by decide : ((1 : Int32) + (1 : Int32)) = (2 : Int32))]
 refine sY X9 hx y d27_26 #[rv v0_, iv 2, iv 3, rv b2, iv ((1 : Int32) + (1 : Int32))] rfl rfl ?_
 rw [(by decide : ((1 : Int32) + (1 : Int32)) = (2 : Int32))]
 refine sR X9 hx y d27_29 8 (by decide) ?_
 refine sJ X9 hx y d27_8 rfl ?_
 refine sI X9 hx y d27_10 rfl ?_
 refine sV X9 hx y d27_11 (by decide) ?_
 refine sA X9 hx y d27_14 rfl rfl ?_
 refine sJ X9 hx y d27_15 rfl ?_
 refine sA X9 hx y d27_17 rfl rfl ?_
 refine sI X9 hx y d27_18 rfl ?_
 have f10 := (f7.keep K9q (ninS ne1_0_0 nin0))
 obtain ⟨c11, r11, q11, t11, u11, y11h, y11g⟩ := id f10
 have i11 : ¬ ((2 : Int32) < 0 ∨ c11.slots.size ≤ ((2 : Int32)).toNatClampNeg) := inb_of t11 ⟨by decide, by decide⟩
 refine own_step (fun _ k => X9.caload hx (j := (2 : Int32)) (v := (.int v3_)) r11.1 (State.isArrayOf_alike hZ.alike r11.2.1) r11.2.2 i11 (own_get t11 y11h i11 2 rfl) (g := (mkF m 19 #[rv v0_, iv 2, iv 3, rv b2, iv 2] [.int 2, .ref v0_, .int 2, .ref b2])) rfl rfl (hb y d27_19) _ k) ?_
 refine oCS X9 hx hZ ho (oW hw 130 rfl) (bu28 hw) (rm30_92 hw hS O9 b2 v3_ v1_ v2_ k3 F9_0 g1_0) 0 (by decide) [.ref b2, .int 2, .int v3_] rfl (lenOf pd29 rfl) hml rfl rfl rfl y d27_20 rfl ?_
 rintro _ T12 _ X12 ⟨rfl, N12q, K12q, F12_0⟩
 have N12 := Fr.app N9 N12q
 have K12 := Keep.trans K9 K12q (allS (Or.inr u1_0) all0)
 refine sY X12 hx y d27_23 #[rv v0_, iv ((2 : Int32) + (1 : Int32)), iv 3, rv b2, iv 2] rfl rfl ?_
 rw [(by decide : ((2 : Int32) + (1 : Int32)) = (3 : Int32))]
 refine sY X12 hx y d27_26 #[rv v0_, iv 3, iv 3, rv b2, iv ((2 : Int32) + (1 : Int32))] rfl rfl ?_
 rw [(by decide : ((2 : Int32) + (1 : Int32)) = (3 : Int32))]
 refine sR X12 hx y d27_29 8 (by decide) ?_
 refine sJ X12 hx y d27_8 rfl ?_
 refine sI X12 hx y d27_10 rfl ?_
 refine sU X12 hx y d27_11 (by decide) 32 (by decide) ?_
 refine sA X12 hx y d27_32 rfl rfl ?_
 exact own_retA X12 hx hr rfl rfl hl (hb y d27_33) (by decide) (by decide) (⟨b2, k3, rfl, N12, K12, u1_0, F12_0⟩)


theorem rm31_94 (v0_ : Addr) (v1_ v2_ v3_ : Int32) (v4_ : ClassId) (U0 : Arv Z h0 v0_ v4_ .byte 6 [(.int (oLo v1_)), (.int (oHi v1_)), (.int (oLo v2_)), (.int (oHi v2_)), (.int (oLo v3_)), (.int (oHi v3_))] (.int 0)) (U1 : nar .char v1_ = v1_) (U2 : ¬ (v1_ < (0 : Int32))) (U3 : ¬ ((65535 : Int32) < v1_)) :
  oM hw hS O0 l y31 cd31 (oR 0 0 0 0) #[.ref v0_, .int 0] (fun v h L => (v = some (.int v1_) ∧ Fr n0 L ∧ h = h0)) := by
 refine own_met (own := "java/lang/StringUTF16") (plainFor_of_name pn14) rfl ?_
 intro p e s m u mt c s₁ hx y hml ho hq hr hl hZ e0 X0
 refine own_cast (g' := (mkF m 0 #[rv v0_, iv 0] [])) rfl ?_
 obtain ⟨T1, X1, e1, st1⟩ := getS2 X0 hx hZ ho (host := "") (Or.inl (oW hw 133 rfl)) Via.refl e0 ((si0 hw hS).ext O0.2) (g := (mkF m 0 #[rv v0_, iv 0] [])) rfl (hb y d31_0)
 refine own_step st1 ?_
 refine sS X1 hx y d31_3 (by decide) 28 (by decide) ?_
 refine sI X1 hx y d31_28 rfl ?_
 refine sC X1 hx y d31_29 ?_
 refine sL X1 hx y d31_30 ?_
 refine oV (b := 0) (by decide) ?_
 refine sN X1 hx y d31_31 #[rv v0_, iv 0] rfl ?_
 refine sA X1 hx y d31_32 rfl rfl ?_
 refine sI X1 hx y d31_33 rfl ?_
 refine sY X1 hx y d31_34 #[rv v0_, iv ((0 : Int32) + (1 : Int32))] rfl rfl ?_
 rw [(by decide : ((0 : Int32) + (1 : Int32)) = (1 : Int32))]
 obtain ⟨c2, r2, q2, t2, u2, y2h, y2g⟩ := id U0
 have i2 : ¬ ((0 : Int32) < 0 ∨ c2.slots.size ≤ ((0 : Int32)).toNatClampNeg) := inb_of t2 ⟨by decide, by decide⟩
 refine own_step (fun _ k => X1.baloadBytes hx (j := (0 : Int32)) (v := (.int (oLo v1_))) (by rw [e1]; exact r2.1) (State.isArrayOf_alike hZ.alike r2.2.1) r2.2.2 i2 (own_get t2 y2h i2 0 rfl) (g := (mkF m 37 #[rv v0_, iv 1] [.int 0, .ref v0_])) rfl rfl (hb y d31_37) _ k) ?_
 refine oS (XS.sipush X1.here hx rfl (hb y d31_38)) ?_
 refine oS (XS.iand X1.here hx rfl (hb y d31_41) rfl) ?_
 obtain ⟨T3, X3, e3, st3⟩ := getS2 X1 hx hZ ho (host := "") (Or.inl (oW hw 134 rfl)) Via.refl e1 ((si1 hw hS).ext O0.2) (g := (mkF m 42 #[rv v0_, iv 1] [.int ((oLo v1_) &&& (255 : Int32))])) rfl (hb y d31_42)
 refine own_step st3 ?_
 refine sL X3 hx y d31_45 ?_
 refine sA X3 hx y d31_46 rfl rfl ?_
 refine sI X3 hx y d31_47 rfl ?_
 obtain ⟨c4, r4, q4, t4, u4, y4h, y4g⟩ := id U0
 have i4 : ¬ ((1 : Int32) < 0 ∨ c4.slots.size ≤ ((1 : Int32)).toNatClampNeg) := inb_of t4 ⟨by decide, by decide⟩
 refine own_step (fun _ k => X3.baloadBytes hx (j := (1 : Int32)) (v := (.int (oHi v1_))) (by rw [e3]; exact r4.1) (State.isArrayOf_alike hZ.alike r4.2.1) r4.2.2 i4 (own_get t4 y4h i4 1 rfl) (g := (mkF m 48 #[rv v0_, iv 1] [.int 1, .ref v0_, .int (((oLo v1_) &&& (255 : Int32)) <<< ((0 : Int32) &&& 31))])) rfl rfl (hb y d31_48) _ k) ?_
 refine oS (XS.sipush X3.here hx rfl (hb y d31_49)) ?_
 refine oS (XS.iand X3.here hx rfl (hb y d31_52) rfl) ?_
 obtain ⟨T5, X5, e5, st5⟩ := getS2 X3 hx hZ ho (host := "") (Or.inl (oW hw 135 rfl)) Via.refl e3 ((si2 hw hS).ext O0.2) (g := (mkF m 53 #[rv v0_, iv 1] [.int ((oHi v1_) &&& (255 : Int32)), .int (((oLo v1_) &&& (255 : Int32)) <<< ((0 : Int32) &&& 31))])) rfl (hb y d31_53)
 refine own_step st5 ?_
 refine sL X5 hx y d31_56 ?_
 refine oS (XS.ior X5.here hx rfl (hb y d31_57) rfl) ?_
 refine oS (XS.i2c X5.here hx rfl (hb y d31_58) rfl) ?_
 show own_Wp p e u _ T5 (mkF m 59 #[rv v0_, iv 1] [.int (((((oLo v1_) &&& (255 : Int32)) <<< ((0 : Int32) &&& 31)) ||| (((oHi v1_) &&& (255 : Int32)) <<< ((8 : Int32) &&& 31))).toUInt32.toUInt16.toUInt32.toInt32)])
 rw [(own_b16 U2 U3 : (((((oLo v1_) &&& (255 : Int32)) <<< ((0 : Int32) &&& 31)) ||| (((oHi v1_) &&& (255 : Int32)) <<< ((8 : Int32) &&& 31))).toUInt32.toUInt16.toUInt32.toInt32) = v1_)]
 exact own_retN X5 hx (t := .char) hr (by simp) hl (hb y d31_59) (by decide) (by decide) (by rw [U1, e5]; exact ⟨rfl, (Fr.nil n0), rfl⟩)


theorem rm31_95 (v0_ : Addr) (v1_ v2_ v3_ : Int32) (v4_ : ClassId) (U0 : Arv Z h0 v0_ v4_ .byte 6 [(.int (oLo v1_)), (.int (oHi v1_)), (.int (oLo v2_)), (.int (oHi v2_)), (.int (oLo v3_)), (.int (oHi v3_))] (.int 0)) (U1 : nar .char v2_ = v2_) (U2 : ¬ (v2_ < (0 : Int32))) (U3 : ¬ ((65535 : Int32) < v2_)) :
  oM hw hS O0 l y31 cd31 (oR 0 0 0 0) #[.ref v0_, .int 1] (fun v h L => (v = some (.int v2_) ∧ Fr n0 L ∧ h = h0)) := by
 refine own_met (own := "java/lang/StringUTF16") (plainFor_of_name pn14) rfl ?_
 intro p e s m u mt c s₁ hx y hml ho hq hr hl hZ e0 X0
 refine own_cast (g' := (mkF m 0 #[rv v0_, iv 1] [])) rfl ?_
 obtain ⟨T1, X1, e1, st1⟩ := getS2 X0 hx hZ ho (host := "") (Or.inl (oW hw 133 rfl)) Via.refl e0 ((si0 hw hS).ext O0.2) (g := (mkF m 0 #[rv v0_, iv 1] [])) rfl (hb y d31_0)
 refine own_step st1 ?_
 refine sS X1 hx y d31_3 (by decide) 28 (by decide) ?_
 refine sI X1 hx y d31_28 rfl ?_
 refine sC X1 hx y d31_29 ?_
 refine sL X1 hx y d31_30 ?_
 refine oV (b := 2) (by decide) ?_
 refine sN X1 hx y d31_31 #[rv v0_, iv 2] rfl ?_
 refine sA X1 hx y d31_32 rfl rfl ?_
 refine sI X1 hx y d31_33 rfl ?_
 refine sY X1 hx y d31_34 #[rv v0_, iv ((2 : Int32) + (1 : Int32))] rfl rfl ?_
 rw [(by decide : ((2 : Int32) + (1 : Int32)) = (3 : Int32))]
 obtain ⟨c2, r2, q2, t2, u2, y2h, y2g⟩ := id U0
 have i2 : ¬ ((2 : Int32) < 0 ∨ c2.slots.size ≤ ((2 : Int32)).toNatClampNeg) := inb_of t2 ⟨by decide, by decide⟩
 refine own_step (fun _ k => X1.baloadBytes hx (j := (2 : Int32)) (v := (.int (oLo v2_))) (by rw [e1]; exact r2.1) (State.isArrayOf_alike hZ.alike r2.2.1) r2.2.2 i2 (own_get t2 y2h i2 2 rfl) (g := (mkF m 37 #[rv v0_, iv 3] [.int 2, .ref v0_])) rfl rfl (hb y d31_37) _ k) ?_
 refine oS (XS.sipush X1.here hx rfl (hb y d31_38)) ?_
 refine oS (XS.iand X1.here hx rfl (hb y d31_41) rfl) ?_
 obtain ⟨T3, X3, e3, st3⟩ := getS2 X1 hx hZ ho (host := "") (Or.inl (oW hw 134 rfl)) Via.refl e1 ((si1 hw hS).ext O0.2) (g := (mkF m 42 #[rv v0_, iv 3] [.int ((oLo v2_) &&& (255 : Int32))])) rfl (hb y d31_42)
 refine own_step st3 ?_
 refine sL X3 hx y d31_45 ?_
 refine sA X3 hx y d31_46 rfl rfl ?_
 refine sI X3 hx y d31_47 rfl ?_
 obtain ⟨c4, r4, q4, t4, u4, y4h, y4g⟩ := id U0
 have i4 : ¬ ((3 : Int32) < 0 ∨ c4.slots.size ≤ ((3 : Int32)).toNatClampNeg) := inb_of t4 ⟨by decide, by decide⟩
 refine own_step (fun _ k => X3.baloadBytes hx (j := (3 : Int32)) (v := (.int (oHi v2_))) (by rw [e3]; exact r4.1) (State.isArrayOf_alike hZ.alike r4.2.1) r4.2.2 i4 (own_get t4 y4h i4 3 rfl) (g := (mkF m 48 #[rv v0_, iv 3] [.int 3, .ref v0_, .int (((oLo v2_) &&& (255 : Int32)) <<< ((0 : Int32) &&& 31))])) rfl rfl (hb y d31_48) _ k) ?_
 refine oS (XS.sipush X3.here hx rfl (hb y d31_49)) ?_
 refine oS (XS.iand X3.here hx rfl (hb y d31_52) rfl) ?_
 obtain ⟨T5, X5, e5, st5⟩ := getS2 X3 hx hZ ho (host := "") (Or.inl (oW hw 135 rfl)) Via.refl e3 ((si2 hw hS).ext O0.2) (g := (mkF m 53 #[rv v0_, iv 3] [.int ((oHi v2_) &&& (255 : Int32)), .int (((oLo v2_) &&& (255 : Int32)) <<< ((0 : Int32) &&& 31))])) rfl (hb y d31_53)
 refine own_step st5 ?_
 refine sL X5 hx y d31_56 ?_
 refine oS (XS.ior X5.here hx rfl (hb y d31_57) rfl) ?_
 refine oS (XS.i2c X5.here hx rfl (hb y d31_58) rfl) ?_
 show own_Wp p e u _ T5 (mkF m 59 #[rv v0_, iv 3] [.int (((((oLo v2_) &&& (255 : Int32)) <<< ((0 : Int32) &&& 31)) ||| (((oHi v2_) &&& (255 : Int32)) <<< ((8 : Int32) &&& 31))).toUInt32.toUInt16.toUInt32.toInt32)])
 rw [(own_b16 U2 U3 : (((((oLo v2_) &&& (255 : Int32)) <<< ((0 : Int32) &&& 31)) ||| (((oHi v2_) &&& (255 : Int32)) <<< ((8 : Int32) &&& 31))).toUInt32.toUInt16.toUInt32.toInt32) = v2_)]
 exact own_retN X5 hx (t := .char) hr (by simp) hl (hb y d31_59) (by decide) (by decide) (by rw [U1, e5]; exact ⟨rfl, (Fr.nil n0), rfl⟩)


theorem rm31_96 (v0_ : Addr) (v1_ v2_ v3_ : Int32) (v4_ : ClassId) (U0 : Arv Z h0 v0_ v4_ .byte 6 [(.int (oLo v1_)), (.int (oHi v1_)), (.int (oLo v2_)), (.int (oHi v2_)), (.int (oLo v3_)), (.int (oHi v3_))] (.int 0)) (U1 : nar .char v3_ = v3_) (U2 : ¬ (v3_ < (0 : Int32))) (U3 : ¬ ((65535 : Int32) < v3_)) :
  oM hw hS O0 l y31 cd31 (oR 0 0 0 0) #[.ref v0_, .int 2] (fun v h L => (v = some (.int v3_) ∧ Fr n0 L ∧ h = h0)) := by
 refine own_met (own := "java/lang/StringUTF16") (plainFor_of_name pn14) rfl ?_
 intro p e s m u mt c s₁ hx y hml ho hq hr hl hZ e0 X0
 refine own_cast (g' := (mkF m 0 #[rv v0_, iv 2] [])) rfl ?_
 obtain ⟨T1, X1, e1, st1⟩ := getS2 X0 hx hZ ho (host := "") (Or.inl (oW hw 133 rfl)) Via.refl e0 ((si0 hw hS).ext O0.2) (g := (mkF m 0 #[rv v0_, iv 2] [])) rfl (hb y d31_0)
 refine own_step st1 ?_
 refine sS X1 hx y d31_3 (by decide) 28 (by decide) ?_
 refine sI X1 hx y d31_28 rfl ?_
 refine sC X1 hx y d31_29 ?_
 refine sL X1 hx y d31_30 ?_
 refine oV (b := 4) (by decide) ?_
 refine sN X1 hx y d31_31 #[rv v0_, iv 4] rfl ?_
 refine sA X1 hx y d31_32 rfl rfl ?_
 refine sI X1 hx y d31_33 rfl ?_
 refine sY X1 hx y d31_34 #[rv v0_, iv ((4 : Int32) + (1 : Int32))] rfl rfl ?_
 rw [(by decide : ((4 : Int32) + (1 : Int32)) = (5 : Int32))]
 obtain ⟨c2, r2, q2, t2, u2, y2h, y2g⟩ := id U0
 have i2 : ¬ ((4 : Int32) < 0 ∨ c2.slots.size ≤ ((4 : Int32)).toNatClampNeg) := inb_of t2 ⟨by decide, by decide⟩
 refine own_step (fun _ k => X1.baloadBytes hx (j := (4 : Int32)) (v := (.int (oLo v3_))) (by rw [e1]; exact r2.1) (State.isArrayOf_alike hZ.alike r2.2.1) r2.2.2 i2 (own_get t2 y2h i2 4 rfl) (g := (mkF m 37 #[rv v0_, iv 5] [.int 4, .ref v0_])) rfl rfl (hb y d31_37) _ k) ?_
 refine oS (XS.sipush X1.here hx rfl (hb y d31_38)) ?_
 refine oS (XS.iand X1.here hx rfl (hb y d31_41) rfl) ?_
 obtain ⟨T3, X3, e3, st3⟩ := getS2 X1 hx hZ ho (host := "") (Or.inl (oW hw 134 rfl)) Via.refl e1 ((si1 hw hS).ext O0.2) (g := (mkF m 42 #[rv v0_, iv 5] [.int ((oLo v3_) &&& (255 : Int32))])) rfl (hb y d31_42)
 refine own_step st3 ?_
 refine sL X3 hx y d31_45 ?_
 refine sA X3 hx y d31_46 rfl rfl ?_
 refine sI X3 hx y d31_47 rfl ?_
 obtain ⟨c4, r4, q4, t4, u4, y4h, y4g⟩ := id U0
 have i4 : ¬ ((5 : Int32) < 0 ∨ c4.slots.size ≤ ((5 : Int32)).toNatClampNeg) := inb_of t4 ⟨by decide, by decide⟩
 refine own_step (fun _ k => X3.baloadBytes hx (j := (5 : Int32)) (v := (.int (oHi v3_))) (by rw [e3]; exact r4.1) (State.isArrayOf_alike hZ.alike r4.2.1) r4.2.2 i4 (own_get t4 y4h i4 5 rfl) (g := (mkF m 48 #[rv v0_, iv 5] [.int 5, .ref v0_, .int (((oLo v3_) &&& (255 : Int32)) <<< ((0 : Int32) &&& 31))])) rfl rfl (hb y d31_48) _ k) ?_
 refine oS (XS.sipush X3.here hx rfl (hb y d31_49)) ?_
 refine oS (XS.iand X3.here hx rfl (hb y d31_52) rfl) ?_
 obtain ⟨T5, X5, e5, st5⟩ := getS2 X3 hx hZ ho (host := "") (Or.inl (oW hw 135 rfl)) Via.refl e3 ((si2 hw hS).ext O0.2) (g := (mkF m 53 #[rv v0_, iv 5] [.int ((oHi v3_) &&& (255 : Int32)), .int (((oLo v3_) &&& (255 : Int32)) <<< ((0 : Int32) &&& 31))])) rfl (hb y d31_53)
 refine own_step st5 ?_
 refine sL X5 hx y d31_56 ?_
 refine oS (XS.ior X5.here hx rfl (hb y d31_57) rfl) ?_
 refine oS (XS.i2c X5.here hx rfl (hb y d31_58) rfl) ?_
 show own_Wp p e u _ T5 (mkF m 59 #[rv v0_, iv 5] [.int (((((oLo v3_) &&& (255 : Int32)) <<< ((0 : Int32) &&& 31)) ||| (((oHi v3_) &&& (255 : Int32)) <<< ((8 : Int32) &&& 31))).toUInt32.toUInt16.toUInt32.toInt32)])
 rw [(own_b16 U2 U3 : (((((oLo v3_) &&& (255 : Int32)) <<< ((0 : Int32) &&& 31)) ||| (((oHi v3_) &&& (255 : Int32)) <<< ((8 : Int32) &&& 31))).toUInt32.toUInt16.toUInt32.toInt32) = v3_)]
 exact own_retN X5 hx (t := .char) hr (by simp) hl (hb y d31_59) (by decide) (by decide) (by rw [U1, e5]; exact ⟨rfl, (Fr.nil n0), rfl⟩)


theorem rm7_97 (v0_ : Addr) (v1_ v2_ v3_ : Int32) (v4_ : ClassId) (U0 : Arv Z h0 v0_ v4_ .char 3 [(.int v1_), (.int v2_), (.int v3_)] (.int 0)) (U1 : nar .char v1_ = v1_) (U2 : nar .char v2_ = v2_) (U3 : nar .char v3_ = v3_) (U4 : ¬ (v1_ < (0 : Int32))) (U5 : ¬ ((65535 : Int32) < v1_)) (U6 : ¬ (v2_ < (0 : Int32))) (U7 : ¬ ((65535 : Int32) < v2_)) (U8 : ¬ (v3_ < (0 : Int32))) (U9 : ¬ ((65535 : Int32) < v3_)) :
  oM hw hS O0 l y7 cd7 (oR 3 2 9 40) #[.ref v0_, .int 0, .int 3] (fun v h L => (∃ (b5 : Addr) (k6 : ClassId), v = some (.ref b5) ∧ Fr n0 L ∧ Keep h0 h [] ∧ h0.size ≤ b5 ∧ Arv Z h b5 k6 .byte 6 [(.int (oLo v1_)), (.int (oHi v1_)), (.int (oLo v2_)), (.int (oHi v2_)), (.int (oLo v3_)), (.int (oHi v3_))] (.int 0)) ∨ (∃ (b1 : Addr) (k1 : ClassId), ¬ ((255 : Int32) < v1_) ∧ ¬ ((255 : Int32) < v2_) ∧ ¬ ((255 : Int32) < v3_) ∧ v = some (.ref b1) ∧ Fr n0 L ∧ Keep h0 h [] ∧ h0.size ≤ b1 ∧ Arv Z h b1 k1 .byte 3 [(.int (oBy v1_)), (.int (oBy v2_)), (.int (oBy v3_))] (.int 0))) := by
 refine own_met (own := "java/lang/StringUTF16") (plainFor_of_name pn14) rfl ?_
 intro p e s m u mt c s₁ hx y hml ho hq hr hl hZ e0 X0
 refine own_cast (g' := (mkF m 0 #[rv v0_, iv 0, iv 3, .unset, .unset, .unset] [])) rfl ?_
 refine sI X0 hx y d7_0 rfl ?_
 obtain ⟨T1, h1, k1, X1, e1, E1, A1, st1⟩ := newP X0 hx hZ (oW hw 31 rfl) e0 (g := (mkF m 1 #[rv v0_, iv 0, iv 3, .unset, .unset, .unset] [.int 3])) rfl (hb y d7_1) rfl (by decide) (cap := 3) (by decide) (by decide) (by decide) (by decide)
 obtain ⟨b1, z1⟩ : ∃ z, z = h0.size := ⟨_, rfl⟩
 rw [← z1] at A1 st1
 refine own_step st1 ?_
 have g1 : n0 ≤ b1 := Nat.le_trans (O0.1 ▸ O0.2.1) (Nat.le_of_eq z1.symm)
 have ne1_0 : v0_ ≠ b1 := Nat.ne_of_lt (Nat.lt_of_lt_of_le U0.lt (Nat.le_of_eq z1.symm))
 have y1 : h0.size ≤ b1 := Nat.le_trans (Nat.le_refl _) (Nat.le_of_eq z1.symm)
 have O1 := O0.ext E1
 have K1 := (Keep.refl h0 []).ext E1
 have V1 : Arv Z h1 b1 k1 .byte 3 [(.int 0), (.int 0), (.int 0)] (.int 0) := (Arv.new A1 (by decide)).pad (pad_rep [] (.int 0) 3)
 refine sP X1 hx y d7_3 rfl #[rv v0_, iv 0, iv 3, rv b1, .unset, .unset] rfl ?_
 refine sA X1 hx y d7_4 rfl rfl ?_
 refine sI X1 hx y d7_5 rfl ?_
 refine sA X1 hx y d7_6 rfl rfl ?_
 refine sC X1 hx y d7_7 ?_
 refine sI X1 hx y d7_8 rfl ?_
 have f2 := (U0.ext E1)
 refine oCS X1 hx hZ ho (oW hw 32 rfl) (bu15 hw) (rm8_87 hw hS O1 v0_ b1 v1_ v2_ v3_ v4_ k1 f2 V1 g1 ne1_0) 0 (by decide) [.ref v0_, .int 0, .ref b1, .int 0, .int 3] rfl (lenOf pd16 rfl) hml rfl rfl rfl y d7_9 e1 ?_
 rintro _ T3 _ X3 (⟨hq3a_0, rfl, N3aq, e3a⟩ | ⟨hq3b_0, hq3b_1, rfl, N3bq, K3bq, F3b_0⟩ | ⟨hq3c_0, hq3c_1, hq3c_2, rfl, N3cq, K3cq, F3c_0⟩ | ⟨hq3d_0, hq3d_1, hq3d_2, rfl, N3dq, K3dq, F3d_0⟩)
 ·
  have N3a := Fr.app (Fr.nil n0) N3aq
  refine sO X3 hx y d7_12 #[rv v0_, iv 0, iv 3, rv b1, iv 0, .unset] rfl ?_
  refine sJ X3 hx y d7_14 rfl ?_
  refine sI X3 hx y d7_16 rfl ?_
  refine sV X3 hx y d7_17 (by decide) ?_
  refine sA X3 hx y d7_20 rfl rfl ?_
  refine sI X3 hx y d7_21 rfl ?_
  refine sI X3 hx y d7_22 rfl ?_
  refine oCS X3 hx hZ ho (oW hw 120 rfl) (bu31 hw) (rm27_93 hw hS O1 v0_ v1_ v2_ v3_ v4_ f2) 0 (by decide) [.ref v0_, .int 0, .int 3] rfl (lenOf pd32 rfl) hml rfl rfl rfl y d7_23 e3a ?_
  rintro _ T4 _ X4 ⟨b5, k6, rfl, N4q, K4q, y4_0, F4_0⟩
  have N4 := Fr.app N3a N4q
  have u4_0 : h0.size ≤ b5 := Nat.le_trans (K1.1) y4_0
  have O4 := O1.keep K4q all0
  have K4 := Keep.trans K1 K4q all0
  refine sQ X4 hx y d7_26 rfl #[rv v0_, iv 0, iv 3, rv b1, iv 0, rv b5] rfl ?_
  refine sB X4 hx y d7_28 rfl rfl ?_
  refine sJ X4 hx y d7_30 rfl ?_
  refine oCS X4 hx hZ ho (oW hw 136 rfl) (bu35 hw) (rm31_94 hw hS O4 b5 v1_ v2_ v3_ k6 F4_0 U1 U4 U5) 0 (by decide) [.ref b5, .int 0] rfl (lenOf pd36 rfl) hml rfl rfl rfl y d7_32 rfl ?_
  rintro _ T7 _ X7 ⟨rfl, N7q, e7⟩
  have N7 := Fr.app N4 N7q
  refine oS (XS.sipush X7.here hx rfl (hb y d7_35)) ?_
  refine sU X7 hx y d7_38 (tlt hq3a_0).2.2.1 54 (by decide) ?_
  refine sB X7 hx y d7_54 rfl rfl ?_
  exact own_retA X7 hx hr rfl rfl hl (hb y d7_56) (by decide) (by decide) (by rw [e7]; exact Or.inl ⟨b5, k6, rfl, N7, K4, u4_0, F4_0⟩)
 ·
  have N3b := Fr.app (Fr.nil n0) N3bq
  have O3b := O1.keep K3bq (allS g1 all0)
  have K3b := Keep.trans K1 K3bq (allS (Or.inr y1) all0)
  refine sO X3 hx y d7_12 #[rv v0_, iv 0, iv 3, rv b1, iv 1, .unset] rfl ?_
  refine sJ X3 hx y d7_14 rfl ?_
  refine sI X3 hx y d7_16 rfl ?_
  refine sV X3 hx y d7_17 (by decide) ?_
  refine sA X3 hx y d7_20 rfl rfl ?_
  refine sI X3 hx y d7_21 rfl ?_
  refine sI X3 hx y d7_22 rfl ?_
  have f8 := (f2.keep K3bq (ninS ne1_0 nin0))
  refine oCS X3 hx hZ ho (oW hw 120 rfl) (bu31 hw) (rm27_93 hw hS O3b v0_ v1_ v2_ v3_ v4_ f8) 0 (by decide) [.ref v0_, .int 0, .int 3] rfl (lenOf pd32 rfl) hml rfl rfl rfl y d7_23 rfl ?_
  rintro _ T9 _ X9 ⟨b10, k11, rfl, N9q, K9q, y9_0, F9_0⟩
  have N9 := Fr.app N3b N9q
  have u9_0 : h0.size ≤ b10 := Nat.le_trans (K3b.1) y9_0
  have O9 := O3b.keep K9q all0
  have K9 := Keep.trans K3b K9q all0
  refine sQ X9 hx y d7_26 rfl #[rv v0_, iv 0, iv 3, rv b1, iv 1, rv b10] rfl ?_
  refine sB X9 hx y d7_28 rfl rfl ?_
  refine sJ X9 hx y d7_30 rfl ?_
  refine oCS X9 hx hZ ho (oW hw 136 rfl) (bu35 hw) (rm31_95 hw hS O9 b10 v1_ v2_ v3_ k11 F9_0 U2 U6 U7) 0 (by decide) [.ref b10, .int 1] rfl (lenOf pd36 rfl) hml rfl rfl rfl y d7_32 rfl ?_
  rintro _ T12 _ X12 ⟨rfl, N12q, e12⟩
  have N12 := Fr.app N9 N12q
  refine oS (XS.sipush X12.here hx rfl (hb y d7_35)) ?_
  refine sU X12 hx y d7_38 (tlt hq3b_1).2.2.1 54 (by decide) ?_
  refine sB X12 hx y d7_54 rfl rfl ?_
  exact own_retA X12 hx hr rfl rfl hl (hb y d7_56) (by decide) (by decide) (by rw [e12]; exact Or.inl ⟨b10, k11, rfl, N12, K9, u9_0, F9_0⟩)
 ·
  have N3c := Fr.app (Fr.nil n0) N3cq
  have O3c := O1.keep K3cq (allS g1 all0)
  have K3c := Keep.trans K1 K3cq (allS (Or.inr y1) all0)
  refine sO X3 hx y d7_12 #[rv v0_, iv 0, iv 3, rv b1, iv 2, .unset] rfl ?_
  refine sJ X3 hx y d7_14 rfl ?_
  refine sI X3 hx y d7_16 rfl ?_
  refine sV X3 hx y d7_17 (by decide) ?_
  refine sA X3 hx y d7_20 rfl rfl ?_
  refine sI X3 hx y d7_21 rfl ?_
  refine sI X3 hx y d7_22 rfl ?_
  have f13 := (f2.keep K3cq (ninS ne1_0 nin0))
  refine oCS X3 hx hZ ho (oW hw 120 rfl) (bu31 hw) (rm27_93 hw hS O3c v0_ v1_ v2_ v3_ v4_ f13) 0 (by decide) [.ref v0_, .int 0, .int 3] rfl (lenOf pd32 rfl) hml rfl rfl rfl y d7_23 rfl ?_
  rintro _ T14 _ X14 ⟨b15, k16, rfl, N14q, K14q, y14_0, F14_0⟩
  have N14 := Fr.app N3c N14q
  have u14_0 : h0.size ≤ b15 := Nat.le_trans (K3c.1) y14_0
  have O14 := O3c.keep K14q all0
  have K14 := Keep.trans K3c K14q all0
  refine sQ X14 hx y d7_26 rfl #[rv v0_, iv 0, iv 3, rv b1, iv 2, rv b15] rfl ?_
  refine sB X14 hx y d7_28 rfl rfl ?_
  refine sJ X14 hx y d7_30 rfl ?_
  refine oCS X14 hx hZ ho (oW hw 136 rfl) (bu35 hw) (rm31_96 hw hS O14 b15 v1_ v2_ v3_ k16 F14_0 U3 U8 U9) 0 (by decide) [.ref b15, .int 2] rfl (lenOf pd36 rfl) hml rfl rfl rfl y d7_32 rfl ?_
  rintro _ T17 _ X17 ⟨rfl, N17q, e17⟩
  have N17 := Fr.app N14 N17q
  refine oS (XS.sipush X17.here hx rfl (hb y d7_35)) ?_
  refine sU X17 hx y d7_38 (tlt hq3c_2).2.2.1 54 (by decide) ?_
  refine sB X17 hx y d7_54 rfl rfl ?_
  exact own_retA X17 hx hr rfl rfl hl (hb y d7_56) (by decide) (by decide) (by rw [e17]; exact Or.inl ⟨b15, k16, rfl, N17, K14, u14_0, F14_0⟩)
 ·
  have N3d := Fr.app (Fr.nil n0) N3dq
  have K3d := Keep.trans K1 K3dq (allS (Or.inr y1) all0)
  refine sO X3 hx y d7_12 #[rv v0_, iv 0, iv 3, rv b1, iv 3, .unset] rfl ?_
  refine sJ X3 hx y d7_14 rfl ?_
  refine sI X3 hx y d7_16 rfl ?_
  refine sU X3 hx y d7_17 (by decide) 57 (by decide) ?_
  refine sA X3 hx y d7_57 rfl rfl ?_
  exact own_retA X3 hx hr rfl rfl hl (hb y d7_58) (by decide) (by decide) (Or.inr (⟨b1, k1, hq3d_0, hq3d_1, hq3d_2, rfl, N3d, K3d, y1, F3d_0⟩))


theorem rm9_98 (v0_ : Addr) (v1_ v2_ v3_ : Int32) (v4_ : ClassId) (U0 : Arv Z h0 v0_ v4_ .byte 6 [(.int (oLo v1_)), (.int (oHi v1_)), (.int (oLo v2_)), (.int (oHi v2_)), (.int (oLo v3_)), (.int (oHi v3_))] (.int 0)) :
  oM hw hS O0 l y9 cd9 (oR 0 0 0 0) #[.ref v0_, .int 3] (fun v h L => (v = some (.int 1) ∧ Fr n0 L ∧ h = h0)) := by
 refine own_met (own := "java/lang/StringUTF16") (plainFor_of_name pn14) rfl ?_
 intro p e s m u mt c s₁ hx y hml ho hq hr hl hZ e0 X0
 refine own_cast (g' := (mkF m 0 #[rv v0_, iv 3] [])) rfl ?_
 refine sI X0 hx y d9_0 rfl ?_
 refine sA X0 hx y d9_1 rfl rfl ?_
 refine sa X0 hx hZ e0 U0 y d9_2 ?_
 refine sK X0 hx y d9_3 ?_
 refine oV (b := (-3)) (by decide) ?_
 refine sD X0 hx y d9_4 ?_
 refine oS (XS.iushr X0.here hx rfl (hb y d9_6) rfl) ?_
 refine oV (b := 1) (by decide) ?_
 refine oS (XS.i2b X0.here hx rfl (hb y d9_7) rfl) ?_
 refine oV (b := 1) (by decide) ?_
 exact own_retN X0 hx (t := .byte) hr (by simp) hl (hb y d9_8) (by decide) (by decide) (by rw [e0]; exact ⟨rfl, (Fr.nil n0), rfl⟩)


theorem rm9_99 (v0_ : Addr) (v1_ v2_ v3_ : Int32) (v4_ : ClassId) (U0 : Arv Z h0 v0_ v4_ .byte 3 [(.int (oBy v1_)), (.int (oBy v2_)), (.int (oBy v3_))] (.int 0)) :
  oM hw hS O0 l y9 cd9 (oR 0 0 0 0) #[.ref v0_, .int 3] (fun v h L => (v = some (.int 0) ∧ Fr n0 L ∧ h = h0)) := by
 refine own_met (own := "java/lang/StringUTF16") (plainFor_of_name pn14) rfl ?_
 intro p e s m u mt c s₁ hx y hml ho hq hr hl hZ e0 X0
 refine own_cast (g' := (mkF m 0 #[rv v0_, iv 3] [])) rfl ?_
 refine sI X0 hx y d9_0 rfl ?_
 refine sA X0 hx y d9_1 rfl rfl ?_
 refine sa X0 hx hZ e0 U0 y d9_2 ?_
 refine sK X0 hx y d9_3 ?_
 refine oV (b := 0) (by decide) ?_
 refine sD X0 hx y d9_4 ?_
 refine oS (XS.iushr X0.here hx rfl (hb y d9_6) rfl) ?_
 refine oV (b := 0) (by decide) ?_
 refine oS (XS.i2b X0.here hx rfl (hb y d9_7) rfl) ?_
 refine oV (b := 0) (by decide) ?_
 exact own_retN X0 hx (t := .byte) hr (by simp) hl (hb y d9_8) (by decide) (by decide) (by rw [e0]; exact ⟨rfl, (Fr.nil n0), rfl⟩)


theorem rm5_100 (v0_ v1_ : Addr) (v2_ v3_ v4_ : Int32) (v5_ : ClassId) (U0 : Ga Z h0 v0_) (U1 : Fa Z h0 v0_ (.int 0)) (U2 : Fb Z h0 v0_ .null) (U3 : Arv Z h0 v1_ v5_ .char 3 [(.int v2_), (.int v3_), (.int v4_)] (.int 0)) (U4 : n0 ≤ v0_) (U5 : nar .char v2_ = v2_) (U6 : nar .char v3_ = v3_) (U7 : nar .char v4_ = v4_) (U8 : ¬ (v2_ < (0 : Int32))) (U9 : ¬ ((65535 : Int32) < v2_)) (U10 : ¬ (v3_ < (0 : Int32))) (U11 : ¬ ((65535 : Int32) < v3_)) (U12 : ¬ (v4_ < (0 : Int32))) (U13 : ¬ ((65535 : Int32) < v4_)) :
  oM hw hS O0 l y5 cd5 (oR 4 2 9 57) #[.ref v0_, .ref v1_, .int 0, .int 3, .null] (fun v h L => (∃ (b4 : Addr) (k5 : ClassId), v = none ∧ Fr n0 L ∧ Keep h0 h [v0_] ∧ h0.size ≤ b4 ∧ v0_ ≠ b4 ∧ Ga Z h v0_ ∧ Fa Z h v0_ (.int 1) ∧ Fb Z h v0_ (.ref b4) ∧ Arv Z h b4 k5 .byte 6 [(.int (oLo v2_)), (.int (oHi v2_)), (.int (oLo v3_)), (.int (oHi v3_)), (.int (oLo v4_)), (.int (oHi v4_))] (.int 0)) ∨ (∃ (b6 : Addr) (k7 : ClassId), ¬ ((255 : Int32) < v2_) ∧ ¬ ((255 : Int32) < v3_) ∧ ¬ ((255 : Int32) < v4_) ∧ v = none ∧ Fr n0 L ∧ Keep h0 h [v0_] ∧ h0.size ≤ b6 ∧ v0_ ≠ b6 ∧ Ga Z h v0_ ∧ Fa Z h v0_ (.int 0) ∧ Fb Z h v0_ (.ref b6) ∧ Arv Z h b6 k7 .byte 3 [(.int (oBy v2_)), (.int (oBy v3_)), (.int (oBy v4_))] (.int 0))) := by
 refine own_met (own := "java/lang/String") (plainFor_of_name pn46) rfl ?_
 intro p e s m u mt c s₁ hx y hml ho hq hr hl hZ e0 X0
 refine own_cast (g' := (mkF m 0 #[rv v0_, rv v1_, iv 0, iv 3, .val .null, .unset] [])) rfl ?_
 refine sA X0 hx y d5_0 rfl rfl ?_
 obtain ⟨T1, X1, e1, st1⟩ := initO X0 hx hZ ho (oW hw 23 rfl) (oW hw 24 rfl) (oW hw 25 rfl) e0 (g := (mkF m 1 #[rv v0_, rv v1_, iv 0, iv 3, .val .null, .unset] [.ref v0_])) rfl (by rw [hml]; rfl) rfl (hb y d5_1) (by decide) (W := 0) (by show 2 * 0 + _ ≤ _; exact Nat.le_of_eq rfl) (by decide)
 refine own_step st1 ?_
 refine sI X1 hx y d5_4 rfl ?_
 refine sS X1 hx y d5_5 (by decide) 27 (by decide) ?_
 obtain ⟨T2, X2, e2, st2⟩ := getS2 X1 hx hZ ho (host := "") (Or.inl (oW hw 26 rfl)) Via.refl e1 ((st_w3i_COMPACT_STRINGS hw hS).ext O0.2) (g := (mkF m 27 #[rv v0_, rv v1_, iv 0, iv 3, .val .null, .unset] [])) rfl (hb y d5_27)
 refine own_step st2 ?_
 refine sT X2 hx y d5_30 ((if0 _ _).trans (feq (ne_w3i_COMPACT_STRINGS hw hS)).1) ?_
 refine sA X2 hx y d5_33 rfl rfl ?_
 refine sI X2 hx y d5_34 rfl ?_
 refine sI X2 hx y d5_35 rfl ?_
 refine oCS X2 hx hZ ho (oW hw 27 rfl) (bu38 hw) (rm7_97 hw hS O0 v1_ v2_ v3_ v4_ v5_ U3 U5 U6 U7 U8 U9 U10 U11 U12 U13) 0 (by decide) [.ref v1_, .int 0, .int 3] rfl (lenOf pd32 rfl) hml rfl rfl rfl y d5_36 e2 ?_
 rintro _ T3 _ X3 (⟨b4, k5, rfl, N3aq, K3aq, y3a_0, F3a_0⟩ | ⟨b6, k7, hq3b_0, hq3b_1, hq3b_2, rfl, N3bq, K3bq, y3b_0, F3b_0⟩)
 ·
  have N3a := Fr.app (Fr.nil n0) N3aq
  have ne3a_0_0 : v0_ ≠ b4 := Nat.ne_of_lt (Nat.lt_of_lt_of_le U0.lt y3a_0)
  have u3a_0 : h0.size ≤ b4 := Nat.le_trans (Nat.le_refl _) y3a_0
  have O3a := O0.keep K3aq all0
  have K3a := Keep.trans (Keep.refl h0 [v0_]) K3aq all0
  refine sQ X3 hx y d5_39 rfl #[rv v0_, rv v1_, iv 0, iv 3, .val .null, rv b4] rfl ?_
  refine sA X3 hx y d5_41 rfl rfl ?_
  refine sB X3 hx y d5_42 rfl rfl ?_
  refine sI X3 hx y d5_44 rfl ?_
  refine oCS X3 hx hZ ho (oW hw 35 rfl) (bu41 hw) (rm9_98 hw hS O3a b4 v2_ v3_ v4_ k5 F3a_0) 1 (by decide) [.ref b4, .int 3] rfl (lenOf pd42 rfl) hml rfl rfl rfl y d5_45 rfl ?_
  rintro _ T8 _ X8 ⟨rfl, N8q, e8⟩
  have N8 := Fr.app N3a N8q
  have f9 := (U1.keep K3aq nin0)
  have f10 := (U0.keep K3aq)
  obtain ⟨T11, h11, X11, e11, W11, st11⟩ := putFN X8 hx hZ ho (oW hw 38 rfl) Via.refl e8 f9 f10 (Or.inr ⟨(oW hw 39 rfl), rfl, hq⟩) (oW hw 13 rfl) (ty := .byte) (v' := (.int 1)) (by decide) rfl (by decide) (g := (mkF m 48 #[rv v0_, rv v1_, iv 0, iv 3, .val .null, rv b4] [.int 1, .ref v0_])) rfl rfl (hb y d5_48)
  refine own_step st11 ?_
  have N11 := Fr.snoc X11 N8 U4
  have K11 := K3a.wr W11 (Or.inl (by simp))
  have Fw11 := f9.same W11
  refine sA X11 hx y d5_51 rfl rfl ?_
  refine sB X11 hx y d5_52 rfl rfl ?_
  have f12 := ((U2.keep K3aq nin0).other W11 (Or.inr (sn43 hw)))
  have f13 := (f10.wr W11)
  refine sp X11 hx hZ ho (oW hw 40 rfl) e11 f12 f13 (Or.inr ⟨(oW hw 41 rfl), rfl, hq⟩) (oW hw 13 rfl) (ty := (.array .byte)) (by decide) rfl rfl y d5_54 fun T14 h14 X14 e14 W14 => ?_
  have N14 := Fr.snoc X14 N11 U4
  have K14 := K11.wr W14 (Or.inl (by simp))
  have Fw14 := f12.same W14
  have f15 := (f13.wr W14)
  have f16 := (Fw11.other W14 (Or.inr (sn44 hw)))
  have f17 := ((F3a_0.other W11 (Ne.symm ne3a_0_0)).other W14 (Ne.symm ne3a_0_0))
  exact own_retV X14 hx hr hl (hb y d5_57) (by decide) (by decide) (by rw [e14]; exact Or.inl ⟨b4, k5, rfl, N14, K14, u3a_0, ne3a_0_0, f15, f16, Fw14, f17⟩)
 ·
  have N3b := Fr.app (Fr.nil n0) N3bq
  have ne3b_0_0 : v0_ ≠ b6 := Nat.ne_of_lt (Nat.lt_of_lt_of_le U0.lt y3b_0)
  have u3b_0 : h0.size ≤ b6 := Nat.le_trans (Nat.le_refl _) y3b_0
  have O3b := O0.keep K3bq all0
  have K3b := Keep.trans (Keep.refl h0 [v0_]) K3bq all0
  refine sQ X3 hx y d5_39 rfl #[rv v0_, rv v1_, iv 0, iv 3, .val .null, rv b6] rfl ?_
  refine sA X3 hx y d5_41 rfl rfl ?_
  refine sB X3 hx y d5_42 rfl rfl ?_
  refine sI X3 hx y d5_44 rfl ?_
  refine oCS X3 hx hZ ho (oW hw 35 rfl) (bu41 hw) (rm9_99 hw hS O3b b6 v2_ v3_ v4_ k7 F3b_0) 1 (by decide) [.ref b6, .int 3] rfl (lenOf pd42 rfl) hml rfl rfl rfl y d5_45 rfl ?_
  rintro _ T18 _ X18 ⟨rfl, N18q, e18⟩
  have N18 := Fr.app N3b N18q
  have f19 := (U1.keep K3bq nin0)
  have f20 := (U0.keep K3bq)
  obtain ⟨T21, h21, X21, e21, W21, st21⟩ := putFN X18 hx hZ ho (oW hw 38 rfl) Via.refl e18 f19 f20 (Or.inr ⟨(oW hw 39 rfl), rfl, hq⟩) (oW hw 13 rfl) (ty := .byte) (v' := (.int 0)) (by decide) rfl (by decide) (g := (mkF m 48 #[rv v0_, rv v1_, iv 0, iv 3, .val .null, rv b6] [.int 0, .ref v0_])) rfl rfl (hb y d5_48)
  refine own_step st21 ?_
  have N21 := Fr.snoc X21 N18 U4
  have K21 := K3b.wr W21 (Or.inl (by simp))
  have Fw21 := f19.same W21
  refine sA X21 hx y d5_51 rfl rfl ?_
  refine sB X21 hx y d5_52 rfl rfl ?_
  have f22 := ((U2.keep K3bq nin0).other W21 (Or.inr (sn43 hw)))
  have f23 := (f20.wr W21)
  refine sp X21 hx hZ ho (oW hw 40 rfl) e21 f22 f23 (Or.inr ⟨(oW hw 41 rfl), rfl, hq⟩) (oW hw 13 rfl) (ty := (.array .byte)) (by decide) rfl rfl y d5_54 fun T24 h24 X24 e24 W24 => ?_
  have N24 := Fr.snoc X24 N21 U4
  have K24 := K21.wr W24 (Or.inl (by simp))
  have Fw24 := f22.same W24
  have f25 := (f23.wr W24)
  have f26 := (Fw21.other W24 (Or.inr (sn44 hw)))
  have f27 := ((F3b_0.other W21 (Ne.symm ne3b_0_0)).other W24 (Ne.symm ne3b_0_0))
  exact own_retV X24 hx hr hl (hb y d5_57) (by decide) (by decide) (by rw [e24]; exact Or.inr (⟨b6, k7, hq3b_0, hq3b_1, hq3b_2, rfl, N24, K24, u3b_0, ne3b_0_0, f25, f26, Fw24, f27⟩))


theorem rm4_101 (v0_ v1_ : Addr) (v2_ v3_ v4_ : Int32) (v5_ : ClassId) (U0 : Ga Z h0 v0_) (U1 : Fa Z h0 v0_ (.int 0)) (U2 : Fb Z h0 v0_ .null) (U3 : Arv Z h0 v1_ v5_ .char 3 [(.int v2_), (.int v3_), (.int v4_)] (.int 0)) (U4 : n0 ≤ v0_) (U5 : nar .char v2_ = v2_) (U6 : nar .char v3_ = v3_) (U7 : nar .char v4_ = v4_) (U8 : ¬ (v2_ < (0 : Int32))) (U9 : ¬ ((65535 : Int32) < v2_)) (U10 : ¬ (v3_ < (0 : Int32))) (U11 : ¬ ((65535 : Int32) < v3_)) (U12 : ¬ (v4_ < (0 : Int32))) (U13 : ¬ ((65535 : Int32) < v4_)) :
  oM hw hS O0 l y4 cd4 (oR 5 2 9 74) #[.ref v0_, .ref v1_] (fun v h L => (∃ (b3 : Addr) (k4 : ClassId), v = none ∧ Fr n0 L ∧ Keep h0 h [v0_] ∧ h0.size ≤ b3 ∧ v0_ ≠ b3 ∧ Ga Z h v0_ ∧ Fa Z h v0_ (.int 1) ∧ Fb Z h v0_ (.ref b3) ∧ Arv Z h b3 k4 .byte 6 [(.int (oLo v2_)), (.int (oHi v2_)), (.int (oLo v3_)), (.int (oHi v3_)), (.int (oLo v4_)), (.int (oHi v4_))] (.int 0)) ∨ (∃ (b5 : Addr) (k6 : ClassId), ¬ ((255 : Int32) < v2_) ∧ ¬ ((255 : Int32) < v3_) ∧ ¬ ((255 : Int32) < v4_) ∧ v = none ∧ Fr n0 L ∧ Keep h0 h [v0_] ∧ h0.size ≤ b5 ∧ v0_ ≠ b5 ∧ Ga Z h v0_ ∧ Fa Z h v0_ (.int 0) ∧ Fb Z h v0_ (.ref b5) ∧ Arv Z h b5 k6 .byte 3 [(.int (oBy v2_)), (.int (oBy v3_)), (.int (oBy v4_))] (.int 0))) := by
 refine own_met (own := "java/lang/String") (plainFor_of_name pn46) rfl ?_
 intro p e s m u mt c s₁ hx y hml ho hq hr hl hZ e0 X0
 refine own_cast (g' := (mkF m 0 #[rv v0_, rv v1_] [])) rfl ?_
 refine sA X0 hx y d4_0 rfl rfl ?_
 refine sA X0 hx y d4_1 rfl rfl ?_
 refine sC X0 hx y d4_2 ?_
 refine sA X0 hx y d4_3 rfl rfl ?_
 refine sa X0 hx hZ e0 U3 y d4_4 ?_
 refine oS (XS.aconstNull X0.here hx rfl (hb y d4_5)) ?_
 refine oCN X0 hx hZ ho (oW hw 19 rfl) (bu47 hw) (rm5_100 hw hS O0 v0_ v1_ v2_ v3_ v4_ v5_ U0 U1 U2 U3 U4 U5 U6 U7 U8 U9 U10 U11 U12 U13) 0 (by decide) [.ref v1_, .int 0, .int 3, .null] rfl (lenOf pd48 rfl) hml rfl rfl rfl y d4_6 e0 ?_
 rintro _ T2 _ X2 (⟨b3, k4, rfl, N2aq, K2aq, y2a_0, m2a_0, F2a_0, F2a_1, F2a_2, F2a_3⟩ | ⟨b5, k6, hq2b_0, hq2b_1, hq2b_2, rfl, N2bq, K2bq, y2b_0, m2b_0, F2b_0, F2b_1, F2b_2, F2b_3⟩)
 ·
  have N2a := Fr.app (Fr.nil n0) N2aq
  have u2a_0 : h0.size ≤ b3 := Nat.le_trans (Nat.le_refl _) y2a_0
  have K2a := Keep.trans (Keep.refl h0 [v0_]) K2aq (allS (Or.inl (by simp)) all0)
  exact own_retV X2 hx hr hl (hb y d4_9) (by decide) (by decide) (Or.inl ⟨b3, k4, rfl, N2a, K2a, u2a_0, m2a_0, F2a_0, F2a_1, F2a_2, F2a_3⟩)
 ·
  have N2b := Fr.app (Fr.nil n0) N2bq
  have u2b_0 : h0.size ≤ b5 := Nat.le_trans (Nat.le_refl _) y2b_0
  have K2b := Keep.trans (Keep.refl h0 [v0_]) K2bq (allS (Or.inl (by simp)) all0)
  exact own_retV X2 hx hr hl (hb y d4_9) (by decide) (by decide) (Or.inr (⟨b5, k6, hq2b_0, hq2b_1, hq2b_2, rfl, N2b, K2b, u2b_0, m2b_0, F2b_0, F2b_1, F2b_2, F2b_3⟩))


theorem rm3_102 (v0_ v1_ v2_ v3_ : Int32) (U0 : nar .char v0_ = v0_) (U1 : nar .char v1_ = v1_) (U2 : nar .char v2_ = v2_) (U3 : ¬ (v0_ < (0 : Int32))) (U4 : ¬ ((65535 : Int32) < v0_)) (U5 : ¬ (v1_ < (0 : Int32))) (U6 : ¬ ((65535 : Int32) < v1_)) (U7 : ¬ (v2_ < (0 : Int32))) (U8 : ¬ ((65535 : Int32) < v2_)) :
  oM hw hS O0 l y3 cd3 (oR 6 4 16 88) #[.int 3, .int v0_, .int v1_, .int v2_, .int v3_] (fun v h L => (∃ (b1 : Addr) (b10 : Addr) (k11 : ClassId), v = some (.ref b1) ∧ Fr n0 L ∧ Keep h0 h [] ∧ h0.size ≤ b1 ∧ h0.size ≤ b10 ∧ b1 ≠ b10 ∧ Ga Z h b1 ∧ Fa Z h b1 (.int 1) ∧ Fb Z h b1 (.ref b10) ∧ Arv Z h b10 k11 .byte 6 [(.int (oLo v0_)), (.int (oHi v0_)), (.int (oLo v1_)), (.int (oHi v1_)), (.int (oLo v2_)), (.int (oHi v2_))] (.int 0)) ∨ (∃ (b1 : Addr) (b12 : Addr) (k13 : ClassId), ¬ ((255 : Int32) < v0_) ∧ ¬ ((255 : Int32) < v1_) ∧ ¬ ((255 : Int32) < v2_) ∧ v = some (.ref b1) ∧ Fr n0 L ∧ Keep h0 h [] ∧ h0.size ≤ b1 ∧ h0.size ≤ b12 ∧ b1 ≠ b12 ∧ Ga Z h b1 ∧ Fa Z h b1 (.int 0) ∧ Fb Z h b1 (.ref b12) ∧ Arv Z h b12 k13 .byte 3 [(.int (oBy v0_)), (.int (oBy v1_)), (.int (oBy v2_))] (.int 0))) := by
 refine own_met (own := "com/example/linepack/linepack/ValuesIdPinLaw") (plainFor_of_name pn2) rfl ?_
 intro p e s m u mt c s₁ hx y hml ho hq hr hl hZ e0 X0
 refine own_cast (g' := (mkF m 0 #[iv 3, iv v0_, iv v1_, iv v2_, iv v3_] [])) rfl ?_
 refine sI X0 hx y d3_0 rfl ?_
 refine sC X0 hx y d3_1 ?_
 refine sU X0 hx y d3_2 (by decide) 20 (by decide) ?_
 refine sI X0 hx y d3_20 rfl ?_
 refine sC X0 hx y d3_21 ?_
 refine sU X0 hx y d3_22 (by decide) 44 (by decide) ?_
 refine sI X0 hx y d3_44 rfl ?_
 refine sC X0 hx y d3_45 ?_
 refine sV X0 hx y d3_46 (by decide) ?_
 obtain ⟨T1, h1, X1, e1, E1, A1, D1, -, st1⟩ := newO X0 hx hZ ho (oW hw 12 rfl) (oW hw 13 rfl) (oW hw 14 rfl) e0 (g := (mkF m 49 #[iv 3, iv v0_, iv v1_, iv v2_, iv v3_] [])) rfl (hb y d3_49) (by decide) (by decide)
 obtain ⟨b1, z1⟩ : ∃ z, z = h0.size := ⟨_, rfl⟩
 rw [← z1] at A1 D1 st1
 refine own_step st1 ?_
 have g1 : n0 ≤ b1 := Nat.le_trans (O0.1 ▸ O0.2.1) (Nat.le_of_eq z1.symm)
 have y1 : h0.size ≤ b1 := Nat.le_trans (Nat.le_refl _) (Nat.le_of_eq z1.symm)
 have O1 := O0.ext E1
 have K1 := (Keep.refl h0 []).ext E1
 have F1_39 : Fa Z h1 b1 (.int 0) := D1 (Or.inr (oW hw 39 rfl)) (ty := .byte) (by decide)
 have F1_41 : Fb Z h1 b1 .null := D1 (Or.inr (oW hw 41 rfl)) (ty := (.array .byte)) (by decide)
 refine sF X1 hx y d3_52 rfl ?_
 refine sC X1 hx y d3_53 ?_
 obtain ⟨T2, h2, k2, X2, e2, E2, A2, st2⟩ := newP X1 hx hZ (oW hw 15 rfl) e1 (g := (mkF m 54 #[iv 3, iv v0_, iv v1_, iv v2_, iv v3_] [.int 3, .ref b1, .ref b1])) rfl (hb y d3_54) rfl (by decide) (cap := 3) (by decide) (by decide) (by decide) (by decide)
 obtain ⟨b2, z2⟩ : ∃ z, z = h1.size := ⟨_, rfl⟩
 rw [← z2] at A2 st2
 refine own_step st2 ?_
 have g2 : n0 ≤ b2 := Nat.le_trans (O1.1 ▸ O1.2.1) (Nat.le_of_eq z2.symm)
 have ne2_0 : b1 ≠ b2 := Nat.ne_of_lt (Nat.lt_of_lt_of_le A1.lt (Nat.le_of_eq z2.symm))
 have y2 : h0.size ≤ b2 := Nat.le_trans (K1.1) (Nat.le_of_eq z2.symm)
 have O2 := O1.ext E2
 have K2 := K1.ext E2
 have V2 : Arv Z h2 b2 k2 .char 3 [(.int 0), (.int 0), (.int 0)] (.int 0) := (Arv.new A2 (by decide)).pad (pad_rep [] (.int 0) 3)
 refine sF X2 hx y d3_56 rfl ?_
 refine sC X2 hx y d3_57 ?_
 refine sI X2 hx y d3_58 rfl ?_
 obtain ⟨c3, r3, q3, t3, u3, y3h, y3g⟩ := id V2
 have i3 : ¬ ((0 : Int32) < 0 ∨ c3.slots.size ≤ ((0 : Int32)).toNatClampNeg) := inb_of t3 ⟨by decide, by decide⟩
 obtain ⟨T3, h3, X3, e3, W3, st3⟩ := stC X2 hx hZ e2 r3 (j := (0 : Int32)) i3 (g := (mkF m 59 #[iv 3, iv v0_, iv v1_, iv v2_, iv v3_] [.int v0_, .int 0, .ref b2, .ref b2, .ref b1, .ref b1])) rfl rfl (hb y d3_59)
 rw [U0] at W3
 refine own_step st3 ?_
 have N3 := Fr.snoc X3 (Fr.nil n0) g2
 have O3 := O2.wr W3 g2
 have K3 := K2.wr W3 (Or.inr y2)
 have V3 : Arv Z h3 b2 k2 .char 3 [(.int v0_), (.int 0), (.int 0)] (.int 0) := Arv.set r3 q3 t3 u3 y3h y3g (own_fitc U0) W3 0 rfl (Nat.le_of_ble_eq_true rfl)
 refine sF X3 hx y d3_60 rfl ?_
 refine sC X3 hx y d3_61 ?_
 refine sI X3 hx y d3_62 rfl ?_
 obtain ⟨c4, r4, q4, t4, u4, y4h, y4g⟩ := id V3
 have i4 : ¬ ((1 : Int32) < 0 ∨ c4.slots.size ≤ ((1 : Int32)).toNatClampNeg) := inb_of t4 ⟨by decide, by decide⟩
 obtain ⟨T4, h4, X4, e4, W4, st4⟩ := stC X3 hx hZ e3 r4 (j := (1 : Int32)) i4 (g := (mkF m 63 #[iv 3, iv v0_, iv v1_, iv v2_, iv v3_] [.int v1_, .int 1, .ref b2, .ref b2, .ref b1, .ref b1])) rfl rfl (hb y d3_63)
 rw [U1] at W4
 refine own_step st4 ?_
 have N4 := Fr.snoc X4 N3 g2
 have O4 := O3.wr W4 g2
 have K4 := K3.wr W4 (Or.inr y2)
 have V4 : Arv Z h4 b2 k2 .char 3 [(.int v0_), (.int v1_), (.int 0)] (.int 0) := Arv.set r4 q4 t4 u4 y4h y4g (own_fitc U1) W4 1 rfl (Nat.le_of_ble_eq_true rfl)
 refine sF X4 hx y d3_64 rfl ?_
 refine sC X4 hx y d3_65 ?_
 refine sI X4 hx y d3_66 rfl ?_
 obtain ⟨c5, r5, q5, t5, u5, y5h, y5g⟩ := id V4
 have i5 : ¬ ((2 : Int32) < 0 ∨ c5.slots.size ≤ ((2 : Int32)).toNatClampNeg) := inb_of t5 ⟨by decide, by decide⟩
 obtain ⟨T5, h5, X5, e5, W5, st5⟩ := stC X4 hx hZ e4 r5 (j := (2 : Int32)) i5 (g := (mkF m 67 #[iv 3, iv v0_, iv v1_, iv v2_, iv v3_] [.int v2_, .int 2, .ref b2, .ref b2, .ref b1, .ref b1])) rfl rfl (hb y d3_67)
 rw [U2] at W5
 refine own_step st5 ?_
 have N5 := Fr.snoc X5 N4 g2
 have O5 := O4.wr W5 g2
 have K5 := K4.wr W5 (Or.inr y2)
 have V5 : Arv Z h5 b2 k2 .char 3 [(.int v0_), (.int v1_), (.int v2_)] (.int 0) := Arv.set r5 q5 t5 u5 y5h y5g (own_fitc U2) W5 2 rfl (Nat.le_of_ble_eq_true rfl)
 have f6 := ((((A1.ext E2).wr W3).wr W4).wr W5)
 have f7 := ((((F1_39.ext E2).other W3 (Or.inl ne2_0)).other W4 (Or.inl ne2_0)).other W5 (Or.inl ne2_0))
 have f8 := ((((F1_41.ext E2).other W3 (Or.inl ne2_0)).other W4 (Or.inl ne2_0)).other W5 (Or.inl ne2_0))
 refine oCN X5 hx hZ ho (oW hw 16 rfl) (bu50 hw) (rm4_101 hw hS O5 b1 b2 v0_ v1_ v2_ k2 f6 f7 f8 V5 g1 U0 U1 U2 U3 U4 U5 U6 U7 U8) 1 (by decide) [.ref b2] rfl (lenOf pd51 rfl) hml rfl rfl rfl y d3_68 e5 ?_
 rintro _ T9 _ X9 (⟨b10, k11, rfl, N9aq, K9aq, y9a_0, m9a_0, F9a_0, F9a_1, F9a_2, F9a_3⟩ | ⟨b12, k13, hq9b_0, hq9b_1, hq9b_2, rfl, N9bq, K9bq, y9b_0, m9b_0, F9b_0, F9b_1, F9b_2, F9b_3⟩)
 ·
  have N9a := Fr.app N5 N9aq
  have u9a_0 : h0.size ≤ b10 := Nat.le_trans (K5.1) y9a_0
  have K9a := Keep.trans K5 K9aq (allS (Or.inr y1) all0)
  exact own_retA X9 hx hr rfl rfl hl (hb y d3_71) (by decide) (by decide) (Or.inl ⟨b1, b10, k11, rfl, N9a, K9a, y1, u9a_0, m9a_0, F9a_0, F9a_1, F9a_2, F9a_3⟩)
 ·
  have N9b := Fr.app N5 N9bq
  have u9b_0 : h0.size ≤ b12 := Nat.le_trans (K5.1) y9b_0
  have K9b := Keep.trans K5 K9bq (allS (Or.inr y1) all0)
  exact own_retA X9 hx hr rfl rfl hl (hb y d3_71) (by decide) (by decide) (Or.inr (⟨b1, b12, k13, hq9b_0, hq9b_1, hq9b_2, rfl, N9b, K9b, y1, u9b_0, m9b_0, F9b_0, F9b_1, F9b_2, F9b_3⟩))


theorem rm11_103 (v0_ v1_ : Addr) (v2_ v3_ v4_ : Int32) (v5_ : ClassId) (U0 : Fb Z h0 v0_ (.ref v1_)) (U1 : Arv Z h0 v1_ v5_ .byte 6 [(.int (oLo v2_)), (.int (oHi v2_)), (.int (oLo v3_)), (.int (oHi v3_)), (.int (oLo v4_)), (.int (oHi v4_))] (.int 0)) :
  oM hw hS O0 l y11 cd11 (oR 0 0 0 0) #[.ref v0_] (fun v h L => (v = some (.int 0) ∧ Fr n0 L ∧ h = h0)) := by
 refine own_met (own := "java/lang/String") (plainFor_of_name pn46) rfl ?_
 intro p e s m u mt c s₁ hx y hml ho hq hr hl hZ e0 X0
 refine own_cast (g' := (mkF m 0 #[rv v0_] [])) rfl ?_
 refine sA X0 hx y d11_0 rfl rfl ?_
 refine sg X0 hx hZ ho (oW hw 40 rfl) e0 U0 y d11_1 fun T1 X1 e1 => ?_
 refine sa X1 hx hZ e1 U1 y d11_4 ?_
 refine sS X1 hx y d11_5 (by decide) 12 (by decide) ?_
 refine sC X1 hx y d11_12 ?_
 exact own_retN X1 hx (t := .boolean) hr (by simp) hl (hb y d11_13) (by decide) (by decide) (by rw [e1]; exact ⟨rfl, (Fr.nil n0), rfl⟩)


theorem rm12_104 (v0_ v1_ : Addr) (v2_ v3_ v4_ : Int32) (v5_ : ClassId) (U0 : Ga Z h0 v0_) (U1 : Fa Z h0 v0_ (.int 1)) (U2 : Fb Z h0 v0_ (.ref v1_)) (U3 : Arv Z h0 v1_ v5_ .byte 6 [(.int (oLo v2_)), (.int (oHi v2_)), (.int (oLo v3_)), (.int (oHi v3_)), (.int (oLo v4_)), (.int (oHi v4_))] (.int 0)) :
  oM hw hS O0 l y12 cd12 (oR 1 0 0 13) #[.ref v0_] (fun v h L => (v = some (.int 3) ∧ Fr n0 L ∧ h = h0)) := by
 refine own_met (own := "java/lang/String") (plainFor_of_name pn46) rfl ?_
 intro p e s m u mt c s₁ hx y hml ho hq hr hl hZ e0 X0
 refine own_cast (g' := (mkF m 0 #[rv v0_] [])) rfl ?_
 refine sA X0 hx y d12_0 rfl rfl ?_
 refine sg X0 hx hZ ho (oW hw 40 rfl) e0 U2 y d12_1 fun T1 X1 e1 => ?_
 refine sa X1 hx hZ e1 U3 y d12_4 ?_
 refine sA X1 hx y d12_5 rfl rfl ?_
 refine oCV X1 hx hZ ho (oW hw 59 rfl) (bu63 hw) U0 (rm13_15 hw hS O0 v0_ U1) 1 (by decide) [] rfl (lenOf pd64 rfl) hml rfl rfl rfl y d12_6 e1 ?_
 rintro _ T3 _ X3 ⟨rfl, N3q, e3⟩
 have N3 := Fr.app (Fr.nil n0) N3q
 refine sM X3 hx y d12_9 ?_
 refine oV (b := 3) (by decide) ?_
 exact own_retI X3 hx hr hl (hb y d12_10) (by decide) (by decide) (by rw [e3]; exact ⟨rfl, N3, rfl⟩)


theorem rm34_105 (v0_ : Addr) (v1_ v2_ v3_ : Int32) (v4_ : ClassId) (U0 : Arv Z h0 v0_ v4_ .byte 6 [(.int (oLo v1_)), (.int (oHi v1_)), (.int (oLo v2_)), (.int (oHi v2_)), (.int (oLo v3_)), (.int (oHi v3_))] (.int 0)) :
  oM hw hS O0 l y34 cd34 (oR 0 0 0 0) #[.ref v0_] (fun v h L => (v = some (.int 3) ∧ Fr n0 L ∧ h = h0)) := by
 refine own_met (own := "java/lang/StringUTF16") (plainFor_of_name pn14) rfl ?_
 intro p e s m u mt c s₁ hx y hml ho hq hr hl hZ e0 X0
 refine own_cast (g' := (mkF m 0 #[rv v0_] [])) rfl ?_
 refine sA X0 hx y d34_0 rfl rfl ?_
 refine sa X0 hx hZ e0 U0 y d34_1 ?_
 refine sC X0 hx y d34_2 ?_
 refine sM X0 hx y d34_3 ?_
 refine oV (b := 3) (by decide) ?_
 exact own_retI X0 hx hr hl (hb y d34_4) (by decide) (by decide) (by rw [e0]; exact ⟨rfl, (Fr.nil n0), rfl⟩)


theorem rm18_106  :
  oM hw hS O0 l y18 cd18 (oR 0 0 0 0) #[.int 0, .int 3, .null] (fun v h L => (v = some (.int 0) ∧ Fr n0 L ∧ h = h0)) := by
 refine own_met (own := "jdk/internal/util/Preconditions") (plainFor_of_name pn81) rfl ?_
 intro p e s m u mt c s₁ hx y hml ho hq hr hl hZ e0 X0
 refine own_cast (g' := (mkF m 0 #[iv 0, iv 3, .val .null] [])) rfl ?_
 refine sI X0 hx y d18_0 rfl ?_
 refine sT X0 hx y d18_1 (by decide) ?_
 refine sI X0 hx y d18_4 rfl ?_
 refine sI X0 hx y d18_5 rfl ?_
 refine sU X0 hx y d18_6 (by decide) 16 (by decide) ?_
 refine sI X0 hx y d18_16 rfl ?_
 exact own_retI X0 hx hr hl (hb y d18_17) (by decide) (by decide) (by rw [e0]; exact ⟨rfl, (Fr.nil n0), rfl⟩)


theorem rm18_107 (v0_ : Addr) :
  oM hw hS O0 l y18 cd18 (oR 0 0 0 0) #[.int 0, .int 3, .ref v0_] (fun v h L => (v = some (.int 0) ∧ Fr n0 L ∧ h = h0)) := by
 refine own_met (own := "jdk/internal/util/Preconditions") (plainFor_of_name pn81) rfl ?_
 intro p e s m u mt c s₁ hx y hml ho hq hr hl hZ e0 X0
 refine own_cast (g' := (mkF m 0 #[iv 0, iv 3, rv v0_] [])) rfl ?_
 refine sI X0 hx y d18_0 rfl ?_
 refine sT X0 hx y d18_1 (by decide) ?_
 refine sI X0 hx y d18_4 rfl ?_
 refine sI X0 hx y d18_5 rfl ?_
 refine sU X0 hx y d18_6 (by decide) 16 (by decide) ?_
 refine sI X0 hx y d18_16 rfl ?_
 exact own_retI X0 hx hr hl (hb y d18_17) (by decide) (by decide) (by rw [e0]; exact ⟨rfl, (Fr.nil n0), rfl⟩)


theorem rm17_108  :
  oM hw hS O0 l y17 cd17 (oR 1 0 0 14) #[.int 0, .int 3] (fun v h L => (v = none ∧ Fr n0 L ∧ h = h0)) := by
 refine own_met (own := "java/lang/String") (plainFor_of_name pn46) rfl ?_
 intro p e s m u mt c s₁ hx y hml ho hq hr hl hZ e0 X0
 refine own_cast (g' := (mkF m 0 #[iv 0, iv 3] [])) rfl ?_
 refine sI X0 hx y d17_0 rfl ?_
 refine sI X0 hx y d17_1 rfl ?_
 rcases (sr0 hw hS) with hs1 | ⟨a1, hs1⟩
 ·
  obtain ⟨T1n, X1n, e1n, st1n⟩ := getS2 X0 hx hZ ho (host := "") (Or.inl (oW hw 81 rfl)) Via.refl e0 (hs1.ext O0.2) (g := (mkF m 2 #[iv 0, iv 3] [.int 3, .int 0])) rfl (hb y d17_2)
  refine own_step st1n ?_
  refine oCS X1n hx hZ ho (oW hw 83 rfl) (bu82 hw) (rm18_106 hw hS O0) 0 (by decide) [.int 0, .int 3, .null] rfl (lenOf pd83 rfl) hml rfl rfl rfl y d17_5 e1n ?_
  rintro _ T2 _ X2 ⟨rfl, N2q, e2⟩
  have N2 := Fr.app (Fr.nil n0) N2q
  refine sG X2 hx y d17_8 rfl ?_
  exact own_retV X2 hx hr hl (hb y d17_9) (by decide) (by decide) (by rw [e2]; exact ⟨rfl, N2, rfl⟩)
 ·
  obtain ⟨T1r, X1r, e1r, st1r⟩ := getS2 X0 hx hZ ho (host := "") (Or.inl (oW hw 81 rfl)) Via.refl e0 (hs1.ext O0.2) (g := (mkF m 2 #[iv 0, iv 3] [.int 3, .int 0])) rfl (hb y d17_2)
  refine own_step st1r ?_
  refine oCS X1r hx hZ ho (oW hw 83 rfl) (bu82 hw) (rm18_107 hw hS O0 a1) 0 (by decide) [.int 0, .int 3, .ref a1] rfl (lenOf pd83 rfl) hml rfl rfl rfl y d17_5 e1r ?_
  rintro _ T3 _ X3 ⟨rfl, N3q, e3⟩
  have N3 := Fr.app (Fr.nil n0) N3q
  refine sG X3 hx y d17_8 rfl ?_
  exact own_retV X3 hx hr hl (hb y d17_9) (by decide) (by decide) (by rw [e3]; exact ⟨rfl, N3, rfl⟩)


theorem rm33_109 (v0_ : Addr) (v1_ v2_ v3_ : Int32) (v4_ : ClassId) (U0 : Arv Z h0 v0_ v4_ .byte 6 [(.int (oLo v1_)), (.int (oHi v1_)), (.int (oLo v2_)), (.int (oHi v2_)), (.int (oLo v3_)), (.int (oHi v3_))] (.int 0)) :
  oM hw hS O0 l y33 cd33 (oR 2 0 0 27) #[.int 0, .ref v0_] (fun v h L => (v = none ∧ Fr n0 L ∧ h = h0)) := by
 refine own_met (own := "java/lang/StringUTF16") (plainFor_of_name pn14) rfl ?_
 intro p e s m u mt c s₁ hx y hml ho hq hr hl hZ e0 X0
 refine own_cast (g' := (mkF m 0 #[iv 0, rv v0_] [])) rfl ?_
 refine sI X0 hx y d33_0 rfl ?_
 refine sA X0 hx y d33_1 rfl rfl ?_
 refine oCS X0 hx hZ ho (oW hw 145 rfl) (bu76 hw) (rm34_105 hw hS O0 v0_ v1_ v2_ v3_ v4_ U0) 1 (by decide) [.ref v0_] rfl (lenOf pd77 rfl) hml rfl rfl rfl y d33_2 e0 ?_
 rintro _ T1 _ X1 ⟨rfl, N1q, e1⟩
 have N1 := Fr.app (Fr.nil n0) N1q
 refine oCS X1 hx hZ ho (oW hw 148 rfl) (bu85 hw) (rm17_108 hw hS O0) 0 (by decide) [.int 0, .int 3] rfl (lenOf pd86 rfl) hml rfl rfl rfl y d33_5 e1 ?_
 rintro _ T2 _ X2 ⟨rfl, N2q, e2⟩
 have N2 := Fr.app N1 N2q
 exact own_retV X2 hx hr hl (hb y d33_8) (by decide) (by decide) (by rw [e2]; exact ⟨rfl, N2, rfl⟩)


theorem rm32_110 (v0_ : Addr) (v1_ v2_ v3_ : Int32) (v4_ : ClassId) (U0 : Arv Z h0 v0_ v4_ .byte 6 [(.int (oLo v1_)), (.int (oHi v1_)), (.int (oLo v2_)), (.int (oHi v2_)), (.int (oLo v3_)), (.int (oHi v3_))] (.int 0)) (U1 : nar .char v1_ = v1_) (U2 : ¬ (v1_ < (0 : Int32))) (U3 : ¬ ((65535 : Int32) < v1_)) :
  oM hw hS O0 l y32 cd32 (oR 3 0 0 40) #[.ref v0_, .int 0] (fun v h L => (v = some (.int v1_) ∧ Fr n0 L ∧ h = h0)) := by
 refine own_met (own := "java/lang/StringUTF16") (plainFor_of_name pn14) rfl ?_
 intro p e s m u mt c s₁ hx y hml ho hq hr hl hZ e0 X0
 refine own_cast (g' := (mkF m 0 #[rv v0_, iv 0] [])) rfl ?_
 refine sI X0 hx y d32_0 rfl ?_
 refine sA X0 hx y d32_1 rfl rfl ?_
 refine oCS X0 hx hZ ho (oW hw 142 rfl) (bu88 hw) (rm33_109 hw hS O0 v0_ v1_ v2_ v3_ v4_ U0) 0 (by decide) [.int 0, .ref v0_] rfl (lenOf pd89 rfl) hml rfl rfl rfl y d32_2 e0 ?_
 rintro _ T1 _ X1 ⟨rfl, N1q, e1⟩
 have N1 := Fr.app (Fr.nil n0) N1q
 refine sA X1 hx y d32_5 rfl rfl ?_
 refine sI X1 hx y d32_6 rfl ?_
 refine oCS X1 hx hZ ho (oW hw 136 rfl) (bu35 hw) (rm31_94 hw hS O0 v0_ v1_ v2_ v3_ v4_ U0 U1 U2 U3) 0 (by decide) [.ref v0_, .int 0] rfl (lenOf pd36 rfl) hml rfl rfl rfl y d32_7 e1 ?_
 rintro _ T2 _ X2 ⟨rfl, N2q, e2⟩
 have N2 := Fr.app N1 N2q
 exact own_retN X2 hx (t := .char) hr (by simp) hl (hb y d32_10) (by decide) (by decide) (by rw [U1, e2]; exact ⟨rfl, N2, rfl⟩)


theorem rm14_111 (v0_ v1_ : Addr) (v2_ v3_ v4_ : Int32) (v5_ : ClassId) (U0 : Ga Z h0 v0_) (U1 : Fa Z h0 v0_ (.int 1)) (U2 : Fb Z h0 v0_ (.ref v1_)) (U3 : Arv Z h0 v1_ v5_ .byte 6 [(.int (oLo v2_)), (.int (oHi v2_)), (.int (oLo v3_)), (.int (oHi v3_)), (.int (oLo v4_)), (.int (oHi v4_))] (.int 0)) (U4 : nar .char v2_ = v2_) (U5 : ¬ (v2_ < (0 : Int32))) (U6 : ¬ ((65535 : Int32) < v2_)) :
  oM hw hS O0 l y14 cd14 (oR 4 0 0 53) #[.ref v0_, .int 0] (fun v h L => (v = some (.int v2_) ∧ Fr n0 L ∧ h = h0)) := by
 refine own_met (own := "java/lang/String") (plainFor_of_name pn46) rfl ?_
 intro p e s m u mt c s₁ hx y hml ho hq hr hl hZ e0 X0
 refine own_cast (g' := (mkF m 0 #[rv v0_, iv 0] [])) rfl ?_
 refine sA X0 hx y d14_0 rfl rfl ?_
 refine oCV X0 hx hZ ho (oW hw 69 rfl) (bu71 hw) U0 (rm15_17 hw hS O0 v0_ U1) 0 (by decide) [] rfl (lenOf pd59 rfl) hml rfl rfl rfl y d14_1 e0 ?_
 rintro _ T1 _ X1 ⟨rfl, N1q, e1⟩
 have N1 := Fr.app (Fr.nil n0) N1q
 refine sS X1 hx y d14_4 (by decide) 16 (by decide) ?_
 refine sA X1 hx y d14_16 rfl rfl ?_
 refine sg X1 hx hZ ho (oW hw 40 rfl) e1 U2 y d14_17 fun T2 X2 e2 => ?_
 refine sI X2 hx y d14_20 rfl ?_
 refine oCS X2 hx hZ ho (oW hw 139 rfl) (bu91 hw) (rm32_110 hw hS O0 v1_ v2_ v3_ v4_ v5_ U3 U4 U5 U6) 0 (by decide) [.ref v1_, .int 0] rfl (lenOf pd36 rfl) hml rfl rfl rfl y d14_21 e2 ?_
 rintro _ T3 _ X3 ⟨rfl, N3q, e3⟩
 have N3 := Fr.app N1 N3q
 exact own_retN X3 hx (t := .char) hr (by simp) hl (hb y d14_24) (by decide) (by decide) (by rw [U4, e3]; exact ⟨rfl, N3, rfl⟩)


theorem rm18_112  :
  oM hw hS O0 l y18 cd18 (oR 0 0 0 0) #[.int 1, .int 3, .null] (fun v h L => (v = some (.int 1) ∧ Fr n0 L ∧ h = h0)) := by
 refine own_met (own := "jdk/internal/util/Preconditions") (plainFor_of_name pn81) rfl ?_
 intro p e s m u mt c s₁ hx y hml ho hq hr hl hZ e0 X0
 refine own_cast (g' := (mkF m 0 #[iv 1, iv 3, .val .null] [])) rfl ?_
 refine sI X0 hx y d18_0 rfl ?_
 refine sT X0 hx y d18_1 (by decide) ?_
 refine sI X0 hx y d18_4 rfl ?_
 refine sI X0 hx y d18_5 rfl ?_
 refine sU X0 hx y d18_6 (by decide) 16 (by decide) ?_
 refine sI X0 hx y d18_16 rfl ?_
 exact own_retI X0 hx hr hl (hb y d18_17) (by decide) (by decide) (by rw [e0]; exact ⟨rfl, (Fr.nil n0), rfl⟩)


theorem rm18_113 (v0_ : Addr) :
  oM hw hS O0 l y18 cd18 (oR 0 0 0 0) #[.int 1, .int 3, .ref v0_] (fun v h L => (v = some (.int 1) ∧ Fr n0 L ∧ h = h0)) := by
 refine own_met (own := "jdk/internal/util/Preconditions") (plainFor_of_name pn81) rfl ?_
 intro p e s m u mt c s₁ hx y hml ho hq hr hl hZ e0 X0
 refine own_cast (g' := (mkF m 0 #[iv 1, iv 3, rv v0_] [])) rfl ?_
 refine sI X0 hx y d18_0 rfl ?_
 refine sT X0 hx y d18_1 (by decide) ?_
 refine sI X0 hx y d18_4 rfl ?_
 refine sI X0 hx y d18_5 rfl ?_
 refine sU X0 hx y d18_6 (by decide) 16 (by decide) ?_
 refine sI X0 hx y d18_16 rfl ?_
 exact own_retI X0 hx hr hl (hb y d18_17) (by decide) (by decide) (by rw [e0]; exact ⟨rfl, (Fr.nil n0), rfl⟩)


theorem rm17_114  :
  oM hw hS O0 l y17 cd17 (oR 1 0 0 14) #[.int 1, .int 3] (fun v h L => (v = none ∧ Fr n0 L ∧ h = h0)) := by
 refine own_met (own := "java/lang/String") (plainFor_of_name pn46) rfl ?_
 intro p e s m u mt c s₁ hx y hml ho hq hr hl hZ e0 X0
 refine own_cast (g' := (mkF m 0 #[iv 1, iv 3] [])) rfl ?_
 refine sI X0 hx y d17_0 rfl ?_
 refine sI X0 hx y d17_1 rfl ?_
 rcases (sr0 hw hS) with hs1 | ⟨a1, hs1⟩
 ·
  obtain ⟨T1n, X1n, e1n, st1n⟩ := getS2 X0 hx hZ ho (host := "") (Or.inl (oW hw 81 rfl)) Via.refl e0 (hs1.ext O0.2) (g := (mkF m 2 #[iv 1, iv 3] [.int 3, .int 1])) rfl (hb y d17_2)
  refine own_step st1n ?_
  refine oCS X1n hx hZ ho (oW hw 83 rfl) (bu82 hw) (rm18_112 hw hS O0) 0 (by decide) [.int 1, .int 3, .null] rfl (lenOf pd83 rfl) hml rfl rfl rfl y d17_5 e1n ?_
  rintro _ T2 _ X2 ⟨rfl, N2q, e2⟩
  have N2 := Fr.app (Fr.nil n0) N2q
  refine sG X2 hx y d17_8 rfl ?_
  exact own_retV X2 hx hr hl (hb y d17_9) (by decide) (by decide) (by rw [e2]; exact ⟨rfl, N2, rfl⟩)
 ·
  obtain ⟨T1r, X1r, e1r, st1r⟩ := getS2 X0 hx hZ ho (host := "") (Or.inl (oW hw 81 rfl)) Via.refl e0 (hs1.ext O0.2) (g := (mkF m 2 #[iv 1, iv 3] [.int 3, .int 1])) rfl (hb y d17_2)
  refine own_step st1r ?_
  refine oCS X1r hx hZ ho (oW hw 83 rfl) (bu82 hw) (rm18_113 hw hS O0 a1) 0 (by decide) [.int 1, .int 3, .ref a1] rfl (lenOf pd83 rfl) hml rfl rfl rfl y d17_5 e1r ?_
  rintro _ T3 _ X3 ⟨rfl, N3q, e3⟩
  have N3 := Fr.app (Fr.nil n0) N3q
  refine sG X3 hx y d17_8 rfl ?_
  exact own_retV X3 hx hr hl (hb y d17_9) (by decide) (by decide) (by rw [e3]; exact ⟨rfl, N3, rfl⟩)


theorem rm33_115 (v0_ : Addr) (v1_ v2_ v3_ : Int32) (v4_ : ClassId) (U0 : Arv Z h0 v0_ v4_ .byte 6 [(.int (oLo v1_)), (.int (oHi v1_)), (.int (oLo v2_)), (.int (oHi v2_)), (.int (oLo v3_)), (.int (oHi v3_))] (.int 0)) :
  oM hw hS O0 l y33 cd33 (oR 2 0 0 27) #[.int 1, .ref v0_] (fun v h L => (v = none ∧ Fr n0 L ∧ h = h0)) := by
 refine own_met (own := "java/lang/StringUTF16") (plainFor_of_name pn14) rfl ?_
 intro p e s m u mt c s₁ hx y hml ho hq hr hl hZ e0 X0
 refine own_cast (g' := (mkF m 0 #[iv 1, rv v0_] [])) rfl ?_
 refine sI X0 hx y d33_0 rfl ?_
 refine sA X0 hx y d33_1 rfl rfl ?_
 refine oCS X0 hx hZ ho (oW hw 145 rfl) (bu76 hw) (rm34_105 hw hS O0 v0_ v1_ v2_ v3_ v4_ U0) 1 (by decide) [.ref v0_] rfl (lenOf pd77 rfl) hml rfl rfl rfl y d33_2 e0 ?_
 rintro _ T1 _ X1 ⟨rfl, N1q, e1⟩
 have N1 := Fr.app (Fr.nil n0) N1q
 refine oCS X1 hx hZ ho (oW hw 148 rfl) (bu85 hw) (rm17_114 hw hS O0) 0 (by decide) [.int 1, .int 3] rfl (lenOf pd86 rfl) hml rfl rfl rfl y d33_5 e1 ?_
 rintro _ T2 _ X2 ⟨rfl, N2q, e2⟩
 have N2 := Fr.app N1 N2q
 exact own_retV X2 hx hr hl (hb y d33_8) (by decide) (by decide) (by rw [e2]; exact ⟨rfl, N2, rfl⟩)


theorem rm32_116 (v0_ : Addr) (v1_ v2_ v3_ : Int32) (v4_ : ClassId) (U0 : Arv Z h0 v0_ v4_ .byte 6 [(.int (oLo v1_)), (.int (oHi v1_)), (.int (oLo v2_)), (.int (oHi v2_)), (.int (oLo v3_)), (.int (oHi v3_))] (.int 0)) (U1 : nar .char v2_ = v2_) (U2 : ¬ (v2_ < (0 : Int32))) (U3 : ¬ ((65535 : Int32) < v2_)) :
  oM hw hS O0 l y32 cd32 (oR 3 0 0 40) #[.ref v0_, .int 1] (fun v h L => (v = some (.int v2_) ∧ Fr n0 L ∧ h = h0)) := by
 refine own_met (own := "java/lang/StringUTF16") (plainFor_of_name pn14) rfl ?_
 intro p e s m u mt c s₁ hx y hml ho hq hr hl hZ e0 X0
 refine own_cast (g' := (mkF m 0 #[rv v0_, iv 1] [])) rfl ?_
 refine sI X0 hx y d32_0 rfl ?_
 refine sA X0 hx y d32_1 rfl rfl ?_
 refine oCS X0 hx hZ ho (oW hw 142 rfl) (bu88 hw) (rm33_115 hw hS O0 v0_ v1_ v2_ v3_ v4_ U0) 0 (by decide) [.int 1, .ref v0_] rfl (lenOf pd89 rfl) hml rfl rfl rfl y d32_2 e0 ?_
 rintro _ T1 _ X1 ⟨rfl, N1q, e1⟩
 have N1 := Fr.app (Fr.nil n0) N1q
 refine sA X1 hx y d32_5 rfl rfl ?_
 refine sI X1 hx y d32_6 rfl ?_
 refine oCS X1 hx hZ ho (oW hw 136 rfl) (bu35 hw) (rm31_95 hw hS O0 v0_ v1_ v2_ v3_ v4_ U0 U1 U2 U3) 0 (by decide) [.ref v0_, .int 1] rfl (lenOf pd36 rfl) hml rfl rfl rfl y d32_7 e1 ?_
 rintro _ T2 _ X2 ⟨rfl, N2q, e2⟩
 have N2 := Fr.app N1 N2q
 exact own_retN X2 hx (t := .char) hr (by simp) hl (hb y d32_10) (by decide) (by decide) (by rw [U1, e2]; exact ⟨rfl, N2, rfl⟩)


theorem rm14_117 (v0_ v1_ : Addr) (v2_ v3_ v4_ : Int32) (v5_ : ClassId) (U0 : Ga Z h0 v0_) (U1 : Fa Z h0 v0_ (.int 1)) (U2 : Fb Z h0 v0_ (.ref v1_)) (U3 : Arv Z h0 v1_ v5_ .byte 6 [(.int (oLo v2_)), (.int (oHi v2_)), (.int (oLo v3_)), (.int (oHi v3_)), (.int (oLo v4_)), (.int (oHi v4_))] (.int 0)) (U4 : nar .char v3_ = v3_) (U5 : ¬ (v3_ < (0 : Int32))) (U6 : ¬ ((65535 : Int32) < v3_)) :
  oM hw hS O0 l y14 cd14 (oR 4 0 0 53) #[.ref v0_, .int 1] (fun v h L => (v = some (.int v3_) ∧ Fr n0 L ∧ h = h0)) := by
 refine own_met (own := "java/lang/String") (plainFor_of_name pn46) rfl ?_
 intro p e s m u mt c s₁ hx y hml ho hq hr hl hZ e0 X0
 refine own_cast (g' := (mkF m 0 #[rv v0_, iv 1] [])) rfl ?_
 refine sA X0 hx y d14_0 rfl rfl ?_
 refine oCV X0 hx hZ ho (oW hw 69 rfl) (bu71 hw) U0 (rm15_17 hw hS O0 v0_ U1) 0 (by decide) [] rfl (lenOf pd59 rfl) hml rfl rfl rfl y d14_1 e0 ?_
 rintro _ T1 _ X1 ⟨rfl, N1q, e1⟩
 have N1 := Fr.app (Fr.nil n0) N1q
 refine sS X1 hx y d14_4 (by decide) 16 (by decide) ?_
 refine sA X1 hx y d14_16 rfl rfl ?_
 refine sg X1 hx hZ ho (oW hw 40 rfl) e1 U2 y d14_17 fun T2 X2 e2 => ?_
 refine sI X2 hx y d14_20 rfl ?_
 refine oCS X2 hx hZ ho (oW hw 139 rfl) (bu91 hw) (rm32_116 hw hS O0 v1_ v2_ v3_ v4_ v5_ U3 U4 U5 U6) 0 (by decide) [.ref v1_, .int 1] rfl (lenOf pd36 rfl) hml rfl rfl rfl y d14_21 e2 ?_
 rintro _ T3 _ X3 ⟨rfl, N3q, e3⟩
 have N3 := Fr.app N1 N3q
 exact own_retN X3 hx (t := .char) hr (by simp) hl (hb y d14_24) (by decide) (by decide) (by rw [U4, e3]; exact ⟨rfl, N3, rfl⟩)


theorem rm18_118  :
  oM hw hS O0 l y18 cd18 (oR 0 0 0 0) #[.int 2, .int 3, .null] (fun v h L => (v = some (.int 2) ∧ Fr n0 L ∧ h = h0)) := by
 refine own_met (own := "jdk/internal/util/Preconditions") (plainFor_of_name pn81) rfl ?_
 intro p e s m u mt c s₁ hx y hml ho hq hr hl hZ e0 X0
 refine own_cast (g' := (mkF m 0 #[iv 2, iv 3, .val .null] [])) rfl ?_
 refine sI X0 hx y d18_0 rfl ?_
 refine sT X0 hx y d18_1 (by decide) ?_
 refine sI X0 hx y d18_4 rfl ?_
 refine sI X0 hx y d18_5 rfl ?_
 refine sU X0 hx y d18_6 (by decide) 16 (by decide) ?_
 refine sI X0 hx y d18_16 rfl ?_
 exact own_retI X0 hx hr hl (hb y d18_17) (by decide) (by decide) (by rw [e0]; exact ⟨rfl, (Fr.nil n0), rfl⟩)


theorem rm18_119 (v0_ : Addr) :
  oM hw hS O0 l y18 cd18 (oR 0 0 0 0) #[.int 2, .int 3, .ref v0_] (fun v h L => (v = some (.int 2) ∧ Fr n0 L ∧ h = h0)) := by
 refine own_met (own := "jdk/internal/util/Preconditions") (plainFor_of_name pn81) rfl ?_
 intro p e s m u mt c s₁ hx y hml ho hq hr hl hZ e0 X0
 refine own_cast (g' := (mkF m 0 #[iv 2, iv 3, rv v0_] [])) rfl ?_
 refine sI X0 hx y d18_0 rfl ?_
 refine sT X0 hx y d18_1 (by decide) ?_
 refine sI X0 hx y d18_4 rfl ?_
 refine sI X0 hx y d18_5 rfl ?_
 refine sU X0 hx y d18_6 (by decide) 16 (by decide) ?_
 refine sI X0 hx y d18_16 rfl ?_
 exact own_retI X0 hx hr hl (hb y d18_17) (by decide) (by decide) (by rw [e0]; exact ⟨rfl, (Fr.nil n0), rfl⟩)


theorem rm17_120  :
  oM hw hS O0 l y17 cd17 (oR 1 0 0 14) #[.int 2, .int 3] (fun v h L => (v = none ∧ Fr n0 L ∧ h = h0)) := by
 refine own_met (own := "java/lang/String") (plainFor_of_name pn46) rfl ?_
 intro p e s m u mt c s₁ hx y hml ho hq hr hl hZ e0 X0
 refine own_cast (g' := (mkF m 0 #[iv 2, iv 3] [])) rfl ?_
 refine sI X0 hx y d17_0 rfl ?_
 refine sI X0 hx y d17_1 rfl ?_
 rcases (sr0 hw hS) with hs1 | ⟨a1, hs1⟩
 ·
  obtain ⟨T1n, X1n, e1n, st1n⟩ := getS2 X0 hx hZ ho (host := "") (Or.inl (oW hw 81 rfl)) Via.refl e0 (hs1.ext O0.2) (g := (mkF m 2 #[iv 2, iv 3] [.int 3, .int 2])) rfl (hb y d17_2)
  refine own_step st1n ?_
  refine oCS X1n hx hZ ho (oW hw 83 rfl) (bu82 hw) (rm18_118 hw hS O0) 0 (by decide) [.int 2, .int 3, .null] rfl (lenOf pd83 rfl) hml rfl rfl rfl y d17_5 e1n ?_
  rintro _ T2 _ X2 ⟨rfl, N2q, e2⟩
  have N2 := Fr.app (Fr.nil n0) N2q
  refine sG X2 hx y d17_8 rfl ?_
  exact own_retV X2 hx hr hl (hb y d17_9) (by decide) (by decide) (by rw [e2]; exact ⟨rfl, N2, rfl⟩)
 ·
  obtain ⟨T1r, X1r, e1r, st1r⟩ := getS2 X0 hx hZ ho (host := "") (Or.inl (oW hw 81 rfl)) Via.refl e0 (hs1.ext O0.2) (g := (mkF m 2 #[iv 2, iv 3] [.int 3, .int 2])) rfl (hb y d17_2)
  refine own_step st1r ?_
  refine oCS X1r hx hZ ho (oW hw 83 rfl) (bu82 hw) (rm18_119 hw hS O0 a1) 0 (by decide) [.int 2, .int 3, .ref a1] rfl (lenOf pd83 rfl) hml rfl rfl rfl y d17_5 e1r ?_
  rintro _ T3 _ X3 ⟨rfl, N3q, e3⟩
  have N3 := Fr.app (Fr.nil n0) N3q
  refine sG X3 hx y d17_8 rfl ?_
  exact own_retV X3 hx hr hl (hb y d17_9) (by decide) (by decide) (by rw [e3]; exact ⟨rfl, N3, rfl⟩)


theorem rm33_121 (v0_ : Addr) (v1_ v2_ v3_ : Int32) (v4_ : ClassId) (U0 : Arv Z h0 v0_ v4_ .byte 6 [(.int (oLo v1_)), (.int (oHi v1_)), (.int (oLo v2_)), (.int (oHi v2_)), (.int (oLo v3_)), (.int (oHi v3_))] (.int 0)) :
  oM hw hS O0 l y33 cd33 (oR 2 0 0 27) #[.int 2, .ref v0_] (fun v h L => (v = none ∧ Fr n0 L ∧ h = h0)) := by
 refine own_met (own := "java/lang/StringUTF16") (plainFor_of_name pn14) rfl ?_
 intro p e s m u mt c s₁ hx y hml ho hq hr hl hZ e0 X0
 refine own_cast (g' := (mkF m 0 #[iv 2, rv v0_] [])) rfl ?_
 refine sI X0 hx y d33_0 rfl ?_
 refine sA X0 hx y d33_1 rfl rfl ?_
 refine oCS X0 hx hZ ho (oW hw 145 rfl) (bu76 hw) (rm34_105 hw hS O0 v0_ v1_ v2_ v3_ v4_ U0) 1 (by decide) [.ref v0_] rfl (lenOf pd77 rfl) hml rfl rfl rfl y d33_2 e0 ?_
 rintro _ T1 _ X1 ⟨rfl, N1q, e1⟩
 have N1 := Fr.app (Fr.nil n0) N1q
 refine oCS X1 hx hZ ho (oW hw 148 rfl) (bu85 hw) (rm17_120 hw hS O0) 0 (by decide) [.int 2, .int 3] rfl (lenOf pd86 rfl) hml rfl rfl rfl y d33_5 e1 ?_
 rintro _ T2 _ X2 ⟨rfl, N2q, e2⟩
 have N2 := Fr.app N1 N2q
 exact own_retV X2 hx hr hl (hb y d33_8) (by decide) (by decide) (by rw [e2]; exact ⟨rfl, N2, rfl⟩)


theorem rm32_122 (v0_ : Addr) (v1_ v2_ v3_ : Int32) (v4_ : ClassId) (U0 : Arv Z h0 v0_ v4_ .byte 6 [(.int (oLo v1_)), (.int (oHi v1_)), (.int (oLo v2_)), (.int (oHi v2_)), (.int (oLo v3_)), (.int (oHi v3_))] (.int 0)) (U1 : nar .char v3_ = v3_) (U2 : ¬ (v3_ < (0 : Int32))) (U3 : ¬ ((65535 : Int32) < v3_)) :
  oM hw hS O0 l y32 cd32 (oR 3 0 0 40) #[.ref v0_, .int 2] (fun v h L => (v = some (.int v3_) ∧ Fr n0 L ∧ h = h0)) := by
 refine own_met (own := "java/lang/StringUTF16") (plainFor_of_name pn14) rfl ?_
 intro p e s m u mt c s₁ hx y hml ho hq hr hl hZ e0 X0
 refine own_cast (g' := (mkF m 0 #[rv v0_, iv 2] [])) rfl ?_
 refine sI X0 hx y d32_0 rfl ?_
 refine sA X0 hx y d32_1 rfl rfl ?_
 refine oCS X0 hx hZ ho (oW hw 142 rfl) (bu88 hw) (rm33_121 hw hS O0 v0_ v1_ v2_ v3_ v4_ U0) 0 (by decide) [.int 2, .ref v0_] rfl (lenOf pd89 rfl) hml rfl rfl rfl y d32_2 e0 ?_
 rintro _ T1 _ X1 ⟨rfl, N1q, e1⟩
 have N1 := Fr.app (Fr.nil n0) N1q
 refine sA X1 hx y d32_5 rfl rfl ?_
 refine sI X1 hx y d32_6 rfl ?_
 refine oCS X1 hx hZ ho (oW hw 136 rfl) (bu35 hw) (rm31_96 hw hS O0 v0_ v1_ v2_ v3_ v4_ U0 U1 U2 U3) 0 (by decide) [.ref v0_, .int 2] rfl (lenOf pd36 rfl) hml rfl rfl rfl y d32_7 e1 ?_
 rintro _ T2 _ X2 ⟨rfl, N2q, e2⟩
 have N2 := Fr.app N1 N2q
 exact own_retN X2 hx (t := .char) hr (by simp) hl (hb y d32_10) (by decide) (by decide) (by rw [U1, e2]; exact ⟨rfl, N2, rfl⟩)


theorem rm14_123 (v0_ v1_ : Addr) (v2_ v3_ v4_ : Int32) (v5_ : ClassId) (U0 : Ga Z h0 v0_) (U1 : Fa Z h0 v0_ (.int 1)) (U2 : Fb Z h0 v0_ (.ref v1_)) (U3 : Arv Z h0 v1_ v5_ .byte 6 [(.int (oLo v2_)), (.int (oHi v2_)), (.int (oLo v3_)), (.int (oHi v3_)), (.int (oLo v4_)), (.int (oHi v4_))] (.int 0)) (U4 : nar .char v4_ = v4_) (U5 : ¬ (v4_ < (0 : Int32))) (U6 : ¬ ((65535 : Int32) < v4_)) :
  oM hw hS O0 l y14 cd14 (oR 4 0 0 53) #[.ref v0_, .int 2] (fun v h L => (v = some (.int v4_) ∧ Fr n0 L ∧ h = h0)) := by
 refine own_met (own := "java/lang/String") (plainFor_of_name pn46) rfl ?_
 intro p e s m u mt c s₁ hx y hml ho hq hr hl hZ e0 X0
 refine own_cast (g' := (mkF m 0 #[rv v0_, iv 2] [])) rfl ?_
 refine sA X0 hx y d14_0 rfl rfl ?_
 refine oCV X0 hx hZ ho (oW hw 69 rfl) (bu71 hw) U0 (rm15_17 hw hS O0 v0_ U1) 0 (by decide) [] rfl (lenOf pd59 rfl) hml rfl rfl rfl y d14_1 e0 ?_
 rintro _ T1 _ X1 ⟨rfl, N1q, e1⟩
 have N1 := Fr.app (Fr.nil n0) N1q
 refine sS X1 hx y d14_4 (by decide) 16 (by decide) ?_
 refine sA X1 hx y d14_16 rfl rfl ?_
 refine sg X1 hx hZ ho (oW hw 40 rfl) e1 U2 y d14_17 fun T2 X2 e2 => ?_
 refine sI X2 hx y d14_20 rfl ?_
 refine oCS X2 hx hZ ho (oW hw 139 rfl) (bu91 hw) (rm32_122 hw hS O0 v1_ v2_ v3_ v4_ v5_ U3 U4 U5 U6) 0 (by decide) [.ref v1_, .int 2] rfl (lenOf pd36 rfl) hml rfl rfl rfl y d14_21 e2 ?_
 rintro _ T3 _ X3 ⟨rfl, N3q, e3⟩
 have N3 := Fr.app N1 N3q
 exact own_retN X3 hx (t := .char) hr (by simp) hl (hb y d14_24) (by decide) (by decide) (by rw [U4, e3]; exact ⟨rfl, N3, rfl⟩)


theorem rm10_124 (v0_ v1_ v2_ : Addr) (v3_ v4_ v5_ : Int32) (v6_ : ClassId) (U0 : Ga Z h0 v0_) (U1 : Fa Z h0 v0_ (.int 1)) (U2 : Fb Z h0 v0_ (.ref v2_)) (U3 : Arv Z h0 v2_ v6_ .byte 6 [(.int (oLo v3_)), (.int (oHi v3_)), (.int (oLo v4_)), (.int (oHi v4_)), (.int (oLo v5_)), (.int (oHi v5_))] (.int 0)) (U4 : nar .char v3_ = v3_) (U5 : nar .char v4_ = v4_) (U6 : nar .char v5_ = v5_) (U7 : ¬ (v3_ < (0 : Int32))) (U8 : ¬ ((65535 : Int32) < v3_)) (U9 : ¬ (v4_ < (0 : Int32))) (U10 : ¬ ((65535 : Int32) < v4_)) (U11 : ¬ (v5_ < (0 : Int32))) (U12 : ¬ ((65535 : Int32) < v5_)) (U13 : ¬ (v3_ < (32 : Int32))) (U14 : ¬ (v3_ = (127 : Int32))) (U15 : ¬ (v4_ < (32 : Int32))) (U16 : ¬ (v4_ = (127 : Int32))) (U17 : ¬ (v5_ < (32 : Int32))) (U18 : ¬ (v5_ = (127 : Int32))) (U19 : ¬ (v3_ = (61 : Int32))) (U20 : ¬ (v3_ = (43 : Int32))) (U21 : ¬ (v3_ = (45 : Int32))) (U22 : ¬ (v3_ = (64 : Int32))) :
  oMH hw hS O0 l y10 cd10 (oR 5 2 20 66) #[.ref v0_, .ref v1_] (fun v h L => (v = some (.ref v0_) ∧ Fr n0 L ∧ Keep h0 h [])) := by
 refine own_metH (own := "com/example/linepack/linepack/Values") (plainFor_of_name pn112) rfl ?_
 intro p e s m u mt c s₁ hx y hml ho hq hr hl hZ e0 X0 hS0 H0
 refine own_cast (g' := (mkF m 0 #[rv v0_, rv v1_, .unset, .unset] [])) rfl ?_
 refine sA X0 hx y d10_0 rfl rfl ?_
 refine oCV X0 hx hZ ho (oW hw 49 rfl) (bu58 hw) U0 (rm11_103 hw hS O0 v0_ v2_ v3_ v4_ v5_ v6_ U2 U3) 0 (by decide) [] rfl (lenOf pd59 rfl) hml rfl rfl rfl y d10_1 e0 ?_
 rintro _ T1 _ X1 ⟨rfl, N1q, e1⟩
 have N1 := Fr.app (Fr.nil n0) N1q
 refine sS X1 hx y d10_4 (by decide) 21 (by decide) ?_
 refine sC X1 hx y d10_21 ?_
 refine sN X1 hx y d10_22 #[rv v0_, rv v1_, iv 0, .unset] rfl ?_
 refine sI X1 hx y d10_23 rfl ?_
 refine sA X1 hx y d10_24 rfl rfl ?_
 refine oCV X1 hx hZ ho (oW hw 54 rfl) (bu66 hw) U0 (rm12_104 hw hS O0 v0_ v2_ v3_ v4_ v5_ v6_ U0 U1 U2 U3) 1 (by decide) [] rfl (lenOf pd67 rfl) hml rfl rfl rfl y d10_25 e1 ?_
 rintro _ T2 _ X2 ⟨rfl, N2q, e2⟩
 have N2 := Fr.app N1 N2q
 refine sV X2 hx y d10_28 (by decide) ?_
 refine sA X2 hx y d10_31 rfl rfl ?_
 refine sI X2 hx y d10_32 rfl ?_
 refine oCV X2 hx hZ ho (oW hw 64 rfl) (bu93 hw) U0 (rm14_111 hw hS O0 v0_ v2_ v3_ v4_ v5_ v6_ U0 U1 U2 U3 U4 U7 U8) 0 (by decide) [.int 0] rfl (lenOf pd94 rfl) hml rfl rfl rfl y d10_33 e2 ?_
 rintro _ T3 _ X3 ⟨rfl, N3q, e3⟩
 have N3 := Fr.app N2 N3q
 refine sN X3 hx y d10_36 #[rv v0_, rv v1_, iv 0, iv v3_] rfl ?_
 refine sI X3 hx y d10_37 rfl ?_
 refine sD X3 hx y d10_38 ?_
 refine sV X3 hx y d10_40 (flt U13).1 ?_
 refine sI X3 hx y d10_43 rfl ?_
 refine sD X3 hx y d10_44 ?_
 refine sU X3 hx y d10_46 (feq U14).2 63 (by decide) ?_
 refine sY X3 hx y d10_63 #[rv v0_, rv v1_, iv ((0 : Int32) + (1 : Int32)), iv v3_] rfl rfl ?_
 rw [(by decide : ((0 : Int32) + (1 : Int32)) = (1 : Int32))]
 refine sR X3 hx y d10_66 23 (by decide) ?_
 refine sI X3 hx y d10_23 rfl ?_
 refine sA X3 hx y d10_24 rfl rfl ?_
 refine oCV X3 hx hZ ho (oW hw 54 rfl) (bu66 hw) U0 (rm12_104 hw hS O0 v0_ v2_ v3_ v4_ v5_ v6_ U0 U1 U2 U3) 1 (by decide) [] rfl (lenOf pd67 rfl) hml rfl rfl rfl y d10_25 e3 ?_
 rintro _ T4 _ X4 ⟨rfl, N4q, e4⟩
 have N4 := Fr.app N3 N4q
 refine sV X4 hx y d10_28 (by decide) ?_
 refine sA X4 hx y d10_31 rfl rfl ?_
 refine sI X4 hx y d10_32 rfl ?_
 refine oCV X4 hx hZ ho (oW hw 64 rfl) (bu93 hw) U0 (rm14_117 hw hS O0 v0_ v2_ v3_ v4_ v5_ v6_ U0 U1 U2 U3 U5 U9 U10) 0 (by decide) [.int 1] rfl (lenOf pd94 rfl) hml rfl rfl rfl y d10_33 e4 ?_
 rintro _ T5 _ X5 ⟨rfl, N5q, e5⟩
 have N5 := Fr.app N4 N5q
 refine sN X5 hx y d10_36 #[rv v0_, rv v1_, iv 1, iv v4_] rfl ?_
 refine sI X5 hx y d10_37 rfl ?_
 refine sD X5 hx y d10_38 ?_
 refine sV X5 hx y d10_40 (flt U15).1 ?_
 refine sI X5 hx y d10_43 rfl ?_
 refine sD X5 hx y d10_44 ?_
 refine sU X5 hx y d10_46 (feq U16).2 63 (by decide) ?_
 refine sY X5 hx y d10_63 #[rv v0_, rv v1_, iv ((1 : Int32) + (1 : Int32)), iv v4_] rfl rfl ?_
 rw [(by decide : ((1 : Int32) + (1 : Int32)) = (2 : Int32))]
 refine sR X5 hx y d10_66 23 (by decide) ?_
 refine sI X5 hx y d10_23 rfl ?_
 refine sA X5 hx y d10_24 rfl rfl ?_
 refine oCV X5 hx hZ ho (oW hw 54 rfl) (bu66 hw) U0 (rm12_104 hw hS O0 v0_ v2_ v3_ v4_ v5_ v6_ U0 U1 U2 U3) 1 (by decide) [] rfl (lenOf pd67 rfl) hml rfl rfl rfl y d10_25 e5 ?_
 rintro _ T6 _ X6 ⟨rfl, N6q, e6⟩
 have N6 := Fr.app N5 N6q
 refine sV X6 hx y d10_28 (by decide) ?_
 refine sA X6 hx y d10_31 rfl rfl ?_
 refine sI X6 hx y d10_32 rfl ?_
 refine oCV X6 hx hZ ho (oW hw 64 rfl) (bu93 hw) U0 (rm14_123 hw hS O0 v0_ v2_ v3_ v4_ v5_ v6_ U0 U1 U2 U3 U6 U11 U12) 0 (by decide) [.int 2] rfl (lenOf pd94 rfl) hml rfl rfl rfl y d10_33 e6 ?_
 rintro _ T7 _ X7 ⟨rfl, N7q, e7⟩
 have N7 := Fr.app N6 N7q
 refine sN X7 hx y d10_36 #[rv v0_, rv v1_, iv 2, iv v5_] rfl ?_
 refine sI X7 hx y d10_37 rfl ?_
 refine sD X7 hx y d10_38 ?_
 refine sV X7 hx y d10_40 (flt U17).1 ?_
 refine sI X7 hx y d10_43 rfl ?_
 refine sD X7 hx y d10_44 ?_
 refine sU X7 hx y d10_46 (feq U18).2 63 (by decide) ?_
 refine sY X7 hx y d10_63 #[rv v0_, rv v1_, iv ((2 : Int32) + (1 : Int32)), iv v5_] rfl rfl ?_
 rw [(by decide : ((2 : Int32) + (1 : Int32)) = (3 : Int32))]
 refine sR X7 hx y d10_66 23 (by decide) ?_
 refine sI X7 hx y d10_23 rfl ?_
 refine sA X7 hx y d10_24 rfl rfl ?_
 refine oCV X7 hx hZ ho (oW hw 54 rfl) (bu66 hw) U0 (rm12_104 hw hS O0 v0_ v2_ v3_ v4_ v5_ v6_ U0 U1 U2 U3) 1 (by decide) [] rfl (lenOf pd67 rfl) hml rfl rfl rfl y d10_25 e7 ?_
 rintro _ T8 _ X8 ⟨rfl, N8q, e8⟩
 have N8 := Fr.app N7 N8q
 refine sU X8 hx y d10_28 (by decide) 69 (by decide) ?_
 refine sA X8 hx y d10_69 rfl rfl ?_
 refine sC X8 hx y d10_70 ?_
 refine oCV X8 hx hZ ho (oW hw 64 rfl) (bu93 hw) U0 (rm14_111 hw hS O0 v0_ v2_ v3_ v4_ v5_ v6_ U0 U1 U2 U3 U4 U7 U8) 0 (by decide) [.int 0] rfl (lenOf pd94 rfl) hml rfl rfl rfl y d10_71 e8 ?_
 rintro _ T9 _ X9 ⟨rfl, N9q, e9⟩
 have N9 := Fr.app N8 N9q
 refine sN X9 hx y d10_74 #[rv v0_, rv v1_, iv v3_, iv v5_] rfl ?_
 obtain ⟨b10, T10, h10, k10, d10, kd10, X10, e10, E10, hS10, hk10, hZ10, hown10, Ea10, Fc10, Fv10, V10, -, -, hC10, -, hne10, st10⟩ := ldcCH X9 hx hZ ho (oW hw 86 rfl) (fun d hd => hw d (own_satoms d hd)) e9 hS0 (Nat.zero_le _) (own_EW hw) (by decide) (CHr.refl H0).1 (vs := [(.int 61), (.int 43), (.int 45), (.int 64)]) (z := (4 : Int32)) ⟨by decide, by decide⟩ (by decide) rfl (g := (mkF m 75 #[rv v0_, rv v1_, iv v3_, iv v5_] [])) rfl (hb y d10_75) (n := 16) (by decide) (by decide) (by decide) (by decide)
 refine own_step st10 ?_
 have O10 := O0.ext E10
 have K10 := (Keep.refl h0 []).ext E10
 have R10 := CHr.trans (CHr.refl H0) hC10
 refine sI X10 hx y d10_77 rfl ?_
 refine oCV X10 hx hZ10 hown10 (oW hw 87 rfl) (bu110 hw) Ea10 (rm19_78 hw hS O10 b10 v3_ d10 kd10 Ea10 Fc10 Fv10 V10 U7 U19 U20 U21 U22) 0 (by decide) [.int v3_] rfl (lenOf pd22 rfl) hml rfl rfl rfl y d10_78 e10 ?_
 rintro _ T11 _ X11 ⟨rfl, N11q, e11⟩
 have N11 := Fr.app N9 N11q
 refine sS X11 hx y d10_81 (by decide) 99 (by decide) ?_
 refine sA X11 hx y d10_99 rfl rfl ?_
 exact own_retAH X11 hS10 (by rw [e11]; exact hk10) hZ10 (own_EW hw) (by rw [e11]; exact R10) hx hr rfl rfl hl (hb y d10_100) (by decide) (by decide) (by rw [e11]; exact ⟨rfl, N11, K10⟩)


theorem rm11_125 (v0_ v1_ : Addr) (v2_ v3_ v4_ : Int32) (v5_ : ClassId) (U0 : Fb Z h0 v0_ (.ref v1_)) (U1 : Arv Z h0 v1_ v5_ .byte 3 [(.int (oBy v2_)), (.int (oBy v3_)), (.int (oBy v4_))] (.int 0)) :
  oM hw hS O0 l y11 cd11 (oR 0 0 0 0) #[.ref v0_] (fun v h L => (v = some (.int 0) ∧ Fr n0 L ∧ h = h0)) := by
 refine own_met (own := "java/lang/String") (plainFor_of_name pn46) rfl ?_
 intro p e s m u mt c s₁ hx y hml ho hq hr hl hZ e0 X0
 refine own_cast (g' := (mkF m 0 #[rv v0_] [])) rfl ?_
 refine sA X0 hx y d11_0 rfl rfl ?_
 refine sg X0 hx hZ ho (oW hw 40 rfl) e0 U0 y d11_1 fun T1 X1 e1 => ?_
 refine sa X1 hx hZ e1 U1 y d11_4 ?_
 refine sS X1 hx y d11_5 (by decide) 12 (by decide) ?_
 refine sC X1 hx y d11_12 ?_
 exact own_retN X1 hx (t := .boolean) hr (by simp) hl (hb y d11_13) (by decide) (by decide) (by rw [e1]; exact ⟨rfl, (Fr.nil n0), rfl⟩)


theorem rm12_126 (v0_ v1_ : Addr) (v2_ v3_ v4_ : Int32) (v5_ : ClassId) (U0 : Ga Z h0 v0_) (U1 : Fa Z h0 v0_ (.int 0)) (U2 : Fb Z h0 v0_ (.ref v1_)) (U3 : Arv Z h0 v1_ v5_ .byte 3 [(.int (oBy v2_)), (.int (oBy v3_)), (.int (oBy v4_))] (.int 0)) :
  oM hw hS O0 l y12 cd12 (oR 1 0 0 13) #[.ref v0_] (fun v h L => (v = some (.int 3) ∧ Fr n0 L ∧ h = h0)) := by
 refine own_met (own := "java/lang/String") (plainFor_of_name pn46) rfl ?_
 intro p e s m u mt c s₁ hx y hml ho hq hr hl hZ e0 X0
 refine own_cast (g' := (mkF m 0 #[rv v0_] [])) rfl ?_
 refine sA X0 hx y d12_0 rfl rfl ?_
 refine sg X0 hx hZ ho (oW hw 40 rfl) e0 U2 y d12_1 fun T1 X1 e1 => ?_
 refine sa X1 hx hZ e1 U3 y d12_4 ?_
 refine sA X1 hx y d12_5 rfl rfl ?_
 refine oCV X1 hx hZ ho (oW hw 59 rfl) (bu63 hw) U0 (rm13_26 hw hS O0 v0_ U1) 1 (by decide) [] rfl (lenOf pd64 rfl) hml rfl rfl rfl y d12_6 e1 ?_
 rintro _ T3 _ X3 ⟨rfl, N3q, e3⟩
 have N3 := Fr.app (Fr.nil n0) N3q
 refine sM X3 hx y d12_9 ?_
 refine oV (b := 3) (by decide) ?_
 exact own_retI X3 hx hr hl (hb y d12_10) (by decide) (by decide) (by rw [e3]; exact ⟨rfl, N3, rfl⟩)


theorem rm16_127 (v0_ : Addr) (v1_ v2_ v3_ : Int32) (v4_ : ClassId) (U0 : Arv Z h0 v0_ v4_ .byte 3 [(.int (oBy v1_)), (.int (oBy v2_)), (.int (oBy v3_))] (.int 0)) (U1 : nar .char v1_ = v1_) (U2 : ¬ (v1_ < (0 : Int32))) (U3 : ¬ ((255 : Int32) < v1_)) :
  oM hw hS O0 l y16 cd16 (oR 2 0 0 27) #[.ref v0_, .int 0] (fun v h L => (v = some (.int v1_) ∧ Fr n0 L ∧ h = h0)) := by
 refine own_met (own := "java/lang/StringLatin1") (plainFor_of_name pn100) rfl ?_
 intro p e s m u mt c s₁ hx y hml ho hq hr hl hZ e0 X0
 refine own_cast (g' := (mkF m 0 #[rv v0_, iv 0] [])) rfl ?_
 refine sI X0 hx y d16_0 rfl ?_
 refine sA X0 hx y d16_1 rfl rfl ?_
 refine sa X0 hx hZ e0 U0 y d16_2 ?_
 refine oCS X0 hx hZ ho (oW hw 78 rfl) (bu85 hw) (rm17_108 hw hS O0) 0 (by decide) [.int 0, .int 3] rfl (lenOf pd86 rfl) hml rfl rfl rfl y d16_3 e0 ?_
 rintro _ T2 _ X2 ⟨rfl, N2q, e2⟩
 have N2 := Fr.app (Fr.nil n0) N2q
 refine sA X2 hx y d16_6 rfl rfl ?_
 refine sI X2 hx y d16_7 rfl ?_
 obtain ⟨c3, r3, q3, t3, u3, y3h, y3g⟩ := id U0
 have i3 : ¬ ((0 : Int32) < 0 ∨ c3.slots.size ≤ ((0 : Int32)).toNatClampNeg) := inb_of t3 ⟨by decide, by decide⟩
 refine own_step (fun _ k => X2.baloadBytes hx (j := (0 : Int32)) (v := (.int (oBy v1_))) (by rw [e2]; exact r3.1) (State.isArrayOf_alike hZ.alike r3.2.1) r3.2.2 i3 (own_get t3 y3h i3 0 rfl) (g := (mkF m 8 #[rv v0_, iv 0] [.int 0, .ref v0_])) rfl rfl (hb y d16_8) _ k) ?_
 refine oS (XS.sipush X2.here hx rfl (hb y d16_9)) ?_
 refine oS (XS.iand X2.here hx rfl (hb y d16_12) rfl) ?_
 refine oS (XS.i2c X2.here hx rfl (hb y d16_13) rfl) ?_
 show own_Wp p e u _ T2 (mkF m 14 #[rv v0_, iv 0] [.int (((oBy v1_) &&& (255 : Int32)).toUInt32.toUInt16.toUInt32.toInt32)])
 rw [(own_b8 U2 U3 : (((oBy v1_) &&& (255 : Int32)).toUInt32.toUInt16.toUInt32.toInt32) = v1_)]
 exact own_retN X2 hx (t := .char) hr (by simp) hl (hb y d16_14) (by decide) (by decide) (by rw [U1, e2]; exact ⟨rfl, N2, rfl⟩)


theorem rm14_128 (v0_ v1_ : Addr) (v2_ v3_ v4_ : Int32) (v5_ : ClassId) (U0 : Ga Z h0 v0_) (U1 : Fa Z h0 v0_ (.int 0)) (U2 : Fb Z h0 v0_ (.ref v1_)) (U3 : Arv Z h0 v1_ v5_ .byte 3 [(.int (oBy v2_)), (.int (oBy v3_)), (.int (oBy v4_))] (.int 0)) (U4 : nar .char v2_ = v2_) (U5 : ¬ (v2_ < (0 : Int32))) (U6 : ¬ ((255 : Int32) < v2_)) :
  oM hw hS O0 l y14 cd14 (oR 3 0 0 40) #[.ref v0_, .int 0] (fun v h L => (v = some (.int v2_) ∧ Fr n0 L ∧ h = h0)) := by
 refine own_met (own := "java/lang/String") (plainFor_of_name pn46) rfl ?_
 intro p e s m u mt c s₁ hx y hml ho hq hr hl hZ e0 X0
 refine own_cast (g' := (mkF m 0 #[rv v0_, iv 0] [])) rfl ?_
 refine sA X0 hx y d14_0 rfl rfl ?_
 refine oCV X0 hx hZ ho (oW hw 69 rfl) (bu71 hw) U0 (rm15_25 hw hS O0 v0_ U1) 0 (by decide) [] rfl (lenOf pd59 rfl) hml rfl rfl rfl y d14_1 e0 ?_
 rintro _ T1 _ X1 ⟨rfl, N1q, e1⟩
 have N1 := Fr.app (Fr.nil n0) N1q
 refine sT X1 hx y d14_4 (by decide) ?_
 refine sA X1 hx y d14_7 rfl rfl ?_
 refine sg X1 hx hZ ho (oW hw 40 rfl) e1 U2 y d14_8 fun T2 X2 e2 => ?_
 refine sI X2 hx y d14_11 rfl ?_
 refine oCS X2 hx hZ ho (oW hw 74 rfl) (bu120 hw) (rm16_127 hw hS O0 v1_ v2_ v3_ v4_ v5_ U3 U4 U5 U6) 0 (by decide) [.ref v1_, .int 0] rfl (lenOf pd36 rfl) hml rfl rfl rfl y d14_12 e2 ?_
 rintro _ T3 _ X3 ⟨rfl, N3q, e3⟩
 have N3 := Fr.app N1 N3q
 exact own_retN X3 hx (t := .char) hr (by simp) hl (hb y d14_15) (by decide) (by decide) (by rw [U4, e3]; exact ⟨rfl, N3, rfl⟩)


theorem rm16_129 (v0_ : Addr) (v1_ v2_ v3_ : Int32) (v4_ : ClassId) (U0 : Arv Z h0 v0_ v4_ .byte 3 [(.int (oBy v1_)), (.int (oBy v2_)), (.int (oBy v3_))] (.int 0)) (U1 : nar .char v2_ = v2_) (U2 : ¬ (v2_ < (0 : Int32))) (U3 : ¬ ((255 : Int32) < v2_)) :
  oM hw hS O0 l y16 cd16 (oR 2 0 0 27) #[.ref v0_, .int 1] (fun v h L => (v = some (.int v2_) ∧ Fr n0 L ∧ h = h0)) := by
 refine own_met (own := "java/lang/StringLatin1") (plainFor_of_name pn100) rfl ?_
 intro p e s m u mt c s₁ hx y hml ho hq hr hl hZ e0 X0
 refine own_cast (g' := (mkF m 0 #[rv v0_, iv 1] [])) rfl ?_
 refine sI X0 hx y d16_0 rfl ?_
 refine sA X0 hx y d16_1 rfl rfl ?_
 refine sa X0 hx hZ e0 U0 y d16_2 ?_
 refine oCS X0 hx hZ ho (oW hw 78 rfl) (bu85 hw) (rm17_114 hw hS O0) 0 (by decide) [.int 1, .int 3] rfl (lenOf pd86 rfl) hml rfl rfl rfl y d16_3 e0 ?_
 rintro _ T2 _ X2 ⟨rfl, N2q, e2⟩
 have N2 := Fr.app (Fr.nil n0) N2q
 refine sA X2 hx y d16_6 rfl rfl ?_
 refine sI X2 hx y d16_7 rfl ?_
 obtain ⟨c3, r3, q3, t3, u3, y3h, y3g⟩ := id U0
 have i3 : ¬ ((1 : Int32) < 0 ∨ c3.slots.size ≤ ((1 : Int32)).toNatClampNeg) := inb_of t3 ⟨by decide, by decide⟩
 refine own_step (fun _ k => X2.baloadBytes hx (j := (1 : Int32)) (v := (.int (oBy v2_))) (by rw [e2]; exact r3.1) (State.isArrayOf_alike hZ.alike r3.2.1) r3.2.2 i3 (own_get t3 y3h i3 1 rfl) (g := (mkF m 8 #[rv v0_, iv 1] [.int 1, .ref v0_])) rfl rfl (hb y d16_8) _ k) ?_
 refine oS (XS.sipush X2.here hx rfl (hb y d16_9)) ?_
 refine oS (XS.iand X2.here hx rfl (hb y d16_12) rfl) ?_
 refine oS (XS.i2c X2.here hx rfl (hb y d16_13) rfl) ?_
 show own_Wp p e u _ T2 (mkF m 14 #[rv v0_, iv 1] [.int (((oBy v2_) &&& (255 : Int32)).toUInt32.toUInt16.toUInt32.toInt32)])
 rw [(own_b8 U2 U3 : (((oBy v2_) &&& (255 : Int32)).toUInt32.toUInt16.toUInt32.toInt32) = v2_)]
 exact own_retN X2 hx (t := .char) hr (by simp) hl (hb y d16_14) (by decide) (by decide) (by rw [U1, e2]; exact ⟨rfl, N2, rfl⟩)


theorem rm14_130 (v0_ v1_ : Addr) (v2_ v3_ v4_ : Int32) (v5_ : ClassId) (U0 : Ga Z h0 v0_) (U1 : Fa Z h0 v0_ (.int 0)) (U2 : Fb Z h0 v0_ (.ref v1_)) (U3 : Arv Z h0 v1_ v5_ .byte 3 [(.int (oBy v2_)), (.int (oBy v3_)), (.int (oBy v4_))] (.int 0)) (U4 : nar .char v3_ = v3_) (U5 : ¬ (v3_ < (0 : Int32))) (U6 : ¬ ((255 : Int32) < v3_)) :
  oM hw hS O0 l y14 cd14 (oR 3 0 0 40) #[.ref v0_, .int 1] (fun v h L => (v = some (.int v3_) ∧ Fr n0 L ∧ h = h0)) := by
 refine own_met (own := "java/lang/String") (plainFor_of_name pn46) rfl ?_
 intro p e s m u mt c s₁ hx y hml ho hq hr hl hZ e0 X0
 refine own_cast (g' := (mkF m 0 #[rv v0_, iv 1] [])) rfl ?_
 refine sA X0 hx y d14_0 rfl rfl ?_
 refine oCV X0 hx hZ ho (oW hw 69 rfl) (bu71 hw) U0 (rm15_25 hw hS O0 v0_ U1) 0 (by decide) [] rfl (lenOf pd59 rfl) hml rfl rfl rfl y d14_1 e0 ?_
 rintro _ T1 _ X1 ⟨rfl, N1q, e1⟩
 have N1 := Fr.app (Fr.nil n0) N1q
 refine sT X1 hx y d14_4 (by decide) ?_
 refine sA X1 hx y d14_7 rfl rfl ?_
 refine sg X1 hx hZ ho (oW hw 40 rfl) e1 U2 y d14_8 fun T2 X2 e2 => ?_
 refine sI X2 hx y d14_11 rfl ?_
 refine oCS X2 hx hZ ho (oW hw 74 rfl) (bu120 hw) (rm16_129 hw hS O0 v1_ v2_ v3_ v4_ v5_ U3 U4 U5 U6) 0 (by decide) [.ref v1_, .int 1] rfl (lenOf pd36 rfl) hml rfl rfl rfl y d14_12 e2 ?_
 rintro _ T3 _ X3 ⟨rfl, N3q, e3⟩
 have N3 := Fr.app N1 N3q
 exact own_retN X3 hx (t := .char) hr (by simp) hl (hb y d14_15) (by decide) (by decide) (by rw [U4, e3]; exact ⟨rfl, N3, rfl⟩)


theorem rm16_131 (v0_ : Addr) (v1_ v2_ v3_ : Int32) (v4_ : ClassId) (U0 : Arv Z h0 v0_ v4_ .byte 3 [(.int (oBy v1_)), (.int (oBy v2_)), (.int (oBy v3_))] (.int 0)) (U1 : nar .char v3_ = v3_) (U2 : ¬ (v3_ < (0 : Int32))) (U3 : ¬ ((255 : Int32) < v3_)) :
  oM hw hS O0 l y16 cd16 (oR 2 0 0 27) #[.ref v0_, .int 2] (fun v h L => (v = some (.int v3_) ∧ Fr n0 L ∧ h = h0)) := by
 refine own_met (own := "java/lang/StringLatin1") (plainFor_of_name pn100) rfl ?_
 intro p e s m u mt c s₁ hx y hml ho hq hr hl hZ e0 X0
 refine own_cast (g' := (mkF m 0 #[rv v0_, iv 2] [])) rfl ?_
 refine sI X0 hx y d16_0 rfl ?_
 refine sA X0 hx y d16_1 rfl rfl ?_
 refine sa X0 hx hZ e0 U0 y d16_2 ?_
 refine oCS X0 hx hZ ho (oW hw 78 rfl) (bu85 hw) (rm17_120 hw hS O0) 0 (by decide) [.int 2, .int 3] rfl (lenOf pd86 rfl) hml rfl rfl rfl y d16_3 e0 ?_
 rintro _ T2 _ X2 ⟨rfl, N2q, e2⟩
 have N2 := Fr.app (Fr.nil n0) N2q
 refine sA X2 hx y d16_6 rfl rfl ?_
 refine sI X2 hx y d16_7 rfl ?_
 obtain ⟨c3, r3, q3, t3, u3, y3h, y3g⟩ := id U0
 have i3 : ¬ ((2 : Int32) < 0 ∨ c3.slots.size ≤ ((2 : Int32)).toNatClampNeg) := inb_of t3 ⟨by decide, by decide⟩
 refine own_step (fun _ k => X2.baloadBytes hx (j := (2 : Int32)) (v := (.int (oBy v3_))) (by rw [e2]; exact r3.1) (State.isArrayOf_alike hZ.alike r3.2.1) r3.2.2 i3 (own_get t3 y3h i3 2 rfl) (g := (mkF m 8 #[rv v0_, iv 2] [.int 2, .ref v0_])) rfl rfl (hb y d16_8) _ k) ?_
 refine oS (XS.sipush X2.here hx rfl (hb y d16_9)) ?_
 refine oS (XS.iand X2.here hx rfl (hb y d16_12) rfl) ?_
 refine oS (XS.i2c X2.here hx rfl (hb y d16_13) rfl) ?_
 show own_Wp p e u _ T2 (mkF m 14 #[rv v0_, iv 2] [.int (((oBy v3_) &&& (255 : Int32)).toUInt32.toUInt16.toUInt32.toInt32)])
 rw [(own_b8 U2 U3 : (((oBy v3_) &&& (255 : Int32)).toUInt32.toUInt16.toUInt32.toInt32) = v3_)]
 exact own_retN X2 hx (t := .char) hr (by simp) hl (hb y d16_14) (by decide) (by decide) (by rw [U1, e2]; exact ⟨rfl, N2, rfl⟩)


theorem rm14_132 (v0_ v1_ : Addr) (v2_ v3_ v4_ : Int32) (v5_ : ClassId) (U0 : Ga Z h0 v0_) (U1 : Fa Z h0 v0_ (.int 0)) (U2 : Fb Z h0 v0_ (.ref v1_)) (U3 : Arv Z h0 v1_ v5_ .byte 3 [(.int (oBy v2_)), (.int (oBy v3_)), (.int (oBy v4_))] (.int 0)) (U4 : nar .char v4_ = v4_) (U5 : ¬ (v4_ < (0 : Int32))) (U6 : ¬ ((255 : Int32) < v4_)) :
  oM hw hS O0 l y14 cd14 (oR 3 0 0 40) #[.ref v0_, .int 2] (fun v h L => (v = some (.int v4_) ∧ Fr n0 L ∧ h = h0)) := by
 refine own_met (own := "java/lang/String") (plainFor_of_name pn46) rfl ?_
 intro p e s m u mt c s₁ hx y hml ho hq hr hl hZ e0 X0
 refine own_cast (g' := (mkF m 0 #[rv v0_, iv 2] [])) rfl ?_
 refine sA X0 hx y d14_0 rfl rfl ?_
 refine oCV X0 hx hZ ho (oW hw 69 rfl) (bu71 hw) U0 (rm15_25 hw hS O0 v0_ U1) 0 (by decide) [] rfl (lenOf pd59 rfl) hml rfl rfl rfl y d14_1 e0 ?_
 rintro _ T1 _ X1 ⟨rfl, N1q, e1⟩
 have N1 := Fr.app (Fr.nil n0) N1q
 refine sT X1 hx y d14_4 (by decide) ?_
 refine sA X1 hx y d14_7 rfl rfl ?_
 refine sg X1 hx hZ ho (oW hw 40 rfl) e1 U2 y d14_8 fun T2 X2 e2 => ?_
 refine sI X2 hx y d14_11 rfl ?_
 refine oCS X2 hx hZ ho (oW hw 74 rfl) (bu120 hw) (rm16_131 hw hS O0 v1_ v2_ v3_ v4_ v5_ U3 U4 U5 U6) 0 (by decide) [.ref v1_, .int 2] rfl (lenOf pd36 rfl) hml rfl rfl rfl y d14_12 e2 ?_
 rintro _ T3 _ X3 ⟨rfl, N3q, e3⟩
 have N3 := Fr.app N1 N3q
 exact own_retN X3 hx (t := .char) hr (by simp) hl (hb y d14_15) (by decide) (by decide) (by rw [U4, e3]; exact ⟨rfl, N3, rfl⟩)


theorem rm10_133 (v0_ v1_ v2_ : Addr) (v3_ v4_ v5_ : Int32) (v6_ : ClassId) (U0 : Ga Z h0 v0_) (U1 : Fa Z h0 v0_ (.int 0)) (U2 : Fb Z h0 v0_ (.ref v2_)) (U3 : Arv Z h0 v2_ v6_ .byte 3 [(.int (oBy v3_)), (.int (oBy v4_)), (.int (oBy v5_))] (.int 0)) (U4 : nar .char v3_ = v3_) (U5 : nar .char v4_ = v4_) (U6 : nar .char v5_ = v5_) (U7 : ¬ (v3_ < (0 : Int32))) (U8 : ¬ (v4_ < (0 : Int32))) (U9 : ¬ (v5_ < (0 : Int32))) (U10 : ¬ (v3_ < (32 : Int32))) (U11 : ¬ (v3_ = (127 : Int32))) (U12 : ¬ (v4_ < (32 : Int32))) (U13 : ¬ (v4_ = (127 : Int32))) (U14 : ¬ (v5_ < (32 : Int32))) (U15 : ¬ (v5_ = (127 : Int32))) (U16 : ¬ (v3_ = (61 : Int32))) (U17 : ¬ (v3_ = (43 : Int32))) (U18 : ¬ (v3_ = (45 : Int32))) (U19 : ¬ (v3_ = (64 : Int32))) (U20 : ¬ ((255 : Int32) < v3_)) (U21 : ¬ ((255 : Int32) < v4_)) (U22 : ¬ ((255 : Int32) < v5_)) :
  oMH hw hS O0 l y10 cd10 (oR 4 2 20 59) #[.ref v0_, .ref v1_] (fun v h L => (v = some (.ref v0_) ∧ Fr n0 L ∧ Keep h0 h [])) := by
 refine own_metH (own := "com/example/linepack/linepack/Values") (plainFor_of_name pn112) rfl ?_
 intro p e s m u mt c s₁ hx y hml ho hq hr hl hZ e0 X0 hS0 H0
 refine own_cast (g' := (mkF m 0 #[rv v0_, rv v1_, .unset, .unset] [])) rfl ?_
 refine sA X0 hx y d10_0 rfl rfl ?_
 refine oCV X0 hx hZ ho (oW hw 49 rfl) (bu58 hw) U0 (rm11_125 hw hS O0 v0_ v2_ v3_ v4_ v5_ v6_ U2 U3) 0 (by decide) [] rfl (lenOf pd59 rfl) hml rfl rfl rfl y d10_1 e0 ?_
 rintro _ T1 _ X1 ⟨rfl, N1q, e1⟩
 have N1 := Fr.app (Fr.nil n0) N1q
 refine sS X1 hx y d10_4 (by decide) 21 (by decide) ?_
 refine sC X1 hx y d10_21 ?_
 refine sN X1 hx y d10_22 #[rv v0_, rv v1_, iv 0, .unset] rfl ?_
 refine sI X1 hx y d10_23 rfl ?_
 refine sA X1 hx y d10_24 rfl rfl ?_
 refine oCV X1 hx hZ ho (oW hw 54 rfl) (bu66 hw) U0 (rm12_126 hw hS O0 v0_ v2_ v3_ v4_ v5_ v6_ U0 U1 U2 U3) 1 (by decide) [] rfl (lenOf pd67 rfl) hml rfl rfl rfl y d10_25 e1 ?_
 rintro _ T2 _ X2 ⟨rfl, N2q, e2⟩
 have N2 := Fr.app N1 N2q
 refine sV X2 hx y d10_28 (by decide) ?_
 refine sA X2 hx y d10_31 rfl rfl ?_
 refine sI X2 hx y d10_32 rfl ?_
 refine oCV X2 hx hZ ho (oW hw 64 rfl) (bu93 hw) U0 (rm14_128 hw hS O0 v0_ v2_ v3_ v4_ v5_ v6_ U0 U1 U2 U3 U4 U7 U20) 0 (by decide) [.int 0] rfl (lenOf pd94 rfl) hml rfl rfl rfl y d10_33 e2 ?_
 rintro _ T3 _ X3 ⟨rfl, N3q, e3⟩
 have N3 := Fr.app N2 N3q
 refine sN X3 hx y d10_36 #[rv v0_, rv v1_, iv 0, iv v3_] rfl ?_
 refine sI X3 hx y d10_37 rfl ?_
 refine sD X3 hx y d10_38 ?_
 refine sV X3 hx y d10_40 (flt U10).1 ?_
 refine sI X3 hx y d10_43 rfl ?_
 refine sD X3 hx y d10_44 ?_
 refine sU X3 hx y d10_46 (feq U11).2 63 (by decide) ?_
 refine sY X3 hx y d10_63 #[rv v0_, rv v1_, iv ((0 : Int32) + (1 : Int32)), iv v3_] rfl rfl ?_
 rw [(by decide : ((0 : Int32) + (1 : Int32)) = (1 : Int32))]
 refine sR X3 hx y d10_66 23 (by decide) ?_
 refine sI X3 hx y d10_23 rfl ?_
 refine sA X3 hx y d10_24 rfl rfl ?_
 refine oCV X3 hx hZ ho (oW hw 54 rfl) (bu66 hw) U0 (rm12_126 hw hS O0 v0_ v2_ v3_ v4_ v5_ v6_ U0 U1 U2 U3) 1 (by decide) [] rfl (lenOf pd67 rfl) hml rfl rfl rfl y d10_25 e3 ?_
 rintro _ T4 _ X4 ⟨rfl, N4q, e4⟩
 have N4 := Fr.app N3 N4q
 refine sV X4 hx y d10_28 (by decide) ?_
 refine sA X4 hx y d10_31 rfl rfl ?_
 refine sI X4 hx y d10_32 rfl ?_
 refine oCV X4 hx hZ ho (oW hw 64 rfl) (bu93 hw) U0 (rm14_130 hw hS O0 v0_ v2_ v3_ v4_ v5_ v6_ U0 U1 U2 U3 U5 U8 U21) 0 (by decide) [.int 1] rfl (lenOf pd94 rfl) hml rfl rfl rfl y d10_33 e4 ?_
 rintro _ T5 _ X5 ⟨rfl, N5q, e5⟩
 have N5 := Fr.app N4 N5q
 refine sN X5 hx y d10_36 #[rv v0_, rv v1_, iv 1, iv v4_] rfl ?_
 refine sI X5 hx y d10_37 rfl ?_
 refine sD X5 hx y d10_38 ?_
 refine sV X5 hx y d10_40 (flt U12).1 ?_
 refine sI X5 hx y d10_43 rfl ?_
 refine sD X5 hx y d10_44 ?_
 refine sU X5 hx y d10_46 (feq U13).2 63 (by decide) ?_
 refine sY X5 hx y d10_63 #[rv v0_, rv v1_, iv ((1 : Int32) + (1 : Int32)), iv v4_] rfl rfl ?_
 rw [(by decide : ((1 : Int32) + (1 : Int32)) = (2 : Int32))]
 refine sR X5 hx y d10_66 23 (by decide) ?_
 refine sI X5 hx y d10_23 rfl ?_
 refine sA X5 hx y d10_24 rfl rfl ?_
 refine oCV X5 hx hZ ho (oW hw 54 rfl) (bu66 hw) U0 (rm12_126 hw hS O0 v0_ v2_ v3_ v4_ v5_ v6_ U0 U1 U2 U3) 1 (by decide) [] rfl (lenOf pd67 rfl) hml rfl rfl rfl y d10_25 e5 ?_
 rintro _ T6 _ X6 ⟨rfl, N6q, e6⟩
 have N6 := Fr.app N5 N6q
 refine sV X6 hx y d10_28 (by decide) ?_
 refine sA X6 hx y d10_31 rfl rfl ?_
 refine sI X6 hx y d10_32 rfl ?_
 refine oCV X6 hx hZ ho (oW hw 64 rfl) (bu93 hw) U0 (rm14_132 hw hS O0 v0_ v2_ v3_ v4_ v5_ v6_ U0 U1 U2 U3 U6 U9 U22) 0 (by decide) [.int 2] rfl (lenOf pd94 rfl) hml rfl rfl rfl y d10_33 e6 ?_
 rintro _ T7 _ X7 ⟨rfl, N7q, e7⟩
 have N7 := Fr.app N6 N7q
 refine sN X7 hx y d10_36 #[rv v0_, rv v1_, iv 2, iv v5_] rfl ?_
 refine sI X7 hx y d10_37 rfl ?_
 refine sD X7 hx y d10_38 ?_
 refine sV X7 hx y d10_40 (flt U14).1 ?_
 refine sI X7 hx y d10_43 rfl ?_
 refine sD X7 hx y d10_44 ?_
 refine sU X7 hx y d10_46 (feq U15).2 63 (by decide) ?_
 refine sY X7 hx y d10_63 #[rv v0_, rv v1_, iv ((2 : Int32) + (1 : Int32)), iv v5_] rfl rfl ?_
 rw [(by decide : ((2 : Int32) + (1 : Int32)) = (3 : Int32))]
 refine sR X7 hx y d10_66 23 (by decide) ?_
 refine sI X7 hx y d10_23 rfl ?_
 refine sA X7 hx y d10_24 rfl rfl ?_
 refine oCV X7 hx hZ ho (oW hw 54 rfl) (bu66 hw) U0 (rm12_126 hw hS O0 v0_ v2_ v3_ v4_ v5_ v6_ U0 U1 U2 U3) 1 (by decide) [] rfl (lenOf pd67 rfl) hml rfl rfl rfl y d10_25 e7 ?_
 rintro _ T8 _ X8 ⟨rfl, N8q, e8⟩
 have N8 := Fr.app N7 N8q
 refine sU X8 hx y d10_28 (by decide) 69 (by decide) ?_
 refine sA X8 hx y d10_69 rfl rfl ?_
 refine sC X8 hx y d10_70 ?_
 refine oCV X8 hx hZ ho (oW hw 64 rfl) (bu93 hw) U0 (rm14_128 hw hS O0 v0_ v2_ v3_ v4_ v5_ v6_ U0 U1 U2 U3 U4 U7 U20) 0 (by decide) [.int 0] rfl (lenOf pd94 rfl) hml rfl rfl rfl y d10_71 e8 ?_
 rintro _ T9 _ X9 ⟨rfl, N9q, e9⟩
 have N9 := Fr.app N8 N9q
 refine sN X9 hx y d10_74 #[rv v0_, rv v1_, iv v3_, iv v5_] rfl ?_
 obtain ⟨b10, T10, h10, k10, d10, kd10, X10, e10, E10, hS10, hk10, hZ10, hown10, Ea10, Fc10, Fv10, V10, -, -, hC10, -, hne10, st10⟩ := ldcCH X9 hx hZ ho (oW hw 86 rfl) (fun d hd => hw d (own_satoms d hd)) e9 hS0 (Nat.zero_le _) (own_EW hw) (by decide) (CHr.refl H0).1 (vs := [(.int 61), (.int 43), (.int 45), (.int 64)]) (z := (4 : Int32)) ⟨by decide, by decide⟩ (by decide) rfl (g := (mkF m 75 #[rv v0_, rv v1_, iv v3_, iv v5_] [])) rfl (hb y d10_75) (n := 16) (by decide) (by decide) (by decide) (by decide)
 refine own_step st10 ?_
 have O10 := O0.ext E10
 have K10 := (Keep.refl h0 []).ext E10
 have R10 := CHr.trans (CHr.refl H0) hC10
 refine sI X10 hx y d10_77 rfl ?_
 refine oCV X10 hx hZ10 hown10 (oW hw 87 rfl) (bu110 hw) Ea10 (rm19_44 hw hS O10 b10 v3_ d10 kd10 Ea10 Fc10 Fv10 V10 U7 U16 U17 U18 U19 U20) 0 (by decide) [.int v3_] rfl (lenOf pd22 rfl) hml rfl rfl rfl y d10_78 e10 ?_
 rintro _ T11 _ X11 ⟨rfl, N11q, e11⟩
 have N11 := Fr.app N9 N11q
 refine sS X11 hx y d10_81 (by decide) 99 (by decide) ?_
 refine sA X11 hx y d10_99 rfl rfl ?_
 exact own_retAH X11 hS10 (by rw [e11]; exact hk10) hZ10 (own_EW hw) (by rw [e11]; exact R10) hx hr rfl rfl hl (hb y d10_100) (by decide) (by decide) (by rw [e11]; exact ⟨rfl, N11, K10⟩)


theorem rm8_134 (v0_ v1_ : Addr) (v2_ v3_ v4_ v5_ : Int32) (v6_ v7_ : ClassId) (U0 : Arv Z h0 v0_ v6_ .char 4 [(.int v2_), (.int v3_), (.int v4_), (.int v5_)] (.int 0)) (U1 : Arv Z h0 v1_ v7_ .byte 4 [(.int 0), (.int 0), (.int 0), (.int 0)] (.int 0)) (U2 : n0 ≤ v1_) (U3 : v0_ ≠ v1_) :
  oM hw hS O0 l y8 cd8 (oR 0 0 0 0) #[.ref v0_, .int 0, .ref v1_, .int 0, .int 4] (fun v h L => ((255 : Int32) < v2_ ∧ v = some (.int 0) ∧ Fr n0 L ∧ h = h0) ∨ (¬ ((255 : Int32) < v2_) ∧ (255 : Int32) < v3_ ∧ v = some (.int 1) ∧ Fr n0 L ∧ Keep h0 h [v1_] ∧ Arv Z h v1_ v7_ .byte 4 [(.int (oBy v2_)), (.int 0), (.int 0), (.int 0)] (.int 0)) ∨ (¬ ((255 : Int32) < v2_) ∧ ¬ ((255 : Int32) < v3_) ∧ (255 : Int32) < v4_ ∧ v = some (.int 2) ∧ Fr n0 L ∧ Keep h0 h [v1_] ∧ Arv Z h v1_ v7_ .byte 4 [(.int (oBy v2_)), (.int (oBy v3_)), (.int 0), (.int 0)] (.int 0)) ∨ (¬ ((255 : Int32) < v2_) ∧ ¬ ((255 : Int32) < v3_) ∧ ¬ ((255 : Int32) < v4_) ∧ (255 : Int32) < v5_ ∧ v = some (.int 3) ∧ Fr n0 L ∧ Keep h0 h [v1_] ∧ Arv Z h v1_ v7_ .byte 4 [(.int (oBy v2_)), (.int (oBy v3_)), (.int (oBy v4_)), (.int 0)] (.int 0)) ∨ (¬ ((255 : Int32) < v2_) ∧ ¬ ((255 : Int32) < v3_) ∧ ¬ ((255 : Int32) < v4_) ∧ ¬ ((255 : Int32) < v5_) ∧ v = some (.int 4) ∧ Fr n0 L ∧ Keep h0 h [v1_] ∧ Arv Z h v1_ v7_ .byte 4 [(.int (oBy v2_)), (.int (oBy v3_)), (.int (oBy v4_)), (.int (oBy v5_))] (.int 0))) := by
 refine own_met (own := "java/lang/StringUTF16") (plainFor_of_name pn14) rfl ?_
 intro p e s m u mt c s₁ hx y hml ho hq hr hl hZ e0 X0
 refine own_cast (g' := (mkF m 0 #[rv v0_, iv 0, rv v1_, iv 0, iv 4, .unset, .unset] [])) rfl ?_
 refine sC X0 hx y d8_0 ?_
 refine sO X0 hx y d8_1 #[rv v0_, iv 0, rv v1_, iv 0, iv 4, iv 0, .unset] rfl ?_
 refine sJ X0 hx y d8_3 rfl ?_
 refine sJ X0 hx y d8_5 rfl ?_
 refine sV X0 hx y d8_7 (by decide) ?_
 refine sA X0 hx y d8_10 rfl rfl ?_
 refine sI X0 hx y d8_11 rfl ?_
 obtain ⟨c1, r1, q1, t1, u1, y1h, y1g⟩ := id U0
 have i1 : ¬ ((0 : Int32) < 0 ∨ c1.slots.size ≤ ((0 : Int32)).toNatClampNeg) := inb_of t1 ⟨by decide, by decide⟩
 refine own_step (fun _ k => X0.caload hx (j := (0 : Int32)) (v := (.int v2_)) (by rw [e0]; exact r1.1) (State.isArrayOf_alike hZ.alike r1.2.1) r1.2.2 i1 (own_get t1 y1h i1 0 rfl) (g := (mkF m 12 #[rv v0_, iv 0, rv v1_, iv 0, iv 4, iv 0, .unset] [.int 0, .ref v0_])) rfl rfl (hb y d8_12) _ k) ?_
 refine sO X0 hx y d8_13 #[rv v0_, iv 0, rv v1_, iv 0, iv 4, iv 0, iv v2_] rfl ?_
 refine sJ X0 hx y d8_15 rfl ?_
 refine oS (XS.sipush X0.here hx rfl (hb y d8_17)) ?_
 by_cases hc2 : (255 : Int32) < v2_
 ·
  refine sV X0 hx y d8_20 (tlt hc2).2.2.2 ?_
  refine sJ X0 hx y d8_23 rfl ?_
  exact own_retI X0 hx hr hl (hb y d8_25) (by decide) (by decide) (by rw [e0]; exact Or.inl ⟨hc2, rfl, (Fr.nil n0), rfl⟩)
 ·
  refine sU X0 hx y d8_20 (flt hc2).2.2.2 26 (by decide) ?_
  refine sA X0 hx y d8_26 rfl rfl ?_
  refine sI X0 hx y d8_27 rfl ?_
  refine sJ X0 hx y d8_28 rfl ?_
  refine oS (XS.i2b X0.here hx rfl (hb y d8_30) rfl) ?_
  obtain ⟨c3, r3, q3, t3, u3, y3h, y3g⟩ := id U1
  have i3 : ¬ ((0 : Int32) < 0 ∨ c3.slots.size ≤ ((0 : Int32)).toNatClampNeg) := inb_of t3 ⟨by decide, by decide⟩
  obtain ⟨T3, h3, X3, e3, W3, st3⟩ := stB X0 hx hZ e0 r3 (j := (0 : Int32)) i3 (g := (mkF m 31 #[rv v0_, iv 0, rv v1_, iv 0, iv 4, iv 0, iv v2_] [.int (v2_.toInt8.toInt32), .int 0, .ref v1_])) rfl rfl (hb y d8_31)
  refine own_step st3 ?_
  have N3 := Fr.snoc X3 (Fr.nil n0) U2
  have K3 := (Keep.refl h0 [v1_]).wr W3 (Or.inl (by simp))
  have V3 : Arv Z h3 v1_ v7_ .byte 4 [(.int (oBy v2_)), (.int 0), (.int 0), (.int 0)] (.int 0) := Arv.set r3 q3 t3 u3 y3h y3g (fits_nar_byte _) W3 0 rfl (Nat.le_of_ble_eq_true rfl)
  refine sY X3 hx y d8_32 #[rv v0_, iv ((0 : Int32) + (1 : Int32)), rv v1_, iv 0, iv 4, iv 0, iv v2_] rfl rfl ?_
  rw [(by decide : ((0 : Int32) + (1 : Int32)) = (1 : Int32))]
  refine sY X3 hx y d8_35 #[rv v0_, iv 1, rv v1_, iv ((0 : Int32) + (1 : Int32)), iv 4, iv 0, iv v2_] rfl rfl ?_
  rw [(by decide : ((0 : Int32) + (1 : Int32)) = (1 : Int32))]
  refine sY X3 hx y d8_38 #[rv v0_, iv 1, rv v1_, iv 1, iv 4, iv ((0 : Int32) + (1 : Int32)), iv v2_] rfl rfl ?_
  rw [(by decide : ((0 : Int32) + (1 : Int32)) = (1 : Int32))]
  refine sR X3 hx y d8_41 3 (by decide) ?_
  refine sJ X3 hx y d8_3 rfl ?_
  refine sJ X3 hx y d8_5 rfl ?_
  refine sV X3 hx y d8_7 (by decide) ?_
  refine sA X3 hx y d8_10 rfl rfl ?_
  refine sI X3 hx y d8_11 rfl ?_
  have f4 := (U0.other W3 U3)
  obtain ⟨c5, r5, q5, t5, u5, y5h, y5g⟩ := id f4
  have i5 : ¬ ((1 : Int32) < 0 ∨ c5.slots.size ≤ ((1 : Int32)).toNatClampNeg) := inb_of t5 ⟨by decide, by decide⟩
  refine own_step (fun _ k => X3.caload hx (j := (1 : Int32)) (v := (.int v3_)) (by rw [e3]; exact r5.1) (State.isArrayOf_alike hZ.alike r5.2.1) r5.2.2 i5 (own_get t5 y5h i5 1 rfl) (g := (mkF m 12 #[rv v0_, iv 1, rv v1_, iv 1, iv 4, iv 1, iv v2_] [.int 1, .ref v0_])) rfl rfl (hb y d8_12) _ k) ?_
  refine sO X3 hx y d8_13 #[rv v0_, iv 1, rv v1_, iv 1, iv 4, iv 1, iv v3_] rfl ?_
  refine sJ X3 hx y d8_15 rfl ?_
  refine oS (XS.sipush X3.here hx rfl (hb y d8_17)) ?_
  by_cases hc6 : (255 : Int32) < v3_
  ·
   refine sV X3 hx y d8_20 (tlt hc6).2.2.2 ?_
   refine sJ X3 hx y d8_23 rfl ?_
   exact own_retI X3 hx hr hl (hb y d8_25) (by decide) (by decide) (by rw [e3]; exact Or.inr (Or.inl ⟨hc2, hc6, rfl, N3, K3, V3⟩))
  ·
   refine sU X3 hx y d8_20 (flt hc6).2.2.2 26 (by decide) ?_
   refine sA X3 hx y d8_26 rfl rfl ?_
   refine sI X3 hx y d8_27 rfl ?_
   refine sJ X3 hx y d8_28 rfl ?_
   refine oS (XS.i2b X3.here hx rfl (hb y d8_30) rfl) ?_
   obtain ⟨c7, r7, q7, t7, u7, y7h, y7g⟩ := id V3
   have i7 : ¬ ((1 : Int32) < 0 ∨ c7.slots.size ≤ ((1 : Int32)).toNatClampNeg) := inb_of t7 ⟨by decide, by decide⟩
   obtain ⟨T7, h7, X7, e7, W7, st7⟩ := stB X3 hx hZ e3 r7 (j := (1 : Int32)) i7 (g := (mkF m 31 #[rv v0_, iv 1, rv v1_, iv 1, iv 4, iv 1, iv v3_] [.int (v3_.toInt8.toInt32), .int 1, .ref v1_])) rfl rfl (hb y d8_31)
   refine own_step st7 ?_
   have N7 := Fr.snoc X7 N3 U2
   have K7 := K3.wr W7 (Or.inl (by simp))
   have V7 : Arv Z h7 v1_ v7_ .byte 4 [(.int (oBy v2_)), (.int (oBy v3_)), (.int 0), (.int 0)] (.int 0) := Arv.set r7 q7 t7 u7 y7h y7g (fits_nar_byte _) W7 1 rfl (Nat.le_of_ble_eq_true rfl)
   refine sY X7 hx y d8_32 #[rv v0_, iv ((1 : Int32) + (1 : Int32)), rv v1_, iv 1, iv 4, iv 1, iv v3_] rfl rfl ?_
   rw [(by decide : ((1 : Int32) + (1 : Int32)) = (2 : Int32))]
   refine sY X7 hx y d8_35 #[rv v0_, iv 2, rv v1_, iv ((1 : Int32) + (1 : Int32)), iv 4, iv 1, iv v3_] rfl rfl ?_
   rw [(by decide : ((1 : Int32) + (1 : Int32)) = (2 : Int32))]
   refine sY X7 hx y d8_38 #[rv v0_, iv 2, rv v1_, iv 2, iv 4, iv ((1 : Int32) + (1 : Int32)), iv v3_] rfl rfl ?_
   rw [(by decide : ((1 : Int32) + (1 : Int32)) = (2 : Int32))]
   refine sR X7 hx y d8_41 3 (by decide) ?_
   refine sJ X7 hx y d8_3 rfl ?_
   refine sJ X7 hx y d8_5 rfl ?_
   refine sV X7 hx y d8_7 (by decide) ?_
   refine sA X7 hx y d8_10 rfl rfl ?_
   refine sI X7 hx y d8_11 rfl ?_
   have f8 := (f4.other W7 U3)
   obtain ⟨c9, r9, q9, t9, u9, y9h, y9g⟩ := id f8
   have i9 : ¬ ((2 : Int32) < 0 ∨ c9.slots.size ≤ ((2 : Int32)).toNatClampNeg) := inb_of t9 ⟨by decide, by decide⟩
   refine own_step (fun _ k => X7.caload hx (j := (2 : Int32)) (v := (.int v4_)) (by rw [e7]; exact r9.1) (State.isArrayOf_alike hZ.alike r9.2.1) r9.2.2 i9 (own_get t9 y9h i9 2 rfl) (g := (mkF m 12 #[rv v0_, iv 2, rv v1_, iv 2, iv 4, iv 2, iv v3_] [.int 2, .ref v0_])) rfl rfl (hb y d8_12) _ k) ?_
   refine sO X7 hx y d8_13 #[rv v0_, iv 2, rv v1_, iv 2, iv 4, iv 2, iv v4_] rfl ?_
   refine sJ X7 hx y d8_15 rfl ?_
   refine oS (XS.sipush X7.here hx rfl (hb y d8_17)) ?_
   by_cases hc10 : (255 : Int32) < v4_
   ·
    refine sV X7 hx y d8_20 (tlt hc10).2.2.2 ?_
    refine sJ X7 hx y d8_23 rfl ?_
    exact own_retI X7 hx hr hl (hb y d8_25) (by decide) (by decide) (by rw [e7]; exact Or.inr (Or.inr (Or.inl ⟨hc2, hc6, hc10, rfl, N7, K7, V7⟩)))
   ·
    refine sU X7 hx y d8_20 (flt hc10).2.2.2 26 (by decide) ?_
    refine sA X7 hx y d8_26 rfl rfl ?_
    refine sI X7 hx y d8_27 rfl ?_
    refine sJ X7 hx y d8_28 rfl ?_
    refine oS (XS.i2b X7.here hx rfl (hb y d8_30) rfl) ?_
    obtain ⟨c11, r11, q11, t11, u11, y11h, y11g⟩ := id V7
    have i11 : ¬ ((2 : Int32) < 0 ∨ c11.slots.size ≤ ((2 : Int32)).toNatClampNeg) := inb_of t11 ⟨by decide, by decide⟩
    obtain ⟨T11, h11, X11, e11, W11, st11⟩ := stB X7 hx hZ e7 r11 (j := (2 : Int32)) i11 (g := (mkF m 31 #[rv v0_, iv 2, rv v1_, iv 2, iv 4, iv 2, iv v4_] [.int (v4_.toInt8.toInt32), .int 2, .ref v1_])) rfl rfl (hb y d8_31)
    refine own_step st11 ?_
    have N11 := Fr.snoc X11 N7 U2
    have K11 := K7.wr W11 (Or.inl (by simp))
    have V11 : Arv Z h11 v1_ v7_ .byte 4 [(.int (oBy v2_)), (.int (oBy v3_)), (.int (oBy v4_)), (.int 0)] (.int 0) := Arv.set r11 q11 t11 u11 y11h y11g (fits_nar_byte _) W11 2 rfl (Nat.le_of_ble_eq_true rfl)
    refine sY X11 hx y d8_32 #[rv v0_, iv ((2 : Int32) + (1 : Int32)), rv v1_, iv 2, iv 4, iv 2, iv v4_] rfl rfl ?_
    rw [(by decide : ((2 : Int32) + (1 : Int32)) = (3 : Int32))]
    refine sY X11 hx y d8_35 #[rv v0_, iv 3, rv v1_, iv ((2 : Int32) + (1 : Int32)), iv 4, iv 2, iv v4_] rfl rfl ?_
    rw [(by decide : ((2 : Int32) + (1 : Int32)) = (3 : Int32))]
    refine sY X11 hx y d8_38 #[rv v0_, iv 3, rv v1_, iv 3, iv 4, iv ((2 : Int32) + (1 : Int32)), iv v4_] rfl rfl ?_
    rw [(by decide : ((2 : Int32) + (1 : Int32)) = (3 : Int32))]
    refine sR X11 hx y d8_41 3 (by decide) ?_
    refine sJ X11 hx y d8_3 rfl ?_
    refine sJ X11 hx y d8_5 rfl ?_
    refine sV X11 hx y d8_7 (by decide) ?_
    refine sA X11 hx y d8_10 rfl rfl ?_
    refine sI X11 hx y d8_11 rfl ?_
    have f12 := (f8.other W11 U3)
    obtain ⟨c13, r13, q13, t13, u13, y13h, y13g⟩ := id f12
    have i13 : ¬ ((3 : Int32) < 0 ∨ c13.slots.size ≤ ((3 : Int32)).toNatClampNeg) := inb_of t13 ⟨by decide, by decide⟩
    refine own_step (fun _ k => X11.caload hx (j := (3 : Int32)) (v := (.int v5_)) (by rw [e11]; exact r13.1) (State.isArrayOf_alike hZ.alike r13.2.1) r13.2.2 i13 (own_get t13 y13h i13 3 rfl) (g := (mkF m 12 #[rv v0_, iv 3, rv v1_, iv 3, iv 4, iv 3, iv v4_] [.int 3, .ref v0_])) rfl rfl (hb y d8_12) _ k) ?_
    refine sO X11 hx y d8_13 #[rv v0_, iv 3, rv v1_, iv 3, iv 4, iv 3, iv v5_] rfl ?_
    refine sJ X11 hx y d8_15 rfl ?_
    refine oS (XS.sipush X11.here hx rfl (hb y d8_17)) ?_
    by_cases hc14 : (255 : Int32) < v5_
    ·
     refine sV X11 hx y d8_20 (tlt hc14).2.2.2 ?_
     refine sJ X11 hx y d8_23 rfl ?_
     exact own_retI X11 hx hr hl (hb y d8_25) (by decide) (by decide) (by rw [e11]; exact Or.inr (Or.inr (Or.inr (Or.inl ⟨hc2, hc6, hc10, hc14, rfl, N11, K11, V11⟩))))
    ·
     refine sU X11 hx y d8_20 (flt hc14).2.2.2 26 (by decide) ?_
     refine sA X11 hx y d8_26 rfl rfl ?_
     refine sI X11 hx y d8_27 rfl ?_
     refine sJ X11 hx y d8_28 rfl ?_
     refine oS (XS.i2b X11.here hx rfl (hb y d8_30) rfl) ?_
     obtain ⟨c15, r15, q15, t15, u15, y15h, y15g⟩ := id V11
     have i15 : ¬ ((3 : Int32) < 0 ∨ c15.slots.size ≤ ((3 : Int32)).toNatClampNeg) := inb_of t15 ⟨by decide, by decide⟩
     obtain ⟨T15, h15, X15, e15, W15, st15⟩ := stB X11 hx hZ e11 r15 (j := (3 : Int32)) i15 (g := (mkF m 31 #[rv v0_, iv 3, rv v1_, iv 3, iv 4, iv 3, iv v5_] [.int (v5_.toInt8.toInt32), .int 3, .ref v1_])) rfl rfl (hb y d8_31)
     refine own_step st15 ?_
     have N15 := Fr.snoc X15 N11 U2
     have K15 := K11.wr W15 (Or.inl (by simp))
     have V15 : Arv Z h15 v1_ v7_ .byte 4 [(.int (oBy v2_)), (.int (oBy v3_)), (.int (oBy v4_)), (.int (oBy v5_))] (.int 0) := Arv.set r15 q15 t15 u15 y15h y15g (fits_nar_byte _) W15 3 rfl (Nat.le_of_ble_eq_true rfl)
     refine sY X15 hx y d8_32 #[rv v0_, iv ((3 : Int32) + (1 : Int32)), rv v1_, iv 3, iv 4, iv 3, iv v5_] rfl rfl ?_
     rw [(by decide : ((3 : Int32) + (1 : Int32)) = (4 : Int32))]
     refine sY X15 hx y d8_35 #[rv v0_, iv 4, rv v1_, iv ((3 : Int32) + (1 : Int32)), iv 4, iv 3, iv v5_] rfl rfl ?_
     rw [(by decide : ((3 : Int32) + (1 : Int32)) = (4 : Int32))]
     refine sY X15 hx y d8_38 #[rv v0_, iv 4, rv v1_, iv 4, iv 4, iv ((3 : Int32) + (1 : Int32)), iv v5_] rfl rfl ?_
     rw [(by decide : ((3 : Int32) + (1 : Int32)) = (4 : Int32))]
     refine sR X15 hx y d8_41 3 (by decide) ?_
     refine sJ X15 hx y d8_3 rfl ?_
     refine sJ X15 hx y d8_5 rfl ?_
     refine sU X15 hx y d8_7 (by decide) 44 (by decide) ?_
     refine sJ X15 hx y d8_44 rfl ?_
     exact own_retI X15 hx hr hl (hb y d8_46) (by decide) (by decide) (by rw [e15]; exact Or.inr (Or.inr (Or.inr (Or.inr (⟨hc2, hc6, hc10, hc14, rfl, N15, K15, V15⟩)))))


theorem rm29_135  :
  oM hw hS O0 l y29 cd29 (oR 0 0 0 0) #[.int 4] (fun v h L => (v = some (.int 8) ∧ Fr n0 L ∧ h = h0)) := by
 refine own_met (own := "java/lang/StringUTF16") (plainFor_of_name pn14) rfl ?_
 intro p e s m u mt c s₁ hx y hml ho hq hr hl hZ e0 X0
 refine own_cast (g' := (mkF m 0 #[iv 4] [])) rfl ?_
 refine sI X0 hx y d29_0 rfl ?_
 refine sS X0 hx y d29_1 (by decide) 12 (by decide) ?_
 refine sI X0 hx y d29_12 rfl ?_
 refine own_step (X0.ldcInt hx ho (mvT hZ (oW hw 129 rfl)) (g := (mkF m 13 #[iv 4] [.int 4])) rfl (hb y d29_13)) ?_
 refine sU X0 hx y d29_15 (by decide) 55 (by decide) ?_
 refine sI X0 hx y d29_55 rfl ?_
 refine sC X0 hx y d29_56 ?_
 refine sL X0 hx y d29_57 ?_
 refine oV (b := 8) (by decide) ?_
 exact own_retI X0 hx hr hl (hb y d29_58) (by decide) (by decide) (by rw [e0]; exact ⟨rfl, (Fr.nil n0), rfl⟩)


theorem rm28_136  :
  oM hw hS O0 l y28 cd28 (oR 1 1 8 12) #[.int 4] (fun v h L => (∃ (b2 : Addr) (k2 : ClassId), v = some (.ref b2) ∧ Fr n0 L ∧ Keep h0 h [] ∧ h0.size ≤ b2 ∧ Arv Z h b2 k2 .byte 8 [(.int 0), (.int 0), (.int 0), (.int 0), (.int 0), (.int 0), (.int 0), (.int 0)] (.int 0))) := by
 refine own_met (own := "java/lang/StringUTF16") (plainFor_of_name pn14) rfl ?_
 intro p e s m u mt c s₁ hx y hml ho hq hr hl hZ e0 X0
 refine own_cast (g' := (mkF m 0 #[iv 4] [])) rfl ?_
 refine sI X0 hx y d28_0 rfl ?_
 refine oCS X0 hx hZ ho (oW hw 126 rfl) (bu21 hw) (rm29_135 hw hS O0) 0 (by decide) [.int 4] rfl (lenOf pd22 rfl) hml rfl rfl rfl y d28_1 e0 ?_
 rintro _ T1 _ X1 ⟨rfl, N1q, e1⟩
 have N1 := Fr.app (Fr.nil n0) N1q
 obtain ⟨T2, h2, k2, X2, e2, E2, A2, st2⟩ := newP X1 hx hZ (oW hw 31 rfl) e1 (g := (mkF m 4 #[iv 4] [.int 8])) rfl (hb y d28_4) rfl (by decide) (cap := 8) (by decide) (by decide) (by decide) (by decide)
 obtain ⟨b2, z2⟩ : ∃ z, z = h0.size := ⟨_, rfl⟩
 rw [← z2] at A2 st2
 refine own_step st2 ?_
 have y2 : h0.size ≤ b2 := Nat.le_trans (Nat.le_refl _) (Nat.le_of_eq z2.symm)
 have K2 := (Keep.refl h0 []).ext E2
 have V2 : Arv Z h2 b2 k2 .byte 8 [(.int 0), (.int 0), (.int 0), (.int 0), (.int 0), (.int 0), (.int 0), (.int 0)] (.int 0) := (Arv.new A2 (by decide)).pad (pad_rep [] (.int 0) 8)
 exact own_retA X2 hx hr rfl rfl hl (hb y d28_6) (by decide) (by decide) (by rw [e2]; exact ⟨b2, k2, rfl, N1, K2, y2, V2⟩)


theorem rm30_137 (v0_ : Addr) (v1_ : Int32) (v2_ : ClassId) (U0 : Arv Z h0 v0_ v2_ .byte 8 [(.int 0), (.int 0), (.int 0), (.int 0), (.int 0), (.int 0), (.int 0), (.int 0)] (.int 0)) (U1 : n0 ≤ v0_) :
  oM hw hS O0 l y30 cd30 (oR 0 0 0 0) #[.ref v0_, .int 0, .int v1_] (fun v h L => (v = none ∧ Fr n0 L ∧ Keep h0 h [v0_] ∧ Arv Z h v0_ v2_ .byte 8 [(.int (oLo v1_)), (.int (oHi v1_)), (.int 0), (.int 0), (.int 0), (.int 0), (.int 0), (.int 0)] (.int 0))) := by
 refine own_met (own := "java/lang/StringUTF16") (plainFor_of_name pn14) rfl ?_
 intro p e s m u mt c s₁ hx y hml ho hq hr hl hZ e0 X0
 refine own_cast (g' := (mkF m 0 #[rv v0_, iv 0, iv v1_] [])) rfl ?_
 obtain ⟨T1, X1, e1, st1⟩ := getS2 X0 hx hZ ho (host := "") (Or.inl (oW hw 133 rfl)) Via.refl e0 ((si0 hw hS).ext O0.2) (g := (mkF m 0 #[rv v0_, iv 0, iv v1_] [])) rfl (hb y d30_0)
 refine own_step st1 ?_
 refine sS X1 hx y d30_3 (by decide) 28 (by decide) ?_
 refine sI X1 hx y d30_28 rfl ?_
 refine sC X1 hx y d30_29 ?_
 refine sL X1 hx y d30_30 ?_
 refine oV (b := 0) (by decide) ?_
 refine sN X1 hx y d30_31 #[rv v0_, iv 0, iv v1_] rfl ?_
 refine sA X1 hx y d30_32 rfl rfl ?_
 refine sI X1 hx y d30_33 rfl ?_
 refine sY X1 hx y d30_34 #[rv v0_, iv ((0 : Int32) + (1 : Int32)), iv v1_] rfl rfl ?_
 rw [(by decide : ((0 : Int32) + (1 : Int32)) = (1 : Int32))]
 refine sI X1 hx y d30_37 rfl ?_
 obtain ⟨T2, X2, e2, st2⟩ := getS2 X1 hx hZ ho (host := "") (Or.inl (oW hw 134 rfl)) Via.refl e1 ((si1 hw hS).ext O0.2) (g := (mkF m 38 #[rv v0_, iv 1, iv v1_] [.int v1_, .int 0, .ref v0_])) rfl (hb y d30_38)
 refine own_step st2 ?_
 refine sM X2 hx y d30_41 ?_
 refine oS (XS.i2b X2.here hx rfl (hb y d30_42) rfl) ?_
 obtain ⟨c3, r3, q3, t3, u3, y3h, y3g⟩ := id U0
 have i3 : ¬ ((0 : Int32) < 0 ∨ c3.slots.size ≤ ((0 : Int32)).toNatClampNeg) := inb_of t3 ⟨by decide, by decide⟩
 obtain ⟨T3, h3, X3, e3, W3, st3⟩ := stB X2 hx hZ e2 r3 (j := (0 : Int32)) i3 (g := (mkF m 43 #[rv v0_, iv 1, iv v1_] [.int ((v1_ >>> ((0 : Int32) &&& 31)).toInt8.toInt32), .int 0, .ref v0_])) rfl rfl (hb y d30_43)
 refine own_step st3 ?_
 have N3 := Fr.snoc X3 (Fr.nil n0) U1
 have O3 := O0.wr W3 U1
 have K3 := (Keep.refl h0 [v0_]).wr W3 (Or.inl (by simp))
 have V3 : Arv Z h3 v0_ v2_ .byte 8 [(.int (oLo v1_)), (.int 0), (.int 0), (.int 0), (.int 0), (.int 0), (.int 0), (.int 0)] (.int 0) := Arv.set r3 q3 t3 u3 y3h y3g (fits_nar_byte _) W3 0 rfl (Nat.le_of_ble_eq_true rfl)
 refine sA X3 hx y d30_44 rfl rfl ?_
 refine sI X3 hx y d30_45 rfl ?_
 refine sI X3 hx y d30_46 rfl ?_
 obtain ⟨T4, X4, e4, st4⟩ := getS2 X3 hx hZ ho (host := "") (Or.inl (oW hw 135 rfl)) Via.refl e3 ((si2 hw hS).ext O3.2) (g := (mkF m 47 #[rv v0_, iv 1, iv v1_] [.int v1_, .int 1, .ref v0_])) rfl (hb y d30_47)
 refine own_step st4 ?_
 refine sM X4 hx y d30_50 ?_
 refine oS (XS.i2b X4.here hx rfl (hb y d30_51) rfl) ?_
 obtain ⟨c5, r5, q5, t5, u5, y5h, y5g⟩ := id V3
 have i5 : ¬ ((1 : Int32) < 0 ∨ c5.slots.size ≤ ((1 : Int32)).toNatClampNeg) := inb_of t5 ⟨by decide, by decide⟩
 obtain ⟨T5, h5, X5, e5, W5, st5⟩ := stB X4 hx hZ e4 r5 (j := (1 : Int32)) i5 (g := (mkF m 52 #[rv v0_, iv 1, iv v1_] [.int ((v1_ >>> ((8 : Int32) &&& 31)).toInt8.toInt32), .int 1, .ref v0_])) rfl rfl (hb y d30_52)
 refine own_step st5 ?_
 have N5 := Fr.snoc X5 N3 U1
 have K5 := K3.wr W5 (Or.inl (by simp))
 have V5 : Arv Z h5 v0_ v2_ .byte 8 [(.int (oLo v1_)), (.int (oHi v1_)), (.int 0), (.int 0), (.int 0), (.int 0), (.int 0), (.int 0)] (.int 0) := Arv.set r5 q5 t5 u5 y5h y5g (fits_nar_byte _) W5 1 rfl (Nat.le_of_ble_eq_true rfl)
 exact own_retV X5 hx hr hl (hb y d30_53) (by decide) (by decide) (by rw [e5]; exact ⟨rfl, N5, K5, V5⟩)


theorem rm30_138 (v0_ : Addr) (v1_ v2_ : Int32) (v3_ : ClassId) (U0 : Arv Z h0 v0_ v3_ .byte 8 [(.int (oLo v2_)), (.int (oHi v2_)), (.int 0), (.int 0), (.int 0), (.int 0), (.int 0), (.int 0)] (.int 0)) (U1 : n0 ≤ v0_) :
  oM hw hS O0 l y30 cd30 (oR 0 0 0 0) #[.ref v0_, .int 1, .int v1_] (fun v h L => (v = none ∧ Fr n0 L ∧ Keep h0 h [v0_] ∧ Arv Z h v0_ v3_ .byte 8 [(.int (oLo v2_)), (.int (oHi v2_)), (.int (oLo v1_)), (.int (oHi v1_)), (.int 0), (.int 0), (.int 0), (.int 0)] (.int 0))) := by
 refine own_met (own := "java/lang/StringUTF16") (plainFor_of_name pn14) rfl ?_
 intro p e s m u mt c s₁ hx y hml ho hq hr hl hZ e0 X0
 refine own_cast (g' := (mkF m 0 #[rv v0_, iv 1, iv v1_] [])) rfl ?_
 obtain ⟨T1, X1, e1, st1⟩ := getS2 X0 hx hZ ho (host := "") (Or.inl (oW hw 133 rfl)) Via.refl e0 ((si0 hw hS).ext O0.2) (g := (mkF m 0 #[rv v0_, iv 1, iv v1_] [])) rfl (hb y d30_0)
 refine own_step st1 ?_
 refine sS X1 hx y d30_3 (by decide) 28 (by decide) ?_
 refine sI X1 hx y d30_28 rfl ?_
 refine sC X1 hx y d30_29 ?_
 refine sL X1 hx y d30_30 ?_
 refine oV (b := 2) (by decide) ?_
 refine sN X1 hx y d30_31 #[rv v0_, iv 2, iv v1_] rfl ?_
 refine sA X1 hx y d30_32 rfl rfl ?_
 refine sI X1 hx y d30_33 rfl ?_
 refine sY X1 hx y d30_34 #[rv v0_, iv ((2 : Int32) + (1 : Int32)), iv v1_] rfl rfl ?_
 rw [(by decide : ((2 : Int32) + (1 : Int32)) = (3 : Int32))]
 refine sI X1 hx y d30_37 rfl ?_
 obtain ⟨T2, X2, e2, st2⟩ := getS2 X1 hx hZ ho (host := "") (Or.inl (oW hw 134 rfl)) Via.refl e1 ((si1 hw hS).ext O0.2) (g := (mkF m 38 #[rv v0_, iv 3, iv v1_] [.int v1_, .int 2, .ref v0_])) rfl (hb y d30_38)
 refine own_step st2 ?_
 refine sM X2 hx y d30_41 ?_
 refine oS (XS.i2b X2.here hx rfl (hb y d30_42) rfl) ?_
 obtain ⟨c3, r3, q3, t3, u3, y3h, y3g⟩ := id U0
 have i3 : ¬ ((2 : Int32) < 0 ∨ c3.slots.size ≤ ((2 : Int32)).toNatClampNeg) := inb_of t3 ⟨by decide, by decide⟩
 obtain ⟨T3, h3, X3, e3, W3, st3⟩ := stB X2 hx hZ e2 r3 (j := (2 : Int32)) i3 (g := (mkF m 43 #[rv v0_, iv 3, iv v1_] [.int ((v1_ >>> ((0 : Int32) &&& 31)).toInt8.toInt32), .int 2, .ref v0_])) rfl rfl (hb y d30_43)
 refine own_step st3 ?_
 have N3 := Fr.snoc X3 (Fr.nil n0) U1
 have O3 := O0.wr W3 U1
 have K3 := (Keep.refl h0 [v0_]).wr W3 (Or.inl (by simp))
 have V3 : Arv Z h3 v0_ v3_ .byte 8 [(.int (oLo v2_)), (.int (oHi v2_)), (.int (oLo v1_)), (.int 0), (.int 0), (.int 0), (.int 0), (.int 0)] (.int 0) := Arv.set r3 q3 t3 u3 y3h y3g (fits_nar_byte _) W3 2 rfl (Nat.le_of_ble_eq_true rfl)
 refine sA X3 hx y d30_44 rfl rfl ?_
 refine sI X3 hx y d30_45 rfl ?_
 refine sI X3 hx y d30_46 rfl ?_
 obtain ⟨T4, X4, e4, st4⟩ := getS2 X3 hx hZ ho (host := "") (Or.inl (oW hw 135 rfl)) Via.refl e3 ((si2 hw hS).ext O3.2) (g := (mkF m 47 #[rv v0_, iv 3, iv v1_] [.int v1_, .int 3, .ref v0_])) rfl (hb y d30_47)
 refine own_step st4 ?_
 refine sM X4 hx y d30_50 ?_
 refine oS (XS.i2b X4.here hx rfl (hb y d30_51) rfl) ?_
 obtain ⟨c5, r5, q5, t5, u5, y5h, y5g⟩ := id V3
 have i5 : ¬ ((3 : Int32) < 0 ∨ c5.slots.size ≤ ((3 : Int32)).toNatClampNeg) := inb_of t5 ⟨by decide, by decide⟩
 obtain ⟨T5, h5, X5, e5, W5, st5⟩ := stB X4 hx hZ e4 r5 (j := (3 : Int32)) i5 (g := (mkF m 52 #[rv v0_, iv 3, iv v1_] [.int ((v1_ >>> ((8 : Int32) &&& 31)).toInt8.toInt32), .int 3, .ref v0_])) rfl rfl (hb y d30_52)
 refine own_step st5 ?_
 have N5 := Fr.snoc X5 N3 U1
 have K5 := K3.wr W5 (Or.inl (by simp))
 have V5 : Arv Z h5 v0_ v3_ .byte 8 [(.int (oLo v2_)), (.int (oHi v2_)), (.int (oLo v1_)), (.int (oHi v1_)), (.int 0), (.int 0), (.int 0), (.int 0)] (.int 0) := Arv.set r5 q5 t5 u5 y5h y5g (fits_nar_byte _) W5 3 rfl (Nat.le_of_ble_eq_true rfl)
 exact own_retV X5 hx hr hl (hb y d30_53) (by decide) (by decide) (by rw [e5]; exact ⟨rfl, N5, K5, V5⟩)


theorem rm30_139 (v0_ : Addr) (v1_ v2_ v3_ : Int32) (v4_ : ClassId) (U0 : Arv Z h0 v0_ v4_ .byte 8 [(.int (oLo v2_)), (.int (oHi v2_)), (.int (oLo v3_)), (.int (oHi v3_)), (.int 0), (.int 0), (.int 0), (.int 0)] (.int 0)) (U1 : n0 ≤ v0_) :
  oM hw hS O0 l y30 cd30 (oR 0 0 0 0) #[.ref v0_, .int 2, .int v1_] (fun v h L => (v = none ∧ Fr n0 L ∧ Keep h0 h [v0_] ∧ Arv Z h v0_ v4_ .byte 8 [(.int (oLo v2_)), (.int (oHi v2_)), (.int (oLo v3_)), (.int (oHi v3_)), (.int (oLo v1_)), (.int (oHi v1_)), (.int 0), (.int 0)] (.int 0))) := by
 refine own_met (own := "java/lang/StringUTF16") (plainFor_of_name pn14) rfl ?_
 intro p e s m u mt c s₁ hx y hml ho hq hr hl hZ e0 X0
 refine own_cast (g' := (mkF m 0 #[rv v0_, iv 2, iv v1_] [])) rfl ?_
 obtain ⟨T1, X1, e1, st1⟩ := getS2 X0 hx hZ ho (host := "") (Or.inl (oW hw 133 rfl)) Via.refl e0 ((si0 hw hS).ext O0.2) (g := (mkF m 0 #[rv v0_, iv 2, iv v1_] [])) rfl (hb y d30_0)
 refine own_step st1 ?_
 refine sS X1 hx y d30_3 (by decide) 28 (by decide) ?_
 refine sI X1 hx y d30_28 rfl ?_
 refine sC X1 hx y d30_29 ?_
 refine sL X1 hx y d30_30 ?_
 refine oV (b := 4) (by decide) ?_
 refine sN X1 hx y d30_31 #[rv v0_, iv 4, iv v1_] rfl ?_
 refine sA X1 hx y d30_32 rfl rfl ?_
 refine sI X1 hx y d30_33 rfl ?_
 refine sY X1 hx y d30_34 #[rv v0_, iv ((4 : Int32) + (1 : Int32)), iv v1_] rfl rfl ?_
 rw [(by decide : ((4 : Int32) + (1 : Int32)) = (5 : Int32))]
 refine sI X1 hx y d30_37 rfl ?_
 obtain ⟨T2, X2, e2, st2⟩ := getS2 X1 hx hZ ho (host := "") (Or.inl (oW hw 134 rfl)) Via.refl e1 ((si1 hw hS).ext O0.2) (g := (mkF m 38 #[rv v0_, iv 5, iv v1_] [.int v1_, .int 4, .ref v0_])) rfl (hb y d30_38)
 refine own_step st2 ?_
 refine sM X2 hx y d30_41 ?_
 refine oS (XS.i2b X2.here hx rfl (hb y d30_42) rfl) ?_
 obtain ⟨c3, r3, q3, t3, u3, y3h, y3g⟩ := id U0
 have i3 : ¬ ((4 : Int32) < 0 ∨ c3.slots.size ≤ ((4 : Int32)).toNatClampNeg) := inb_of t3 ⟨by decide, by decide⟩
 obtain ⟨T3, h3, X3, e3, W3, st3⟩ := stB X2 hx hZ e2 r3 (j := (4 : Int32)) i3 (g := (mkF m 43 #[rv v0_, iv 5, iv v1_] [.int ((v1_ >>> ((0 : Int32) &&& 31)).toInt8.toInt32), .int 4, .ref v0_])) rfl rfl (hb y d30_43)
 refine own_step st3 ?_
 have N3 := Fr.snoc X3 (Fr.nil n0) U1
 have O3 := O0.wr W3 U1
 have K3 := (Keep.refl h0 [v0_]).wr W3 (Or.inl (by simp))
 have V3 : Arv Z h3 v0_ v4_ .byte 8 [(.int (oLo v2_)), (.int (oHi v2_)), (.int (oLo v3_)), (.int (oHi v3_)), (.int (oLo v1_)), (.int 0), (.int 0), (.int 0)] (.int 0) := Arv.set r3 q3 t3 u3 y3h y3g (fits_nar_byte _) W3 4 rfl (Nat.le_of_ble_eq_true rfl)
 refine sA X3 hx y d30_44 rfl rfl ?_
 refine sI X3 hx y d30_45 rfl ?_
 refine sI X3 hx y d30_46 rfl ?_
 obtain ⟨T4, X4, e4, st4⟩ := getS2 X3 hx hZ ho (host := "") (Or.inl (oW hw 135 rfl)) Via.refl e3 ((si2 hw hS).ext O3.2) (g := (mkF m 47 #[rv v0_, iv 5, iv v1_] [.int v1_, .int 5, .ref v0_])) rfl (hb y d30_47)
 refine own_step st4 ?_
 refine sM X4 hx y d30_50 ?_
 refine oS (XS.i2b X4.here hx rfl (hb y d30_51) rfl) ?_
 obtain ⟨c5, r5, q5, t5, u5, y5h, y5g⟩ := id V3
 have i5 : ¬ ((5 : Int32) < 0 ∨ c5.slots.size ≤ ((5 : Int32)).toNatClampNeg) := inb_of t5 ⟨by decide, by decide⟩
 obtain ⟨T5, h5, X5, e5, W5, st5⟩ := stB X4 hx hZ e4 r5 (j := (5 : Int32)) i5 (g := (mkF m 52 #[rv v0_, iv 5, iv v1_] [.int ((v1_ >>> ((8 : Int32) &&& 31)).toInt8.toInt32), .int 5, .ref v0_])) rfl rfl (hb y d30_52)
 refine own_step st5 ?_
 have N5 := Fr.snoc X5 N3 U1
 have K5 := K3.wr W5 (Or.inl (by simp))
 have V5 : Arv Z h5 v0_ v4_ .byte 8 [(.int (oLo v2_)), (.int (oHi v2_)), (.int (oLo v3_)), (.int (oHi v3_)), (.int (oLo v1_)), (.int (oHi v1_)), (.int 0), (.int 0)] (.int 0) := Arv.set r5 q5 t5 u5 y5h y5g (fits_nar_byte _) W5 5 rfl (Nat.le_of_ble_eq_true rfl)
 exact own_retV X5 hx hr hl (hb y d30_53) (by decide) (by decide) (by rw [e5]; exact ⟨rfl, N5, K5, V5⟩)


theorem rm30_140 (v0_ : Addr) (v1_ v2_ v3_ v4_ : Int32) (v5_ : ClassId) (U0 : Arv Z h0 v0_ v5_ .byte 8 [(.int (oLo v2_)), (.int (oHi v2_)), (.int (oLo v3_)), (.int (oHi v3_)), (.int (oLo v4_)), (.int (oHi v4_)), (.int 0), (.int 0)] (.int 0)) (U1 : n0 ≤ v0_) :
  oM hw hS O0 l y30 cd30 (oR 0 0 0 0) #[.ref v0_, .int 3, .int v1_] (fun v h L => (v = none ∧ Fr n0 L ∧ Keep h0 h [v0_] ∧ Arv Z h v0_ v5_ .byte 8 [(.int (oLo v2_)), (.int (oHi v2_)), (.int (oLo v3_)), (.int (oHi v3_)), (.int (oLo v4_)), (.int (oHi v4_)), (.int (oLo v1_)), (.int (oHi v1_))] (.int 0))) := by
 refine own_met (own := "java/lang/StringUTF16") (plainFor_of_name pn14) rfl ?_
 intro p e s m u mt c s₁ hx y hml ho hq hr hl hZ e0 X0
 refine own_cast (g' := (mkF m 0 #[rv v0_, iv 3, iv v1_] [])) rfl ?_
 obtain ⟨T1, X1, e1, st1⟩ := getS2 X0 hx hZ ho (host := "") (Or.inl (oW hw 133 rfl)) Via.refl e0 ((si0 hw hS).ext O0.2) (g := (mkF m 0 #[rv v0_, iv 3, iv v1_] [])) rfl (hb y d30_0)
 refine own_step st1 ?_
 refine sS X1 hx y d30_3 (by decide) 28 (by decide) ?_
 refine sI X1 hx y d30_28 rfl ?_
 refine sC X1 hx y d30_29 ?_
 refine sL X1 hx y d30_30 ?_
 refine oV (b := 6) (by decide) ?_
 refine sN X1 hx y d30_31 #[rv v0_, iv 6, iv v1_] rfl ?_
 refine sA X1 hx y d30_32 rfl rfl ?_
 refine sI X1 hx y d30_33 rfl ?_
 refine sY X1 hx y d30_34 #[rv v0_, iv ((6 : Int32) + (1 : Int32)), iv v1_] rfl rfl ?_
 rw [(by decide : ((6 : Int32) + (1 : Int32)) = (7 : Int32))]
 refine sI X1 hx y d30_37 rfl ?_
 obtain ⟨T2, X2, e2, st2⟩ := getS2 X1 hx hZ ho (host := "") (Or.inl (oW hw 134 rfl)) Via.refl e1 ((si1 hw hS).ext O0.2) (g := (mkF m 38 #[rv v0_, iv 7, iv v1_] [.int v1_, .int 6, .ref v0_])) rfl (hb y d30_38)
 refine own_step st2 ?_
 refine sM X2 hx y d30_41 ?_
 refine oS (XS.i2b X2.here hx rfl (hb y d30_42) rfl) ?_
 obtain ⟨c3, r3, q3, t3, u3, y3h, y3g⟩ := id U0
 have i3 : ¬ ((6 : Int32) < 0 ∨ c3.slots.size ≤ ((6 : Int32)).toNatClampNeg) := inb_of t3 ⟨by decide, by decide⟩
 obtain ⟨T3, h3, X3, e3, W3, st3⟩ := stB X2 hx hZ e2 r3 (j := (6 : Int32)) i3 (g := (mkF m 43 #[rv v0_, iv 7, iv v1_] [.int ((v1_ >>> ((0 : Int32) &&& 31)).toInt8.toInt32), .int 6, .ref v0_])) rfl rfl (hb y d30_43)
 refine own_step st3 ?_
 have N3 := Fr.snoc X3 (Fr.nil n0) U1
 have O3 := O0.wr W3 U1
 have K3 := (Keep.refl h0 [v0_]).wr W3 (Or.inl (by simp))
 have V3 : Arv Z h3 v0_ v5_ .byte 8 [(.int (oLo v2_)), (.int (oHi v2_)), (.int (oLo v3_)), (.int (oHi v3_)), (.int (oLo v4_)), (.int (oHi v4_)), (.int (oLo v1_)), (.int 0)] (.int 0) := Arv.set r3 q3 t3 u3 y3h y3g (fits_nar_byte _) W3 6 rfl (Nat.le_of_ble_eq_true rfl)
 refine sA X3 hx y d30_44 rfl rfl ?_
 refine sI X3 hx y d30_45 rfl ?_
 refine sI X3 hx y d30_46 rfl ?_
 obtain ⟨T4, X4, e4, st4⟩ := getS2 X3 hx hZ ho (host := "") (Or.inl (oW hw 135 rfl)) Via.refl e3 ((si2 hw hS).ext O3.2) (g := (mkF m 47 #[rv v0_, iv 7, iv v1_] [.int v1_, .int 7, .ref v0_])) rfl (hb y d30_47)
 refine own_step st4 ?_
 refine sM X4 hx y d30_50 ?_
 refine oS (XS.i2b X4.here hx rfl (hb y d30_51) rfl) ?_
 obtain ⟨c5, r5, q5, t5, u5, y5h, y5g⟩ := id V3
 have i5 : ¬ ((7 : Int32) < 0 ∨ c5.slots.size ≤ ((7 : Int32)).toNatClampNeg) := inb_of t5 ⟨by decide, by decide⟩
 obtain ⟨T5, h5, X5, e5, W5, st5⟩ := stB X4 hx hZ e4 r5 (j := (7 : Int32)) i5 (g := (mkF m 52 #[rv v0_, iv 7, iv v1_] [.int ((v1_ >>> ((8 : Int32) &&& 31)).toInt8.toInt32), .int 7, .ref v0_])) rfl rfl (hb y d30_52)
 refine own_step st5 ?_
 have N5 := Fr.snoc X5 N3 U1
 have K5 := K3.wr W5 (Or.inl (by simp))
 have V5 : Arv Z h5 v0_ v5_ .byte 8 [(.int (oLo v2_)), (.int (oHi v2_)), (.int (oLo v3_)), (.int (oHi v3_)), (.int (oLo v4_)), (.int (oHi v4_)), (.int (oLo v1_)), (.int (oHi v1_))] (.int 0) := Arv.set r5 q5 t5 u5 y5h y5g (fits_nar_byte _) W5 7 rfl (Nat.le_of_ble_eq_true rfl)
 exact own_retV X5 hx hr hl (hb y d30_53) (by decide) (by decide) (by rw [e5]; exact ⟨rfl, N5, K5, V5⟩)


theorem rm27_141 (v0_ : Addr) (v1_ v2_ v3_ v4_ : Int32) (v5_ : ClassId) (U0 : Arv Z h0 v0_ v5_ .char 4 [(.int v1_), (.int v2_), (.int v3_), (.int v4_)] (.int 0)) :
  oM hw hS O0 l y27 cd27 (oR 2 1 8 24) #[.ref v0_, .int 0, .int 4] (fun v h L => (∃ (b2 : Addr) (k3 : ClassId), v = some (.ref b2) ∧ Fr n0 L ∧ Keep h0 h [] ∧ h0.size ≤ b2 ∧ Arv Z h b2 k3 .byte 8 [(.int (oLo v1_)), (.int (oHi v1_)), (.int (oLo v2_)), (.int (oHi v2_)), (.int (oLo v3_)), (.int (oHi v3_)), (.int (oLo v4_)), (.int (oHi v4_))] (.int 0))) := by
 refine own_met (own := "java/lang/StringUTF16") (plainFor_of_name pn14) rfl ?_
 intro p e s m u mt c s₁ hx y hml ho hq hr hl hZ e0 X0
 refine own_cast (g' := (mkF m 0 #[rv v0_, iv 0, iv 4, .unset, .unset] [])) rfl ?_
 refine sI X0 hx y d27_0 rfl ?_
 refine oCS X0 hx hZ ho (oW hw 123 rfl) (bu24 hw) (rm28_136 hw hS O0) 0 (by decide) [.int 4] rfl (lenOf pd25 rfl) hml rfl rfl rfl y d27_1 e0 ?_
 rintro _ T1 _ X1 ⟨b2, k3, rfl, N1q, K1q, y1_0, F1_0⟩
 have N1 := Fr.app (Fr.nil n0) N1q
 have g1_0 : n0 ≤ b2 := Nat.le_trans (O0.1 ▸ O0.2.1) y1_0
 have ne1_0_0 : v0_ ≠ b2 := Nat.ne_of_lt (Nat.lt_of_lt_of_le U0.lt y1_0)
 have u1_0 : h0.size ≤ b2 := Nat.le_trans (Nat.le_refl _) y1_0
 have O1 := O0.keep K1q all0
 have K1 := Keep.trans (Keep.refl h0 []) K1q all0
 refine sP X1 hx y d27_4 rfl #[rv v0_, iv 0, iv 4, rv b2, .unset] rfl ?_
 refine sC X1 hx y d27_5 ?_
 refine sO X1 hx y d27_6 #[rv v0_, iv 0, iv 4, rv b2, iv 0] rfl ?_
 refine sJ X1 hx y d27_8 rfl ?_
 refine sI X1 hx y d27_10 rfl ?_
 refine sV X1 hx y d27_11 (by decide) ?_
 refine sA X1 hx y d27_14 rfl rfl ?_
 refine sJ X1 hx y d27_15 rfl ?_
 refine sA X1 hx y d27_17 rfl rfl ?_
 refine sI X1 hx y d27_18 rfl ?_
 have f4 := (U0.keep K1q nin0)
 obtain ⟨c5, r5, q5, t5, u5, y5h, y5g⟩ := id f4
 have i5 : ¬ ((0 : Int32) < 0 ∨ c5.slots.size ≤ ((0 : Int32)).toNatClampNeg) := inb_of t5 ⟨by decide, by decide⟩
 refine own_step (fun _ k => X1.caload hx (j := (0 : Int32)) (v := (.int v1_)) r5.1 (State.isArrayOf_alike hZ.alike r5.2.1) r5.2.2 i5 (own_get t5 y5h i5 0 rfl) (g := (mkF m 19 #[rv v0_, iv 0, iv 4, rv b2, iv 0] [.int 0, .ref v0_, .int 0, .ref b2])) rfl rfl (hb y d27_19) _ k) ?_
 refine oCS X1 hx hZ ho (oW hw 130 rfl) (bu28 hw) (rm30_137 hw hS O1 b2 v1_ k3 F1_0 g1_0) 0 (by decide) [.ref b2, .int 0, .int v1_] rfl (lenOf pd29 rfl) hml rfl rfl rfl y d27_20 rfl ?_
 rintro _ T6 _ X6 ⟨rfl, N6q, K6q, F6_0⟩
 have N6 := Fr.app N1 N6q
 have O6 := O1.keep K6q (allS g1_0 all0)
 have K6 := Keep.trans K1 K6q (allS (Or.inr u1_0) all0)
 refine sY X6 hx y d27_23 #[rv v0_, iv ((0 : Int32) + (1 : Int32)), iv 4, rv b2, iv 0] rfl rfl ?_
 rw [(by decide : ((0 : Int32) + (1 : Int32)) = (1 : Int32))]
 refine sY X6 hx y d27_26 #[rv v0_, iv 1, iv 4, rv b2, iv ((0 : Int32) + (1 : Int32))] rfl rfl ?_
 rw [(by decide : ((0 : Int32) + (1 : Int32)) = (1 : Int32))]
 refine sR X6 hx y d27_29 8 (by decide) ?_
 refine sJ X6 hx y d27_8 rfl ?_
 refine sI X6 hx y d27_10 rfl ?_
 refine sV X6 hx y d27_11 (by decide) ?_
 refine sA X6 hx y d27_14 rfl rfl ?_
 refine sJ X6 hx y d27_15 rfl ?_
 refine sA X6 hx y d27_17 rfl rfl ?_
 refine sI X6 hx y d27_18 rfl ?_
 have f7 := (f4.keep K6q (ninS ne1_0_0 nin0))
 obtain ⟨c8, r8, q8, t8, u8, y8h, y8g⟩ := id f7
 have i8 : ¬ ((1 : Int32) < 0 ∨ c8.slots.size ≤ ((1 : Int32)).toNatClampNeg) := inb_of t8 ⟨by decide, by decide⟩
 refine own_step (fun _ k => X6.caload hx (j := (1 : Int32)) (v := (.int v2_)) r8.1 (State.isArrayOf_alike hZ.alike r8.2.1) r8.2.2 i8 (own_get t8 y8h i8 1 rfl) (g := (mkF m 19 #[rv v0_, iv 1, iv 4, rv b2, iv 1] [.int 1, .ref v0_, .int 1, .ref b2])) rfl rfl (hb y d27_19) _ k) ?_
 refine oCS X6 hx hZ ho (oW hw 130 rfl) (bu28 hw) (rm30_138 hw hS O6 b2 v2_ v1_ k3 F6_0 g1_0) 0 (by decide) [.ref b2, .int 1, .int v2_] rfl (lenOf pd29 rfl) hml rfl rfl rfl y d27_20 rfl ?_
 rintro _ T9 _ X9 ⟨rfl, N9q, K9q, F9_0⟩
 have N9 := Fr.app N6 N9q
 have O9 := O6.keep K9q (allS g1_0 all0)
 have K9 := Keep.trans K6 K9q (allS (Or.inr u1_0) all0)
 refine sY X9 hx y d27_23 #[rv v0_, iv ((1 : Int32) + (1 : Int32)), iv 4, rv b2, iv 1] rfl rfl ?_
 rw [(by decide : ((1 : Int32) + (1 : Int32)) = (2 : Int32))]
 refine sY X9 hx y d27_26 #[rv v0_, iv 2, iv 4, rv b2, iv ((1 : Int32) + (1 : Int32))] rfl rfl ?_
 rw [(by decide : ((1 : Int32) + (1 : Int32)) = (2 : Int32))]
 refine sR X9 hx y d27_29 8 (by decide) ?_
 refine sJ X9 hx y d27_8 rfl ?_
 refine sI X9 hx y d27_10 rfl ?_
 refine sV X9 hx y d27_11 (by decide) ?_
 refine sA X9 hx y d27_14 rfl rfl ?_
 refine sJ X9 hx y d27_15 rfl ?_
 refine sA X9 hx y d27_17 rfl rfl ?_
 refine sI X9 hx y d27_18 rfl ?_
 have f10 := (f7.keep K9q (ninS ne1_0_0 nin0))
 obtain ⟨c11, r11, q11, t11, u11, y11h, y11g⟩ := id f10
 have i11 : ¬ ((2 : Int32) < 0 ∨ c11.slots.size ≤ ((2 : Int32)).toNatClampNeg) := inb_of t11 ⟨by decide, by decide⟩
 refine own_step (fun _ k => X9.caload hx (j := (2 : Int32)) (v := (.int v3_)) r11.1 (State.isArrayOf_alike hZ.alike r11.2.1) r11.2.2 i11 (own_get t11 y11h i11 2 rfl) (g := (mkF m 19 #[rv v0_, iv 2, iv 4, rv b2, iv 2] [.int 2, .ref v0_, .int 2, .ref b2])) rfl rfl (hb y d27_19) _ k) ?_
 refine oCS X9 hx hZ ho (oW hw 130 rfl) (bu28 hw) (rm30_139 hw hS O9 b2 v3_ v1_ v2_ k3 F9_0 g1_0) 0 (by decide) [.ref b2, .int 2, .int v3_] rfl (lenOf pd29 rfl) hml rfl rfl rfl y d27_20 rfl ?_
 rintro _ T12 _ X12 ⟨rfl, N12q, K12q, F12_0⟩
 have N12 := Fr.app N9 N12q
 have O12 := O9.keep K12q (allS g1_0 all0)
 have K12 := Keep.trans K9 K12q (allS (Or.inr u1_0) all0)
 refine sY X12 hx y d27_23 #[rv v0_, iv ((2 : Int32) + (1 : Int32)), iv 4, rv b2, iv 2] rfl rfl ?_
 rw [(by decide : ((2 : Int32) + (1 : Int32)) = (3 : Int32))]
 refine sY X12 hx y d27_26 #[rv v0_, iv 3, iv 4, rv b2, iv ((2 : Int32) + (1 : Int32))] rfl rfl ?_
 rw [(by decide : ((2 : Int32) + (1 : Int32)) = (3 : Int32))]
 refine sR X12 hx y d27_29 8 (by decide) ?_
 refine sJ X12 hx y d27_8 rfl ?_
 refine sI X12 hx y d27_10 rfl ?_
 refine sV X12 hx y d27_11 (by decide) ?_
 refine sA X12 hx y d27_14 rfl rfl ?_
 refine sJ X12 hx y d27_15 rfl ?_
 refine sA X12 hx y d27_17 rfl rfl ?_
 refine sI X12 hx y d27_18 rfl ?_
 have f13 := (f10.keep K12q (ninS ne1_0_0 nin0))
 obtain ⟨c14, r14, q14, t14, u14, y14h, y14g⟩ := id f13
 have i14 : ¬ ((3 : Int32) < 0 ∨ c14.slots.size ≤ ((3 : Int32)).toNatClampNeg) := inb_of t14 ⟨by decide, by decide⟩
 refine own_step (fun _ k => X12.caload hx (j := (3 : Int32)) (v := (.int v4_)) r14.1 (State.isArrayOf_alike hZ.alike r14.2.1) r14.2.2 i14 (own_get t14 y14h i14 3 rfl) (g := (mkF m 19 #[rv v0_, iv 3, iv 4, rv b2, iv 3] [.int 3, .ref v0_, .int 3, .ref b2])) rfl rfl (hb y d27_19) _ k) ?_
 refine oCS X12 hx hZ ho (oW hw 130 rfl) (bu28 hw) (rm30_140 hw hS O12 b2 v4_ v1_ v2_ v3_ k3 F12_0 g1_0) 0 (by decide) [.ref b2, .int 3, .int v4_] rfl (lenOf pd29 rfl) hml rfl rfl rfl y d27_20 rfl ?_
 rintro _ T15 _ X15 ⟨rfl, N15q, K15q, F15_0⟩
 have N15 := Fr.app N12 N15q
 have K15 := Keep.trans K12 K15q (allS (Or.inr u1_0) all0)
 refine sY X15 hx y d27_23 #[rv v0_, iv ((3 : Int32) + (1 : Int32)), iv 4, rv b2, iv 3] rfl rfl ?_
 rw [(by decide : ((3 : Int32) + (1 : Int32)) = (4 : Int32))]
 refine sY X15 hx y d27_26 #[rv v0_, iv 4, iv 4, rv b2, iv ((3 : Int32) + (1 : Int32))] rfl rfl ?_
 rw [(by decide : ((3 : Int32) + (1 : Int32)) = (4 : Int32))]
 refine sR X15 hx y d27_29 8 (by decide) ?_
 refine sJ X15 hx y d27_8 rfl ?_
 refine sI X15 hx y d27_10 rfl ?_
 refine sU X15 hx y d27_11 (by decide) 32 (by decide) ?_
 refine sA X15 hx y d27_32 rfl rfl ?_
 exact own_retA X15 hx hr rfl rfl hl (hb y d27_33) (by decide) (by decide) (⟨b2, k3, rfl, N15, K15, u1_0, F15_0⟩)


theorem rm31_142 (v0_ : Addr) (v1_ v2_ v3_ v4_ : Int32) (v5_ : ClassId) (U0 : Arv Z h0 v0_ v5_ .byte 8 [(.int (oLo v1_)), (.int (oHi v1_)), (.int (oLo v2_)), (.int (oHi v2_)), (.int (oLo v3_)), (.int (oHi v3_)), (.int (oLo v4_)), (.int (oHi v4_))] (.int 0)) (U1 : nar .char v1_ = v1_) (U2 : ¬ (v1_ < (0 : Int32))) (U3 : ¬ ((65535 : Int32) < v1_)) :
  oM hw hS O0 l y31 cd31 (oR 0 0 0 0) #[.ref v0_, .int 0] (fun v h L => (v = some (.int v1_) ∧ Fr n0 L ∧ h = h0)) := by
 refine own_met (own := "java/lang/StringUTF16") (plainFor_of_name pn14) rfl ?_
 intro p e s m u mt c s₁ hx y hml ho hq hr hl hZ e0 X0
 refine own_cast (g' := (mkF m 0 #[rv v0_, iv 0] [])) rfl ?_
 obtain ⟨T1, X1, e1, st1⟩ := getS2 X0 hx hZ ho (host := "") (Or.inl (oW hw 133 rfl)) Via.refl e0 ((si0 hw hS).ext O0.2) (g := (mkF m 0 #[rv v0_, iv 0] [])) rfl (hb y d31_0)
 refine own_step st1 ?_
 refine sS X1 hx y d31_3 (by decide) 28 (by decide) ?_
 refine sI X1 hx y d31_28 rfl ?_
 refine sC X1 hx y d31_29 ?_
 refine sL X1 hx y d31_30 ?_
 refine oV (b := 0) (by decide) ?_
 refine sN X1 hx y d31_31 #[rv v0_, iv 0] rfl ?_
 refine sA X1 hx y d31_32 rfl rfl ?_
 refine sI X1 hx y d31_33 rfl ?_
 refine sY X1 hx y d31_34 #[rv v0_, iv ((0 : Int32) + (1 : Int32))] rfl rfl ?_
 rw [(by decide : ((0 : Int32) + (1 : Int32)) = (1 : Int32))]
 obtain ⟨c2, r2, q2, t2, u2, y2h, y2g⟩ := id U0
 have i2 : ¬ ((0 : Int32) < 0 ∨ c2.slots.size ≤ ((0 : Int32)).toNatClampNeg) := inb_of t2 ⟨by decide, by decide⟩
 refine own_step (fun _ k => X1.baloadBytes hx (j := (0 : Int32)) (v := (.int (oLo v1_))) (by rw [e1]; exact r2.1) (State.isArrayOf_alike hZ.alike r2.2.1) r2.2.2 i2 (own_get t2 y2h i2 0 rfl) (g := (mkF m 37 #[rv v0_, iv 1] [.int 0, .ref v0_])) rfl rfl (hb y d31_37) _ k) ?_
 refine oS (XS.sipush X1.here hx rfl (hb y d31_38)) ?_
 refine oS (XS.iand X1.here hx rfl (hb y d31_41) rfl) ?_
 obtain ⟨T3, X3, e3, st3⟩ := getS2 X1 hx hZ ho (host := "") (Or.inl (oW hw 134 rfl)) Via.refl e1 ((si1 hw hS).ext O0.2) (g := (mkF m 42 #[rv v0_, iv 1] [.int ((oLo v1_) &&& (255 : Int32))])) rfl (hb y d31_42)
 refine own_step st3 ?_
 refine sL X3 hx y d31_45 ?_
 refine sA X3 hx y d31_46 rfl rfl ?_
 refine sI X3 hx y d31_47 rfl ?_
 obtain ⟨c4, r4, q4, t4, u4, y4h, y4g⟩ := id U0
 have i4 : ¬ ((1 : Int32) < 0 ∨ c4.slots.size ≤ ((1 : Int32)).toNatClampNeg) := inb_of t4 ⟨by decide, by decide⟩
 refine own_step (fun _ k => X3.baloadBytes hx (j := (1 : Int32)) (v := (.int (oHi v1_))) (by rw [e3]; exact r4.1) (State.isArrayOf_alike hZ.alike r4.2.1) r4.2.2 i4 (own_get t4 y4h i4 1 rfl) (g := (mkF m 48 #[rv v0_, iv 1] [.int 1, .ref v0_, .int (((oLo v1_) &&& (255 : Int32)) <<< ((0 : Int32) &&& 31))])) rfl rfl (hb y d31_48) _ k) ?_
 refine oS (XS.sipush X3.here hx rfl (hb y d31_49)) ?_
 refine oS (XS.iand X3.here hx rfl (hb y d31_52) rfl) ?_
 obtain ⟨T5, X5, e5, st5⟩ := getS2 X3 hx hZ ho (host := "") (Or.inl (oW hw 135 rfl)) Via.refl e3 ((si2 hw hS).ext O0.2) (g := (mkF m 53 #[rv v0_, iv 1] [.int ((oHi v1_) &&& (255 : Int32)), .int (((oLo v1_) &&& (255 : Int32)) <<< ((0 : Int32) &&& 31))])) rfl (hb y d31_53)
 refine own_step st5 ?_
 refine sL X5 hx y d31_56 ?_
 refine oS (XS.ior X5.here hx rfl (hb y d31_57) rfl) ?_
 refine oS (XS.i2c X5.here hx rfl (hb y d31_58) rfl) ?_
 show own_Wp p e u _ T5 (mkF m 59 #[rv v0_, iv 1] [.int (((((oLo v1_) &&& (255 : Int32)) <<< ((0 : Int32) &&& 31)) ||| (((oHi v1_) &&& (255 : Int32)) <<< ((8 : Int32) &&& 31))).toUInt32.toUInt16.toUInt32.toInt32)])
 rw [(own_b16 U2 U3 : (((((oLo v1_) &&& (255 : Int32)) <<< ((0 : Int32) &&& 31)) ||| (((oHi v1_) &&& (255 : Int32)) <<< ((8 : Int32) &&& 31))).toUInt32.toUInt16.toUInt32.toInt32) = v1_)]
 exact own_retN X5 hx (t := .char) hr (by simp) hl (hb y d31_59) (by decide) (by decide) (by rw [U1, e5]; exact ⟨rfl, (Fr.nil n0), rfl⟩)


theorem rm31_143 (v0_ : Addr) (v1_ v2_ v3_ v4_ : Int32) (v5_ : ClassId) (U0 : Arv Z h0 v0_ v5_ .byte 8 [(.int (oLo v1_)), (.int (oHi v1_)), (.int (oLo v2_)), (.int (oHi v2_)), (.int (oLo v3_)), (.int (oHi v3_)), (.int (oLo v4_)), (.int (oHi v4_))] (.int 0)) (U1 : nar .char v2_ = v2_) (U2 : ¬ (v2_ < (0 : Int32))) (U3 : ¬ ((65535 : Int32) < v2_)) :
  oM hw hS O0 l y31 cd31 (oR 0 0 0 0) #[.ref v0_, .int 1] (fun v h L => (v = some (.int v2_) ∧ Fr n0 L ∧ h = h0)) := by
 refine own_met (own := "java/lang/StringUTF16") (plainFor_of_name pn14) rfl ?_
 intro p e s m u mt c s₁ hx y hml ho hq hr hl hZ e0 X0
 refine own_cast (g' := (mkF m 0 #[rv v0_, iv 1] [])) rfl ?_
 obtain ⟨T1, X1, e1, st1⟩ := getS2 X0 hx hZ ho (host := "") (Or.inl (oW hw 133 rfl)) Via.refl e0 ((si0 hw hS).ext O0.2) (g := (mkF m 0 #[rv v0_, iv 1] [])) rfl (hb y d31_0)
 refine own_step st1 ?_
 refine sS X1 hx y d31_3 (by decide) 28 (by decide) ?_
 refine sI X1 hx y d31_28 rfl ?_
 refine sC X1 hx y d31_29 ?_
 refine sL X1 hx y d31_30 ?_
 refine oV (b := 2) (by decide) ?_
 refine sN X1 hx y d31_31 #[rv v0_, iv 2] rfl ?_
 refine sA X1 hx y d31_32 rfl rfl ?_
 refine sI X1 hx y d31_33 rfl ?_
 refine sY X1 hx y d31_34 #[rv v0_, iv ((2 : Int32) + (1 : Int32))] rfl rfl ?_
 rw [(by decide : ((2 : Int32) + (1 : Int32)) = (3 : Int32))]
 obtain ⟨c2, r2, q2, t2, u2, y2h, y2g⟩ := id U0
 have i2 : ¬ ((2 : Int32) < 0 ∨ c2.slots.size ≤ ((2 : Int32)).toNatClampNeg) := inb_of t2 ⟨by decide, by decide⟩
 refine own_step (fun _ k => X1.baloadBytes hx (j := (2 : Int32)) (v := (.int (oLo v2_))) (by rw [e1]; exact r2.1) (State.isArrayOf_alike hZ.alike r2.2.1) r2.2.2 i2 (own_get t2 y2h i2 2 rfl) (g := (mkF m 37 #[rv v0_, iv 3] [.int 2, .ref v0_])) rfl rfl (hb y d31_37) _ k) ?_
 refine oS (XS.sipush X1.here hx rfl (hb y d31_38)) ?_
 refine oS (XS.iand X1.here hx rfl (hb y d31_41) rfl) ?_
 obtain ⟨T3, X3, e3, st3⟩ := getS2 X1 hx hZ ho (host := "") (Or.inl (oW hw 134 rfl)) Via.refl e1 ((si1 hw hS).ext O0.2) (g := (mkF m 42 #[rv v0_, iv 3] [.int ((oLo v2_) &&& (255 : Int32))])) rfl (hb y d31_42)
 refine own_step st3 ?_
 refine sL X3 hx y d31_45 ?_
 refine sA X3 hx y d31_46 rfl rfl ?_
 refine sI X3 hx y d31_47 rfl ?_
 obtain ⟨c4, r4, q4, t4, u4, y4h, y4g⟩ := id U0
 have i4 : ¬ ((3 : Int32) < 0 ∨ c4.slots.size ≤ ((3 : Int32)).toNatClampNeg) := inb_of t4 ⟨by decide, by decide⟩
 refine own_step (fun _ k => X3.baloadBytes hx (j := (3 : Int32)) (v := (.int (oHi v2_))) (by rw [e3]; exact r4.1) (State.isArrayOf_alike hZ.alike r4.2.1) r4.2.2 i4 (own_get t4 y4h i4 3 rfl) (g := (mkF m 48 #[rv v0_, iv 3] [.int 3, .ref v0_, .int (((oLo v2_) &&& (255 : Int32)) <<< ((0 : Int32) &&& 31))])) rfl rfl (hb y d31_48) _ k) ?_
 refine oS (XS.sipush X3.here hx rfl (hb y d31_49)) ?_
 refine oS (XS.iand X3.here hx rfl (hb y d31_52) rfl) ?_
 obtain ⟨T5, X5, e5, st5⟩ := getS2 X3 hx hZ ho (host := "") (Or.inl (oW hw 135 rfl)) Via.refl e3 ((si2 hw hS).ext O0.2) (g := (mkF m 53 #[rv v0_, iv 3] [.int ((oHi v2_) &&& (255 : Int32)), .int (((oLo v2_) &&& (255 : Int32)) <<< ((0 : Int32) &&& 31))])) rfl (hb y d31_53)
 refine own_step st5 ?_
 refine sL X5 hx y d31_56 ?_
 refine oS (XS.ior X5.here hx rfl (hb y d31_57) rfl) ?_
 refine oS (XS.i2c X5.here hx rfl (hb y d31_58) rfl) ?_
 show own_Wp p e u _ T5 (mkF m 59 #[rv v0_, iv 3] [.int (((((oLo v2_) &&& (255 : Int32)) <<< ((0 : Int32) &&& 31)) ||| (((oHi v2_) &&& (255 : Int32)) <<< ((8 : Int32) &&& 31))).toUInt32.toUInt16.toUInt32.toInt32)])
 rw [(own_b16 U2 U3 : (((((oLo v2_) &&& (255 : Int32)) <<< ((0 : Int32) &&& 31)) ||| (((oHi v2_) &&& (255 : Int32)) <<< ((8 : Int32) &&& 31))).toUInt32.toUInt16.toUInt32.toInt32) = v2_)]
 exact own_retN X5 hx (t := .char) hr (by simp) hl (hb y d31_59) (by decide) (by decide) (by rw [U1, e5]; exact ⟨rfl, (Fr.nil n0), rfl⟩)


theorem rm31_144 (v0_ : Addr) (v1_ v2_ v3_ v4_ : Int32) (v5_ : ClassId) (U0 : Arv Z h0 v0_ v5_ .byte 8 [(.int (oLo v1_)), (.int (oHi v1_)), (.int (oLo v2_)), (.int (oHi v2_)), (.int (oLo v3_)), (.int (oHi v3_)), (.int (oLo v4_)), (.int (oHi v4_))] (.int 0)) (U1 : nar .char v3_ = v3_) (U2 : ¬ (v3_ < (0 : Int32))) (U3 : ¬ ((65535 : Int32) < v3_)) :
  oM hw hS O0 l y31 cd31 (oR 0 0 0 0) #[.ref v0_, .int 2] (fun v h L => (v = some (.int v3_) ∧ Fr n0 L ∧ h = h0)) := by
 refine own_met (own := "java/lang/StringUTF16") (plainFor_of_name pn14) rfl ?_
 intro p e s m u mt c s₁ hx y hml ho hq hr hl hZ e0 X0
 refine own_cast (g' := (mkF m 0 #[rv v0_, iv 2] [])) rfl ?_
 obtain ⟨T1, X1, e1, st1⟩ := getS2 X0 hx hZ ho (host := "") (Or.inl (oW hw 133 rfl)) Via.refl e0 ((si0 hw hS).ext O0.2) (g := (mkF m 0 #[rv v0_, iv 2] [])) rfl (hb y d31_0)
 refine own_step st1 ?_
 refine sS X1 hx y d31_3 (by decide) 28 (by decide) ?_
 refine sI X1 hx y d31_28 rfl ?_
 refine sC X1 hx y d31_29 ?_
 refine sL X1 hx y d31_30 ?_
 refine oV (b := 4) (by decide) ?_
 refine sN X1 hx y d31_31 #[rv v0_, iv 4] rfl ?_
 refine sA X1 hx y d31_32 rfl rfl ?_
 refine sI X1 hx y d31_33 rfl ?_
 refine sY X1 hx y d31_34 #[rv v0_, iv ((4 : Int32) + (1 : Int32))] rfl rfl ?_
 rw [(by decide : ((4 : Int32) + (1 : Int32)) = (5 : Int32))]
 obtain ⟨c2, r2, q2, t2, u2, y2h, y2g⟩ := id U0
 have i2 : ¬ ((4 : Int32) < 0 ∨ c2.slots.size ≤ ((4 : Int32)).toNatClampNeg) := inb_of t2 ⟨by decide, by decide⟩
 refine own_step (fun _ k => X1.baloadBytes hx (j := (4 : Int32)) (v := (.int (oLo v3_))) (by rw [e1]; exact r2.1) (State.isArrayOf_alike hZ.alike r2.2.1) r2.2.2 i2 (own_get t2 y2h i2 4 rfl) (g := (mkF m 37 #[rv v0_, iv 5] [.int 4, .ref v0_])) rfl rfl (hb y d31_37) _ k) ?_
 refine oS (XS.sipush X1.here hx rfl (hb y d31_38)) ?_
 refine oS (XS.iand X1.here hx rfl (hb y d31_41) rfl) ?_
 obtain ⟨T3, X3, e3, st3⟩ := getS2 X1 hx hZ ho (host := "") (Or.inl (oW hw 134 rfl)) Via.refl e1 ((si1 hw hS).ext O0.2) (g := (mkF m 42 #[rv v0_, iv 5] [.int ((oLo v3_) &&& (255 : Int32))])) rfl (hb y d31_42)
 refine own_step st3 ?_
 refine sL X3 hx y d31_45 ?_
 refine sA X3 hx y d31_46 rfl rfl ?_
 refine sI X3 hx y d31_47 rfl ?_
 obtain ⟨c4, r4, q4, t4, u4, y4h, y4g⟩ := id U0
 have i4 : ¬ ((5 : Int32) < 0 ∨ c4.slots.size ≤ ((5 : Int32)).toNatClampNeg) := inb_of t4 ⟨by decide, by decide⟩
 refine own_step (fun _ k => X3.baloadBytes hx (j := (5 : Int32)) (v := (.int (oHi v3_))) (by rw [e3]; exact r4.1) (State.isArrayOf_alike hZ.alike r4.2.1) r4.2.2 i4 (own_get t4 y4h i4 5 rfl) (g := (mkF m 48 #[rv v0_, iv 5] [.int 5, .ref v0_, .int (((oLo v3_) &&& (255 : Int32)) <<< ((0 : Int32) &&& 31))])) rfl rfl (hb y d31_48) _ k) ?_
 refine oS (XS.sipush X3.here hx rfl (hb y d31_49)) ?_
 refine oS (XS.iand X3.here hx rfl (hb y d31_52) rfl) ?_
 obtain ⟨T5, X5, e5, st5⟩ := getS2 X3 hx hZ ho (host := "") (Or.inl (oW hw 135 rfl)) Via.refl e3 ((si2 hw hS).ext O0.2) (g := (mkF m 53 #[rv v0_, iv 5] [.int ((oHi v3_) &&& (255 : Int32)), .int (((oLo v3_) &&& (255 : Int32)) <<< ((0 : Int32) &&& 31))])) rfl (hb y d31_53)
 refine own_step st5 ?_
 refine sL X5 hx y d31_56 ?_
 refine oS (XS.ior X5.here hx rfl (hb y d31_57) rfl) ?_
 refine oS (XS.i2c X5.here hx rfl (hb y d31_58) rfl) ?_
 show own_Wp p e u _ T5 (mkF m 59 #[rv v0_, iv 5] [.int (((((oLo v3_) &&& (255 : Int32)) <<< ((0 : Int32) &&& 31)) ||| (((oHi v3_) &&& (255 : Int32)) <<< ((8 : Int32) &&& 31))).toUInt32.toUInt16.toUInt32.toInt32)])
 rw [(own_b16 U2 U3 : (((((oLo v3_) &&& (255 : Int32)) <<< ((0 : Int32) &&& 31)) ||| (((oHi v3_) &&& (255 : Int32)) <<< ((8 : Int32) &&& 31))).toUInt32.toUInt16.toUInt32.toInt32) = v3_)]
 exact own_retN X5 hx (t := .char) hr (by simp) hl (hb y d31_59) (by decide) (by decide) (by rw [U1, e5]; exact ⟨rfl, (Fr.nil n0), rfl⟩)


theorem rm31_145 (v0_ : Addr) (v1_ v2_ v3_ v4_ : Int32) (v5_ : ClassId) (U0 : Arv Z h0 v0_ v5_ .byte 8 [(.int (oLo v1_)), (.int (oHi v1_)), (.int (oLo v2_)), (.int (oHi v2_)), (.int (oLo v3_)), (.int (oHi v3_)), (.int (oLo v4_)), (.int (oHi v4_))] (.int 0)) (U1 : nar .char v4_ = v4_) (U2 : ¬ (v4_ < (0 : Int32))) (U3 : ¬ ((65535 : Int32) < v4_)) :
  oM hw hS O0 l y31 cd31 (oR 0 0 0 0) #[.ref v0_, .int 3] (fun v h L => (v = some (.int v4_) ∧ Fr n0 L ∧ h = h0)) := by
 refine own_met (own := "java/lang/StringUTF16") (plainFor_of_name pn14) rfl ?_
 intro p e s m u mt c s₁ hx y hml ho hq hr hl hZ e0 X0
 refine own_cast (g' := (mkF m 0 #[rv v0_, iv 3] [])) rfl ?_
 obtain ⟨T1, X1, e1, st1⟩ := getS2 X0 hx hZ ho (host := "") (Or.inl (oW hw 133 rfl)) Via.refl e0 ((si0 hw hS).ext O0.2) (g := (mkF m 0 #[rv v0_, iv 3] [])) rfl (hb y d31_0)
 refine own_step st1 ?_
 refine sS X1 hx y d31_3 (by decide) 28 (by decide) ?_
 refine sI X1 hx y d31_28 rfl ?_
 refine sC X1 hx y d31_29 ?_
 refine sL X1 hx y d31_30 ?_
 refine oV (b := 6) (by decide) ?_
 refine sN X1 hx y d31_31 #[rv v0_, iv 6] rfl ?_
 refine sA X1 hx y d31_32 rfl rfl ?_
 refine sI X1 hx y d31_33 rfl ?_
 refine sY X1 hx y d31_34 #[rv v0_, iv ((6 : Int32) + (1 : Int32))] rfl rfl ?_
 rw [(by decide : ((6 : Int32) + (1 : Int32)) = (7 : Int32))]
 obtain ⟨c2, r2, q2, t2, u2, y2h, y2g⟩ := id U0
 have i2 : ¬ ((6 : Int32) < 0 ∨ c2.slots.size ≤ ((6 : Int32)).toNatClampNeg) := inb_of t2 ⟨by decide, by decide⟩
 refine own_step (fun _ k => X1.baloadBytes hx (j := (6 : Int32)) (v := (.int (oLo v4_))) (by rw [e1]; exact r2.1) (State.isArrayOf_alike hZ.alike r2.2.1) r2.2.2 i2 (own_get t2 y2h i2 6 rfl) (g := (mkF m 37 #[rv v0_, iv 7] [.int 6, .ref v0_])) rfl rfl (hb y d31_37) _ k) ?_
 refine oS (XS.sipush X1.here hx rfl (hb y d31_38)) ?_
 refine oS (XS.iand X1.here hx rfl (hb y d31_41) rfl) ?_
 obtain ⟨T3, X3, e3, st3⟩ := getS2 X1 hx hZ ho (host := "") (Or.inl (oW hw 134 rfl)) Via.refl e1 ((si1 hw hS).ext O0.2) (g := (mkF m 42 #[rv v0_, iv 7] [.int ((oLo v4_) &&& (255 : Int32))])) rfl (hb y d31_42)
 refine own_step st3 ?_
 refine sL X3 hx y d31_45 ?_
 refine sA X3 hx y d31_46 rfl rfl ?_
 refine sI X3 hx y d31_47 rfl ?_
 obtain ⟨c4, r4, q4, t4, u4, y4h, y4g⟩ := id U0
 have i4 : ¬ ((7 : Int32) < 0 ∨ c4.slots.size ≤ ((7 : Int32)).toNatClampNeg) := inb_of t4 ⟨by decide, by decide⟩
 refine own_step (fun _ k => X3.baloadBytes hx (j := (7 : Int32)) (v := (.int (oHi v4_))) (by rw [e3]; exact r4.1) (State.isArrayOf_alike hZ.alike r4.2.1) r4.2.2 i4 (own_get t4 y4h i4 7 rfl) (g := (mkF m 48 #[rv v0_, iv 7] [.int 7, .ref v0_, .int (((oLo v4_) &&& (255 : Int32)) <<< ((0 : Int32) &&& 31))])) rfl rfl (hb y d31_48) _ k) ?_
 refine oS (XS.sipush X3.here hx rfl (hb y d31_49)) ?_
 refine oS (XS.iand X3.here hx rfl (hb y d31_52) rfl) ?_
 obtain ⟨T5, X5, e5, st5⟩ := getS2 X3 hx hZ ho (host := "") (Or.inl (oW hw 135 rfl)) Via.refl e3 ((si2 hw hS).ext O0.2) (g := (mkF m 53 #[rv v0_, iv 7] [.int ((oHi v4_) &&& (255 : Int32)), .int (((oLo v4_) &&& (255 : Int32)) <<< ((0 : Int32) &&& 31))])) rfl (hb y d31_53)
 refine own_step st5 ?_
 refine sL X5 hx y d31_56 ?_
 refine oS (XS.ior X5.here hx rfl (hb y d31_57) rfl) ?_
 refine oS (XS.i2c X5.here hx rfl (hb y d31_58) rfl) ?_
 show own_Wp p e u _ T5 (mkF m 59 #[rv v0_, iv 7] [.int (((((oLo v4_) &&& (255 : Int32)) <<< ((0 : Int32) &&& 31)) ||| (((oHi v4_) &&& (255 : Int32)) <<< ((8 : Int32) &&& 31))).toUInt32.toUInt16.toUInt32.toInt32)])
 rw [(own_b16 U2 U3 : (((((oLo v4_) &&& (255 : Int32)) <<< ((0 : Int32) &&& 31)) ||| (((oHi v4_) &&& (255 : Int32)) <<< ((8 : Int32) &&& 31))).toUInt32.toUInt16.toUInt32.toInt32) = v4_)]
 exact own_retN X5 hx (t := .char) hr (by simp) hl (hb y d31_59) (by decide) (by decide) (by rw [U1, e5]; exact ⟨rfl, (Fr.nil n0), rfl⟩)


theorem rm7_146 (v0_ : Addr) (v1_ v2_ v3_ v4_ : Int32) (v5_ : ClassId) (U0 : Arv Z h0 v0_ v5_ .char 4 [(.int v1_), (.int v2_), (.int v3_), (.int v4_)] (.int 0)) (U1 : nar .char v1_ = v1_) (U2 : nar .char v2_ = v2_) (U3 : nar .char v3_ = v3_) (U4 : nar .char v4_ = v4_) (U5 : ¬ (v1_ < (0 : Int32))) (U6 : ¬ ((65535 : Int32) < v1_)) (U7 : ¬ (v2_ < (0 : Int32))) (U8 : ¬ ((65535 : Int32) < v2_)) (U9 : ¬ (v3_ < (0 : Int32))) (U10 : ¬ ((65535 : Int32) < v3_)) (U11 : ¬ (v4_ < (0 : Int32))) (U12 : ¬ ((65535 : Int32) < v4_)) :
  oM hw hS O0 l y7 cd7 (oR 3 2 12 40) #[.ref v0_, .int 0, .int 4] (fun v h L => (∃ (b5 : Addr) (k6 : ClassId), v = some (.ref b5) ∧ Fr n0 L ∧ Keep h0 h [] ∧ h0.size ≤ b5 ∧ Arv Z h b5 k6 .byte 8 [(.int (oLo v1_)), (.int (oHi v1_)), (.int (oLo v2_)), (.int (oHi v2_)), (.int (oLo v3_)), (.int (oHi v3_)), (.int (oLo v4_)), (.int (oHi v4_))] (.int 0)) ∨ (∃ (b1 : Addr) (k1 : ClassId), ¬ ((255 : Int32) < v1_) ∧ ¬ ((255 : Int32) < v2_) ∧ ¬ ((255 : Int32) < v3_) ∧ ¬ ((255 : Int32) < v4_) ∧ v = some (.ref b1) ∧ Fr n0 L ∧ Keep h0 h [] ∧ h0.size ≤ b1 ∧ Arv Z h b1 k1 .byte 4 [(.int (oBy v1_)), (.int (oBy v2_)), (.int (oBy v3_)), (.int (oBy v4_))] (.int 0))) := by
 refine own_met (own := "java/lang/StringUTF16") (plainFor_of_name pn14) rfl ?_
 intro p e s m u mt c s₁ hx y hml ho hq hr hl hZ e0 X0
 refine own_cast (g' := (mkF m 0 #[rv v0_, iv 0, iv 4, .unset, .unset, .unset] [])) rfl ?_
 refine sI X0 hx y d7_0 rfl ?_
 obtain ⟨T1, h1, k1, X1, e1, E1, A1, st1⟩ := newP X0 hx hZ (oW hw 31 rfl) e0 (g := (mkF m 1 #[rv v0_, iv 0, iv 4, .unset, .unset, .unset] [.int 4])) rfl (hb y d7_1) rfl (by decide) (cap := 4) (by decide) (by decide) (by decide) (by decide)
 obtain ⟨b1, z1⟩ : ∃ z, z = h0.size := ⟨_, rfl⟩
 rw [← z1] at A1 st1
 refine own_step st1 ?_
 have g1 : n0 ≤ b1 := Nat.le_trans (O0.1 ▸ O0.2.1) (Nat.le_of_eq z1.symm)
 have ne1_0 : v0_ ≠ b1 := Nat.ne_of_lt (Nat.lt_of_lt_of_le U0.lt (Nat.le_of_eq z1.symm))
 have y1 : h0.size ≤ b1 := Nat.le_trans (Nat.le_refl _) (Nat.le_of_eq z1.symm)
 have O1 := O0.ext E1
 have K1 := (Keep.refl h0 []).ext E1
 have V1 : Arv Z h1 b1 k1 .byte 4 [(.int 0), (.int 0), (.int 0), (.int 0)] (.int 0) := (Arv.new A1 (by decide)).pad (pad_rep [] (.int 0) 4)
 refine sP X1 hx y d7_3 rfl #[rv v0_, iv 0, iv 4, rv b1, .unset, .unset] rfl ?_
 refine sA X1 hx y d7_4 rfl rfl ?_
 refine sI X1 hx y d7_5 rfl ?_
 refine sA X1 hx y d7_6 rfl rfl ?_
 refine sC X1 hx y d7_7 ?_
 refine sI X1 hx y d7_8 rfl ?_
 have f2 := (U0.ext E1)
 refine oCS X1 hx hZ ho (oW hw 32 rfl) (bu15 hw) (rm8_134 hw hS O1 v0_ b1 v1_ v2_ v3_ v4_ v5_ k1 f2 V1 g1 ne1_0) 0 (by decide) [.ref v0_, .int 0, .ref b1, .int 0, .int 4] rfl (lenOf pd16 rfl) hml rfl rfl rfl y d7_9 e1 ?_
 rintro _ T3 _ X3 (⟨hq3a_0, rfl, N3aq, e3a⟩ | ⟨hq3b_0, hq3b_1, rfl, N3bq, K3bq, F3b_0⟩ | ⟨hq3c_0, hq3c_1, hq3c_2, rfl, N3cq, K3cq, F3c_0⟩ | ⟨hq3d_0, hq3d_1, hq3d_2, hq3d_3, rfl, N3dq, K3dq, F3d_0⟩ | ⟨hq3e_0, hq3e_1, hq3e_2, hq3e_3, rfl, N3eq, K3eq, F3e_0⟩)
 ·
  have N3a := Fr.app (Fr.nil n0) N3aq
  refine sO X3 hx y d7_12 #[rv v0_, iv 0, iv 4, rv b1, iv 0, .unset] rfl ?_
  refine sJ X3 hx y d7_14 rfl ?_
  refine sI X3 hx y d7_16 rfl ?_
  refine sV X3 hx y d7_17 (by decide) ?_
  refine sA X3 hx y d7_20 rfl rfl ?_
  refine sI X3 hx y d7_21 rfl ?_
  refine sI X3 hx y d7_22 rfl ?_
  refine oCS X3 hx hZ ho (oW hw 120 rfl) (bu31 hw) (rm27_141 hw hS O1 v0_ v1_ v2_ v3_ v4_ v5_ f2) 0 (by decide) [.ref v0_, .int 0, .int 4] rfl (lenOf pd32 rfl) hml rfl rfl rfl y d7_23 e3a ?_
  rintro _ T4 _ X4 ⟨b5, k6, rfl, N4q, K4q, y4_0, F4_0⟩
  have N4 := Fr.app N3a N4q
  have u4_0 : h0.size ≤ b5 := Nat.le_trans (K1.1) y4_0
  have O4 := O1.keep K4q all0
  have K4 := Keep.trans K1 K4q all0
  refine sQ X4 hx y d7_26 rfl #[rv v0_, iv 0, iv 4, rv b1, iv 0, rv b5] rfl ?_
  refine sB X4 hx y d7_28 rfl rfl ?_
  refine sJ X4 hx y d7_30 rfl ?_
  refine oCS X4 hx hZ ho (oW hw 136 rfl) (bu35 hw) (rm31_142 hw hS O4 b5 v1_ v2_ v3_ v4_ k6 F4_0 U1 U5 U6) 0 (by decide) [.ref b5, .int 0] rfl (lenOf pd36 rfl) hml rfl rfl rfl y d7_32 rfl ?_
  rintro _ T7 _ X7 ⟨rfl, N7q, e7⟩
  have N7 := Fr.app N4 N7q
  refine oS (XS.sipush X7.here hx rfl (hb y d7_35)) ?_
  refine sU X7 hx y d7_38 (tlt hq3a_0).2.2.1 54 (by decide) ?_
  refine sB X7 hx y d7_54 rfl rfl ?_
  exact own_retA X7 hx hr rfl rfl hl (hb y d7_56) (by decide) (by decide) (by rw [e7]; exact Or.inl ⟨b5, k6, rfl, N7, K4, u4_0, F4_0⟩)
 ·
  have N3b := Fr.app (Fr.nil n0) N3bq
  have O3b := O1.keep K3bq (allS g1 all0)
  have K3b := Keep.trans K1 K3bq (allS (Or.inr y1) all0)
  refine sO X3 hx y d7_12 #[rv v0_, iv 0, iv 4, rv b1, iv 1, .unset] rfl ?_
  refine sJ X3 hx y d7_14 rfl ?_
  refine sI X3 hx y d7_16 rfl ?_
  refine sV X3 hx y d7_17 (by decide) ?_
  refine sA X3 hx y d7_20 rfl rfl ?_
  refine sI X3 hx y d7_21 rfl ?_
  refine sI X3 hx y d7_22 rfl ?_
  have f8 := (f2.keep K3bq (ninS ne1_0 nin0))
  refine oCS X3 hx hZ ho (oW hw 120 rfl) (bu31 hw) (rm27_141 hw hS O3b v0_ v1_ v2_ v3_ v4_ v5_ f8) 0 (by decide) [.ref v0_, .int 0, .int 4] rfl (lenOf pd32 rfl) hml rfl rfl rfl y d7_23 rfl ?_
  rintro _ T9 _ X9 ⟨b10, k11, rfl, N9q, K9q, y9_0, F9_0⟩
  have N9 := Fr.app N3b N9q
  have u9_0 : h0.size ≤ b10 := Nat.le_trans (K3b.1) y9_0
  have O9 := O3b.keep K9q all0
  have K9 := Keep.trans K3b K9q all0
  refine sQ X9 hx y d7_26 rfl #[rv v0_, iv 0, iv 4, rv b1, iv 1, rv b10] rfl ?_
  refine sB X9 hx y d7_28 rfl rfl ?_
  refine sJ X9 hx y d7_30 rfl ?_
  refine oCS X9 hx hZ ho (oW hw 136 rfl) (bu35 hw) (rm31_143 hw hS O9 b10 v1_ v2_ v3_ v4_ k11 F9_0 U2 U7 U8) 0 (by decide) [.ref b10, .int 1] rfl (lenOf pd36 rfl) hml rfl rfl rfl y d7_32 rfl ?_
  rintro _ T12 _ X12 ⟨rfl, N12q, e12⟩
  have N12 := Fr.app N9 N12q
  refine oS (XS.sipush X12.here hx rfl (hb y d7_35)) ?_
  refine sU X12 hx y d7_38 (tlt hq3b_1).2.2.1 54 (by decide) ?_
  refine sB X12 hx y d7_54 rfl rfl ?_
  exact own_retA X12 hx hr rfl rfl hl (hb y d7_56) (by decide) (by decide) (by rw [e12]; exact Or.inl ⟨b10, k11, rfl, N12, K9, u9_0, F9_0⟩)
 ·
  have N3c := Fr.app (Fr.nil n0) N3cq
  have O3c := O1.keep K3cq (allS g1 all0)
  have K3c := Keep.trans K1 K3cq (allS (Or.inr y1) all0)
  refine sO X3 hx y d7_12 #[rv v0_, iv 0, iv 4, rv b1, iv 2, .unset] rfl ?_
  refine sJ X3 hx y d7_14 rfl ?_
  refine sI X3 hx y d7_16 rfl ?_
  refine sV X3 hx y d7_17 (by decide) ?_
  refine sA X3 hx y d7_20 rfl rfl ?_
  refine sI X3 hx y d7_21 rfl ?_
  refine sI X3 hx y d7_22 rfl ?_
  have f13 := (f2.keep K3cq (ninS ne1_0 nin0))
  refine oCS X3 hx hZ ho (oW hw 120 rfl) (bu31 hw) (rm27_141 hw hS O3c v0_ v1_ v2_ v3_ v4_ v5_ f13) 0 (by decide) [.ref v0_, .int 0, .int 4] rfl (lenOf pd32 rfl) hml rfl rfl rfl y d7_23 rfl ?_
  rintro _ T14 _ X14 ⟨b15, k16, rfl, N14q, K14q, y14_0, F14_0⟩
  have N14 := Fr.app N3c N14q
  have u14_0 : h0.size ≤ b15 := Nat.le_trans (K3c.1) y14_0
  have O14 := O3c.keep K14q all0
  have K14 := Keep.trans K3c K14q all0
  refine sQ X14 hx y d7_26 rfl #[rv v0_, iv 0, iv 4, rv b1, iv 2, rv b15] rfl ?_
  refine sB X14 hx y d7_28 rfl rfl ?_
  refine sJ X14 hx y d7_30 rfl ?_
  refine oCS X14 hx hZ ho (oW hw 136 rfl) (bu35 hw) (rm31_144 hw hS O14 b15 v1_ v2_ v3_ v4_ k16 F14_0 U3 U9 U10) 0 (by decide) [.ref b15, .int 2] rfl (lenOf pd36 rfl) hml rfl rfl rfl y d7_32 rfl ?_
  rintro _ T17 _ X17 ⟨rfl, N17q, e17⟩
  have N17 := Fr.app N14 N17q
  refine oS (XS.sipush X17.here hx rfl (hb y d7_35)) ?_
  refine sU X17 hx y d7_38 (tlt hq3c_2).2.2.1 54 (by decide) ?_
  refine sB X17 hx y d7_54 rfl rfl ?_
  exact own_retA X17 hx hr rfl rfl hl (hb y d7_56) (by decide) (by decide) (by rw [e17]; exact Or.inl ⟨b15, k16, rfl, N17, K14, u14_0, F14_0⟩)
 ·
  have N3d := Fr.app (Fr.nil n0) N3dq
  have O3d := O1.keep K3dq (allS g1 all0)
  have K3d := Keep.trans K1 K3dq (allS (Or.inr y1) all0)
  refine sO X3 hx y d7_12 #[rv v0_, iv 0, iv 4, rv b1, iv 3, .unset] rfl ?_
  refine sJ X3 hx y d7_14 rfl ?_
  refine sI X3 hx y d7_16 rfl ?_
  refine sV X3 hx y d7_17 (by decide) ?_
  refine sA X3 hx y d7_20 rfl rfl ?_
  refine sI X3 hx y d7_21 rfl ?_
  refine sI X3 hx y d7_22 rfl ?_
  have f18 := (f2.keep K3dq (ninS ne1_0 nin0))
  refine oCS X3 hx hZ ho (oW hw 120 rfl) (bu31 hw) (rm27_141 hw hS O3d v0_ v1_ v2_ v3_ v4_ v5_ f18) 0 (by decide) [.ref v0_, .int 0, .int 4] rfl (lenOf pd32 rfl) hml rfl rfl rfl y d7_23 rfl ?_
  rintro _ T19 _ X19 ⟨b20, k21, rfl, N19q, K19q, y19_0, F19_0⟩
  have N19 := Fr.app N3d N19q
  have u19_0 : h0.size ≤ b20 := Nat.le_trans (K3d.1) y19_0
  have O19 := O3d.keep K19q all0
  have K19 := Keep.trans K3d K19q all0
  refine sQ X19 hx y d7_26 rfl #[rv v0_, iv 0, iv 4, rv b1, iv 3, rv b20] rfl ?_
  refine sB X19 hx y d7_28 rfl rfl ?_
  refine sJ X19 hx y d7_30 rfl ?_
  refine oCS X19 hx hZ ho (oW hw 136 rfl) (bu35 hw) (rm31_145 hw hS O19 b20 v1_ v2_ v3_ v4_ k21 F19_0 U4 U11 U12) 0 (by decide) [.ref b20, .int 3] rfl (lenOf pd36 rfl) hml rfl rfl rfl y d7_32 rfl ?_
  rintro _ T22 _ X22 ⟨rfl, N22q, e22⟩
  have N22 := Fr.app N19 N22q
  refine oS (XS.sipush X22.here hx rfl (hb y d7_35)) ?_
  refine sU X22 hx y d7_38 (tlt hq3d_3).2.2.1 54 (by decide) ?_
  refine sB X22 hx y d7_54 rfl rfl ?_
  exact own_retA X22 hx hr rfl rfl hl (hb y d7_56) (by decide) (by decide) (by rw [e22]; exact Or.inl ⟨b20, k21, rfl, N22, K19, u19_0, F19_0⟩)
 ·
  have N3e := Fr.app (Fr.nil n0) N3eq
  have K3e := Keep.trans K1 K3eq (allS (Or.inr y1) all0)
  refine sO X3 hx y d7_12 #[rv v0_, iv 0, iv 4, rv b1, iv 4, .unset] rfl ?_
  refine sJ X3 hx y d7_14 rfl ?_
  refine sI X3 hx y d7_16 rfl ?_
  refine sU X3 hx y d7_17 (by decide) 57 (by decide) ?_
  refine sA X3 hx y d7_57 rfl rfl ?_
  exact own_retA X3 hx hr rfl rfl hl (hb y d7_58) (by decide) (by decide) (Or.inr (⟨b1, k1, hq3e_0, hq3e_1, hq3e_2, hq3e_3, rfl, N3e, K3e, y1, F3e_0⟩))


theorem rm9_147 (v0_ : Addr) (v1_ v2_ v3_ v4_ : Int32) (v5_ : ClassId) (U0 : Arv Z h0 v0_ v5_ .byte 8 [(.int (oLo v1_)), (.int (oHi v1_)), (.int (oLo v2_)), (.int (oHi v2_)), (.int (oLo v3_)), (.int (oHi v3_)), (.int (oLo v4_)), (.int (oHi v4_))] (.int 0)) :
  oM hw hS O0 l y9 cd9 (oR 0 0 0 0) #[.ref v0_, .int 4] (fun v h L => (v = some (.int 1) ∧ Fr n0 L ∧ h = h0)) := by
 refine own_met (own := "java/lang/StringUTF16") (plainFor_of_name pn14) rfl ?_
 intro p e s m u mt c s₁ hx y hml ho hq hr hl hZ e0 X0
 refine own_cast (g' := (mkF m 0 #[rv v0_, iv 4] [])) rfl ?_
 refine sI X0 hx y d9_0 rfl ?_
 refine sA X0 hx y d9_1 rfl rfl ?_
 refine sa X0 hx hZ e0 U0 y d9_2 ?_
 refine sK X0 hx y d9_3 ?_
 refine oV (b := (-4)) (by decide) ?_
 refine sD X0 hx y d9_4 ?_
 refine oS (XS.iushr X0.here hx rfl (hb y d9_6) rfl) ?_
 refine oV (b := 1) (by decide) ?_
 refine oS (XS.i2b X0.here hx rfl (hb y d9_7) rfl) ?_
 refine oV (b := 1) (by decide) ?_
 exact own_retN X0 hx (t := .byte) hr (by simp) hl (hb y d9_8) (by decide) (by decide) (by rw [e0]; exact ⟨rfl, (Fr.nil n0), rfl⟩)


theorem rm9_148 (v0_ : Addr) (v1_ v2_ v3_ v4_ : Int32) (v5_ : ClassId) (U0 : Arv Z h0 v0_ v5_ .byte 4 [(.int (oBy v1_)), (.int (oBy v2_)), (.int (oBy v3_)), (.int (oBy v4_))] (.int 0)) :
  oM hw hS O0 l y9 cd9 (oR 0 0 0 0) #[.ref v0_, .int 4] (fun v h L => (v = some (.int 0) ∧ Fr n0 L ∧ h = h0)) := by
 refine own_met (own := "java/lang/StringUTF16") (plainFor_of_name pn14) rfl ?_
 intro p e s m u mt c s₁ hx y hml ho hq hr hl hZ e0 X0
 refine own_cast (g' := (mkF m 0 #[rv v0_, iv 4] [])) rfl ?_
 refine sI X0 hx y d9_0 rfl ?_
 refine sA X0 hx y d9_1 rfl rfl ?_
 refine sa X0 hx hZ e0 U0 y d9_2 ?_
 refine sK X0 hx y d9_3 ?_
 refine oV (b := 0) (by decide) ?_
 refine sD X0 hx y d9_4 ?_
 refine oS (XS.iushr X0.here hx rfl (hb y d9_6) rfl) ?_
 refine oV (b := 0) (by decide) ?_
 refine oS (XS.i2b X0.here hx rfl (hb y d9_7) rfl) ?_
 refine oV (b := 0) (by decide) ?_
 exact own_retN X0 hx (t := .byte) hr (by simp) hl (hb y d9_8) (by decide) (by decide) (by rw [e0]; exact ⟨rfl, (Fr.nil n0), rfl⟩)


theorem rm5_149 (v0_ v1_ : Addr) (v2_ v3_ v4_ v5_ : Int32) (v6_ : ClassId) (U0 : Ga Z h0 v0_) (U1 : Fa Z h0 v0_ (.int 0)) (U2 : Fb Z h0 v0_ .null) (U3 : Arv Z h0 v1_ v6_ .char 4 [(.int v2_), (.int v3_), (.int v4_), (.int v5_)] (.int 0)) (U4 : n0 ≤ v0_) (U5 : nar .char v2_ = v2_) (U6 : nar .char v3_ = v3_) (U7 : nar .char v4_ = v4_) (U8 : nar .char v5_ = v5_) (U9 : ¬ (v2_ < (0 : Int32))) (U10 : ¬ ((65535 : Int32) < v2_)) (U11 : ¬ (v3_ < (0 : Int32))) (U12 : ¬ ((65535 : Int32) < v3_)) (U13 : ¬ (v4_ < (0 : Int32))) (U14 : ¬ ((65535 : Int32) < v4_)) (U15 : ¬ (v5_ < (0 : Int32))) (U16 : ¬ ((65535 : Int32) < v5_)) :
  oM hw hS O0 l y5 cd5 (oR 4 2 12 57) #[.ref v0_, .ref v1_, .int 0, .int 4, .null] (fun v h L => (∃ (b4 : Addr) (k5 : ClassId), v = none ∧ Fr n0 L ∧ Keep h0 h [v0_] ∧ h0.size ≤ b4 ∧ v0_ ≠ b4 ∧ Ga Z h v0_ ∧ Fa Z h v0_ (.int 1) ∧ Fb Z h v0_ (.ref b4) ∧ Arv Z h b4 k5 .byte 8 [(.int (oLo v2_)), (.int (oHi v2_)), (.int (oLo v3_)), (.int (oHi v3_)), (.int (oLo v4_)), (.int (oHi v4_)), (.int (oLo v5_)), (.int (oHi v5_))] (.int 0)) ∨ (∃ (b6 : Addr) (k7 : ClassId), ¬ ((255 : Int32) < v2_) ∧ ¬ ((255 : Int32) < v3_) ∧ ¬ ((255 : Int32) < v4_) ∧ ¬ ((255 : Int32) < v5_) ∧ v = none ∧ Fr n0 L ∧ Keep h0 h [v0_] ∧ h0.size ≤ b6 ∧ v0_ ≠ b6 ∧ Ga Z h v0_ ∧ Fa Z h v0_ (.int 0) ∧ Fb Z h v0_ (.ref b6) ∧ Arv Z h b6 k7 .byte 4 [(.int (oBy v2_)), (.int (oBy v3_)), (.int (oBy v4_)), (.int (oBy v5_))] (.int 0))) := by
 refine own_met (own := "java/lang/String") (plainFor_of_name pn46) rfl ?_
 intro p e s m u mt c s₁ hx y hml ho hq hr hl hZ e0 X0
 refine own_cast (g' := (mkF m 0 #[rv v0_, rv v1_, iv 0, iv 4, .val .null, .unset] [])) rfl ?_
 refine sA X0 hx y d5_0 rfl rfl ?_
 obtain ⟨T1, X1, e1, st1⟩ := initO X0 hx hZ ho (oW hw 23 rfl) (oW hw 24 rfl) (oW hw 25 rfl) e0 (g := (mkF m 1 #[rv v0_, rv v1_, iv 0, iv 4, .val .null, .unset] [.ref v0_])) rfl (by rw [hml]; rfl) rfl (hb y d5_1) (by decide) (W := 0) (by show 2 * 0 + _ ≤ _; exact Nat.le_of_eq rfl) (by decide)
 refine own_step st1 ?_
 refine sI X1 hx y d5_4 rfl ?_
 refine sS X1 hx y d5_5 (by decide) 27 (by decide) ?_
 obtain ⟨T2, X2, e2, st2⟩ := getS2 X1 hx hZ ho (host := "") (Or.inl (oW hw 26 rfl)) Via.refl e1 ((st_w3i_COMPACT_STRINGS hw hS).ext O0.2) (g := (mkF m 27 #[rv v0_, rv v1_, iv 0, iv 4, .val .null, .unset] [])) rfl (hb y d5_27)
 refine own_step st2 ?_
 refine sT X2 hx y d5_30 ((if0 _ _).trans (feq (ne_w3i_COMPACT_STRINGS hw hS)).1) ?_
 refine sA X2 hx y d5_33 rfl rfl ?_
 refine sI X2 hx y d5_34 rfl ?_
 refine sI X2 hx y d5_35 rfl ?_
 refine oCS X2 hx hZ ho (oW hw 27 rfl) (bu38 hw) (rm7_146 hw hS O0 v1_ v2_ v3_ v4_ v5_ v6_ U3 U5 U6 U7 U8 U9 U10 U11 U12 U13 U14 U15 U16) 0 (by decide) [.ref v1_, .int 0, .int 4] rfl (lenOf pd32 rfl) hml rfl rfl rfl y d5_36 e2 ?_
 rintro _ T3 _ X3 (⟨b4, k5, rfl, N3aq, K3aq, y3a_0, F3a_0⟩ | ⟨b6, k7, hq3b_0, hq3b_1, hq3b_2, hq3b_3, rfl, N3bq, K3bq, y3b_0, F3b_0⟩)
 ·
  have N3a := Fr.app (Fr.nil n0) N3aq
  have ne3a_0_0 : v0_ ≠ b4 := Nat.ne_of_lt (Nat.lt_of_lt_of_le U0.lt y3a_0)
  have u3a_0 : h0.size ≤ b4 := Nat.le_trans (Nat.le_refl _) y3a_0
  have O3a := O0.keep K3aq all0
  have K3a := Keep.trans (Keep.refl h0 [v0_]) K3aq all0
  refine sQ X3 hx y d5_39 rfl #[rv v0_, rv v1_, iv 0, iv 4, .val .null, rv b4] rfl ?_
  refine sA X3 hx y d5_41 rfl rfl ?_
  refine sB X3 hx y d5_42 rfl rfl ?_
  refine sI X3 hx y d5_44 rfl ?_
  refine oCS X3 hx hZ ho (oW hw 35 rfl) (bu41 hw) (rm9_147 hw hS O3a b4 v2_ v3_ v4_ v5_ k5 F3a_0) 1 (by decide) [.ref b4, .int 4] rfl (lenOf pd42 rfl) hml rfl rfl rfl y d5_45 rfl ?_
  rintro _ T8 _ X8 ⟨rfl, N8q, e8⟩
  have N8 := Fr.app N3a N8q
  have f9 := (U1.keep K3aq nin0)
  have f10 := (U0.keep K3aq)
  obtain ⟨T11, h11, X11, e11, W11, st11⟩ := putFN X8 hx hZ ho (oW hw 38 rfl) Via.refl e8 f9 f10 (Or.inr ⟨(oW hw 39 rfl), rfl, hq⟩) (oW hw 13 rfl) (ty := .byte) (v' := (.int 1)) (by decide) rfl (by decide) (g := (mkF m 48 #[rv v0_, rv v1_, iv 0, iv 4, .val .null, rv b4] [.int 1, .ref v0_])) rfl rfl (hb y d5_48)
  refine own_step st11 ?_
  have N11 := Fr.snoc X11 N8 U4
  have K11 := K3a.wr W11 (Or.inl (by simp))
  have Fw11 := f9.same W11
  refine sA X11 hx y d5_51 rfl rfl ?_
  refine sB X11 hx y d5_52 rfl rfl ?_
  have f12 := ((U2.keep K3aq nin0).other W11 (Or.inr (sn43 hw)))
  have f13 := (f10.wr W11)
  refine sp X11 hx hZ ho (oW hw 40 rfl) e11 f12 f13 (Or.inr ⟨(oW hw 41 rfl), rfl, hq⟩) (oW hw 13 rfl) (ty := (.array .byte)) (by decide) rfl rfl y d5_54 fun T14 h14 X14 e14 W14 => ?_
  have N14 := Fr.snoc X14 N11 U4
  have K14 := K11.wr W14 (Or.inl (by simp))
  have Fw14 := f12.same W14
  have f15 := (f13.wr W14)
  have f16 := (Fw11.other W14 (Or.inr (sn44 hw)))
  have f17 := ((F3a_0.other W11 (Ne.symm ne3a_0_0)).other W14 (Ne.symm ne3a_0_0))
  exact own_retV X14 hx hr hl (hb y d5_57) (by decide) (by decide) (by rw [e14]; exact Or.inl ⟨b4, k5, rfl, N14, K14, u3a_0, ne3a_0_0, f15, f16, Fw14, f17⟩)
 ·
  have N3b := Fr.app (Fr.nil n0) N3bq
  have ne3b_0_0 : v0_ ≠ b6 := Nat.ne_of_lt (Nat.lt_of_lt_of_le U0.lt y3b_0)
  have u3b_0 : h0.size ≤ b6 := Nat.le_trans (Nat.le_refl _) y3b_0
  have O3b := O0.keep K3bq all0
  have K3b := Keep.trans (Keep.refl h0 [v0_]) K3bq all0
  refine sQ X3 hx y d5_39 rfl #[rv v0_, rv v1_, iv 0, iv 4, .val .null, rv b6] rfl ?_
  refine sA X3 hx y d5_41 rfl rfl ?_
  refine sB X3 hx y d5_42 rfl rfl ?_
  refine sI X3 hx y d5_44 rfl ?_
  refine oCS X3 hx hZ ho (oW hw 35 rfl) (bu41 hw) (rm9_148 hw hS O3b b6 v2_ v3_ v4_ v5_ k7 F3b_0) 1 (by decide) [.ref b6, .int 4] rfl (lenOf pd42 rfl) hml rfl rfl rfl y d5_45 rfl ?_
  rintro _ T18 _ X18 ⟨rfl, N18q, e18⟩
  have N18 := Fr.app N3b N18q
  have f19 := (U1.keep K3bq nin0)
  have f20 := (U0.keep K3bq)
  obtain ⟨T21, h21, X21, e21, W21, st21⟩ := putFN X18 hx hZ ho (oW hw 38 rfl) Via.refl e18 f19 f20 (Or.inr ⟨(oW hw 39 rfl), rfl, hq⟩) (oW hw 13 rfl) (ty := .byte) (v' := (.int 0)) (by decide) rfl (by decide) (g := (mkF m 48 #[rv v0_, rv v1_, iv 0, iv 4, .val .null, rv b6] [.int 0, .ref v0_])) rfl rfl (hb y d5_48)
  refine own_step st21 ?_
  have N21 := Fr.snoc X21 N18 U4
  have K21 := K3b.wr W21 (Or.inl (by simp))
  have Fw21 := f19.same W21
  refine sA X21 hx y d5_51 rfl rfl ?_
  refine sB X21 hx y d5_52 rfl rfl ?_
  have f22 := ((U2.keep K3bq nin0).other W21 (Or.inr (sn43 hw)))
  have f23 := (f20.wr W21)
  refine sp X21 hx hZ ho (oW hw 40 rfl) e21 f22 f23 (Or.inr ⟨(oW hw 41 rfl), rfl, hq⟩) (oW hw 13 rfl) (ty := (.array .byte)) (by decide) rfl rfl y d5_54 fun T24 h24 X24 e24 W24 => ?_
  have N24 := Fr.snoc X24 N21 U4
  have K24 := K21.wr W24 (Or.inl (by simp))
  have Fw24 := f22.same W24
  have f25 := (f23.wr W24)
  have f26 := (Fw21.other W24 (Or.inr (sn44 hw)))
  have f27 := ((F3b_0.other W21 (Ne.symm ne3b_0_0)).other W24 (Ne.symm ne3b_0_0))
  exact own_retV X24 hx hr hl (hb y d5_57) (by decide) (by decide) (by rw [e24]; exact Or.inr (⟨b6, k7, hq3b_0, hq3b_1, hq3b_2, hq3b_3, rfl, N24, K24, u3b_0, ne3b_0_0, f25, f26, Fw24, f27⟩))


theorem rm4_150 (v0_ v1_ : Addr) (v2_ v3_ v4_ v5_ : Int32) (v6_ : ClassId) (U0 : Ga Z h0 v0_) (U1 : Fa Z h0 v0_ (.int 0)) (U2 : Fb Z h0 v0_ .null) (U3 : Arv Z h0 v1_ v6_ .char 4 [(.int v2_), (.int v3_), (.int v4_), (.int v5_)] (.int 0)) (U4 : n0 ≤ v0_) (U5 : nar .char v2_ = v2_) (U6 : nar .char v3_ = v3_) (U7 : nar .char v4_ = v4_) (U8 : nar .char v5_ = v5_) (U9 : ¬ (v2_ < (0 : Int32))) (U10 : ¬ ((65535 : Int32) < v2_)) (U11 : ¬ (v3_ < (0 : Int32))) (U12 : ¬ ((65535 : Int32) < v3_)) (U13 : ¬ (v4_ < (0 : Int32))) (U14 : ¬ ((65535 : Int32) < v4_)) (U15 : ¬ (v5_ < (0 : Int32))) (U16 : ¬ ((65535 : Int32) < v5_)) :
  oM hw hS O0 l y4 cd4 (oR 5 2 12 74) #[.ref v0_, .ref v1_] (fun v h L => (∃ (b3 : Addr) (k4 : ClassId), v = none ∧ Fr n0 L ∧ Keep h0 h [v0_] ∧ h0.size ≤ b3 ∧ v0_ ≠ b3 ∧ Ga Z h v0_ ∧ Fa Z h v0_ (.int 1) ∧ Fb Z h v0_ (.ref b3) ∧ Arv Z h b3 k4 .byte 8 [(.int (oLo v2_)), (.int (oHi v2_)), (.int (oLo v3_)), (.int (oHi v3_)), (.int (oLo v4_)), (.int (oHi v4_)), (.int (oLo v5_)), (.int (oHi v5_))] (.int 0)) ∨ (∃ (b5 : Addr) (k6 : ClassId), ¬ ((255 : Int32) < v2_) ∧ ¬ ((255 : Int32) < v3_) ∧ ¬ ((255 : Int32) < v4_) ∧ ¬ ((255 : Int32) < v5_) ∧ v = none ∧ Fr n0 L ∧ Keep h0 h [v0_] ∧ h0.size ≤ b5 ∧ v0_ ≠ b5 ∧ Ga Z h v0_ ∧ Fa Z h v0_ (.int 0) ∧ Fb Z h v0_ (.ref b5) ∧ Arv Z h b5 k6 .byte 4 [(.int (oBy v2_)), (.int (oBy v3_)), (.int (oBy v4_)), (.int (oBy v5_))] (.int 0))) := by
 refine own_met (own := "java/lang/String") (plainFor_of_name pn46) rfl ?_
 intro p e s m u mt c s₁ hx y hml ho hq hr hl hZ e0 X0
 refine own_cast (g' := (mkF m 0 #[rv v0_, rv v1_] [])) rfl ?_
 refine sA X0 hx y d4_0 rfl rfl ?_
 refine sA X0 hx y d4_1 rfl rfl ?_
 refine sC X0 hx y d4_2 ?_
 refine sA X0 hx y d4_3 rfl rfl ?_
 refine sa X0 hx hZ e0 U3 y d4_4 ?_
 refine oS (XS.aconstNull X0.here hx rfl (hb y d4_5)) ?_
 refine oCN X0 hx hZ ho (oW hw 19 rfl) (bu47 hw) (rm5_149 hw hS O0 v0_ v1_ v2_ v3_ v4_ v5_ v6_ U0 U1 U2 U3 U4 U5 U6 U7 U8 U9 U10 U11 U12 U13 U14 U15 U16) 0 (by decide) [.ref v1_, .int 0, .int 4, .null] rfl (lenOf pd48 rfl) hml rfl rfl rfl y d4_6 e0 ?_
 rintro _ T2 _ X2 (⟨b3, k4, rfl, N2aq, K2aq, y2a_0, m2a_0, F2a_0, F2a_1, F2a_2, F2a_3⟩ | ⟨b5, k6, hq2b_0, hq2b_1, hq2b_2, hq2b_3, rfl, N2bq, K2bq, y2b_0, m2b_0, F2b_0, F2b_1, F2b_2, F2b_3⟩)
 ·
  have N2a := Fr.app (Fr.nil n0) N2aq
  have u2a_0 : h0.size ≤ b3 := Nat.le_trans (Nat.le_refl _) y2a_0
  have K2a := Keep.trans (Keep.refl h0 [v0_]) K2aq (allS (Or.inl (by simp)) all0)
  exact own_retV X2 hx hr hl (hb y d4_9) (by decide) (by decide) (Or.inl ⟨b3, k4, rfl, N2a, K2a, u2a_0, m2a_0, F2a_0, F2a_1, F2a_2, F2a_3⟩)
 ·
  have N2b := Fr.app (Fr.nil n0) N2bq
  have u2b_0 : h0.size ≤ b5 := Nat.le_trans (Nat.le_refl _) y2b_0
  have K2b := Keep.trans (Keep.refl h0 [v0_]) K2bq (allS (Or.inl (by simp)) all0)
  exact own_retV X2 hx hr hl (hb y d4_9) (by decide) (by decide) (Or.inr (⟨b5, k6, hq2b_0, hq2b_1, hq2b_2, hq2b_3, rfl, N2b, K2b, u2b_0, m2b_0, F2b_0, F2b_1, F2b_2, F2b_3⟩))


theorem rm3_151 (v0_ v1_ v2_ v3_ : Int32) (U0 : nar .char v0_ = v0_) (U1 : nar .char v1_ = v1_) (U2 : nar .char v2_ = v2_) (U3 : nar .char v3_ = v3_) (U4 : ¬ (v0_ < (0 : Int32))) (U5 : ¬ ((65535 : Int32) < v0_)) (U6 : ¬ (v1_ < (0 : Int32))) (U7 : ¬ ((65535 : Int32) < v1_)) (U8 : ¬ (v2_ < (0 : Int32))) (U9 : ¬ ((65535 : Int32) < v2_)) (U10 : ¬ (v3_ < (0 : Int32))) (U11 : ¬ ((65535 : Int32) < v3_)) :
  oM hw hS O0 l y3 cd3 (oR 6 4 20 88) #[.int 4, .int v0_, .int v1_, .int v2_, .int v3_] (fun v h L => (∃ (b1 : Addr) (b11 : Addr) (k12 : ClassId), v = some (.ref b1) ∧ Fr n0 L ∧ Keep h0 h [] ∧ h0.size ≤ b1 ∧ h0.size ≤ b11 ∧ b1 ≠ b11 ∧ Ga Z h b1 ∧ Fa Z h b1 (.int 1) ∧ Fb Z h b1 (.ref b11) ∧ Arv Z h b11 k12 .byte 8 [(.int (oLo v0_)), (.int (oHi v0_)), (.int (oLo v1_)), (.int (oHi v1_)), (.int (oLo v2_)), (.int (oHi v2_)), (.int (oLo v3_)), (.int (oHi v3_))] (.int 0)) ∨ (∃ (b1 : Addr) (b13 : Addr) (k14 : ClassId), ¬ ((255 : Int32) < v0_) ∧ ¬ ((255 : Int32) < v1_) ∧ ¬ ((255 : Int32) < v2_) ∧ ¬ ((255 : Int32) < v3_) ∧ v = some (.ref b1) ∧ Fr n0 L ∧ Keep h0 h [] ∧ h0.size ≤ b1 ∧ h0.size ≤ b13 ∧ b1 ≠ b13 ∧ Ga Z h b1 ∧ Fa Z h b1 (.int 0) ∧ Fb Z h b1 (.ref b13) ∧ Arv Z h b13 k14 .byte 4 [(.int (oBy v0_)), (.int (oBy v1_)), (.int (oBy v2_)), (.int (oBy v3_))] (.int 0))) := by
 refine own_met (own := "com/example/linepack/linepack/ValuesIdPinLaw") (plainFor_of_name pn2) rfl ?_
 intro p e s m u mt c s₁ hx y hml ho hq hr hl hZ e0 X0
 refine own_cast (g' := (mkF m 0 #[iv 4, iv v0_, iv v1_, iv v2_, iv v3_] [])) rfl ?_
 refine sI X0 hx y d3_0 rfl ?_
 refine sC X0 hx y d3_1 ?_
 refine sU X0 hx y d3_2 (by decide) 20 (by decide) ?_
 refine sI X0 hx y d3_20 rfl ?_
 refine sC X0 hx y d3_21 ?_
 refine sU X0 hx y d3_22 (by decide) 44 (by decide) ?_
 refine sI X0 hx y d3_44 rfl ?_
 refine sC X0 hx y d3_45 ?_
 refine sU X0 hx y d3_46 (by decide) 72 (by decide) ?_
 obtain ⟨T1, h1, X1, e1, E1, A1, D1, -, st1⟩ := newO X0 hx hZ ho (oW hw 12 rfl) (oW hw 13 rfl) (oW hw 14 rfl) e0 (g := (mkF m 72 #[iv 4, iv v0_, iv v1_, iv v2_, iv v3_] [])) rfl (hb y d3_72) (by decide) (by decide)
 obtain ⟨b1, z1⟩ : ∃ z, z = h0.size := ⟨_, rfl⟩
 rw [← z1] at A1 D1 st1
 refine own_step st1 ?_
 have g1 : n0 ≤ b1 := Nat.le_trans (O0.1 ▸ O0.2.1) (Nat.le_of_eq z1.symm)
 have y1 : h0.size ≤ b1 := Nat.le_trans (Nat.le_refl _) (Nat.le_of_eq z1.symm)
 have O1 := O0.ext E1
 have K1 := (Keep.refl h0 []).ext E1
 have F1_39 : Fa Z h1 b1 (.int 0) := D1 (Or.inr (oW hw 39 rfl)) (ty := .byte) (by decide)
 have F1_41 : Fb Z h1 b1 .null := D1 (Or.inr (oW hw 41 rfl)) (ty := (.array .byte)) (by decide)
 refine sF X1 hx y d3_75 rfl ?_
 refine sC X1 hx y d3_76 ?_
 obtain ⟨T2, h2, k2, X2, e2, E2, A2, st2⟩ := newP X1 hx hZ (oW hw 15 rfl) e1 (g := (mkF m 77 #[iv 4, iv v0_, iv v1_, iv v2_, iv v3_] [.int 4, .ref b1, .ref b1])) rfl (hb y d3_77) rfl (by decide) (cap := 4) (by decide) (by decide) (by decide) (by decide)
 obtain ⟨b2, z2⟩ : ∃ z, z = h1.size := ⟨_, rfl⟩
 rw [← z2] at A2 st2
 refine own_step st2 ?_
 have g2 : n0 ≤ b2 := Nat.le_trans (O1.1 ▸ O1.2.1) (Nat.le_of_eq z2.symm)
 have ne2_0 : b1 ≠ b2 := Nat.ne_of_lt (Nat.lt_of_lt_of_le A1.lt (Nat.le_of_eq z2.symm))
 have y2 : h0.size ≤ b2 := Nat.le_trans (K1.1) (Nat.le_of_eq z2.symm)
 have O2 := O1.ext E2
 have K2 := K1.ext E2
 have V2 : Arv Z h2 b2 k2 .char 4 [(.int 0), (.int 0), (.int 0), (.int 0)] (.int 0) := (Arv.new A2 (by decide)).pad (pad_rep [] (.int 0) 4)
 refine sF X2 hx y d3_79 rfl ?_
 refine sC X2 hx y d3_80 ?_
 refine sI X2 hx y d3_81 rfl ?_
 obtain ⟨c3, r3, q3, t3, u3, y3h, y3g⟩ := id V2
 have i3 : ¬ ((0 : Int32) < 0 ∨ c3.slots.size ≤ ((0 : Int32)).toNatClampNeg) := inb_of t3 ⟨by decide, by decide⟩
 obtain ⟨T3, h3, X3, e3, W3, st3⟩ := stC X2 hx hZ e2 r3 (j := (0 : Int32)) i3 (g := (mkF m 82 #[iv 4, iv v0_, iv v1_, iv v2_, iv v3_] [.int v0_, .int 0, .ref b2, .ref b2, .ref b1, .ref b1])) rfl rfl (hb y d3_82)
 rw [U0] at W3
 refine own_step st3 ?_
 have N3 := Fr.snoc X3 (Fr.nil n0) g2
 have O3 := O2.wr W3 g2
 have K3 := K2.wr W3 (Or.inr y2)
 have V3 : Arv Z h3 b2 k2 .char 4 [(.int v0_), (.int 0), (.int 0), (.int 0)] (.int 0) := Arv.set r3 q3 t3 u3 y3h y3g (own_fitc U0) W3 0 rfl (Nat.le_of_ble_eq_true rfl)
 refine sF X3 hx y d3_83 rfl ?_
 refine sC X3 hx y d3_84 ?_
 refine sI X3 hx y d3_85 rfl ?_
 obtain ⟨c4, r4, q4, t4, u4, y4h, y4g⟩ := id V3
 have i4 : ¬ ((1 : Int32) < 0 ∨ c4.slots.size ≤ ((1 : Int32)).toNatClampNeg) := inb_of t4 ⟨by decide, by decide⟩
 obtain ⟨T4, h4, X4, e4, W4, st4⟩ := stC X3 hx hZ e3 r4 (j := (1 : Int32)) i4 (g := (mkF m 86 #[iv 4, iv v0_, iv v1_, iv v2_, iv v3_] [.int v1_, .int 1, .ref b2, .ref b2, .ref b1, .ref b1])) rfl rfl (hb y d3_86)
 rw [U1] at W4
 refine own_step st4 ?_
 have N4 := Fr.snoc X4 N3 g2
 have O4 := O3.wr W4 g2
 have K4 := K3.wr W4 (Or.inr y2)
 have V4 : Arv Z h4 b2 k2 .char 4 [(.int v0_), (.int v1_), (.int 0), (.int 0)] (.int 0) := Arv.set r4 q4 t4 u4 y4h y4g (own_fitc U1) W4 1 rfl (Nat.le_of_ble_eq_true rfl)
 refine sF X4 hx y d3_87 rfl ?_
 refine sC X4 hx y d3_88 ?_
 refine sI X4 hx y d3_89 rfl ?_
 obtain ⟨c5, r5, q5, t5, u5, y5h, y5g⟩ := id V4
 have i5 : ¬ ((2 : Int32) < 0 ∨ c5.slots.size ≤ ((2 : Int32)).toNatClampNeg) := inb_of t5 ⟨by decide, by decide⟩
 obtain ⟨T5, h5, X5, e5, W5, st5⟩ := stC X4 hx hZ e4 r5 (j := (2 : Int32)) i5 (g := (mkF m 90 #[iv 4, iv v0_, iv v1_, iv v2_, iv v3_] [.int v2_, .int 2, .ref b2, .ref b2, .ref b1, .ref b1])) rfl rfl (hb y d3_90)
 rw [U2] at W5
 refine own_step st5 ?_
 have N5 := Fr.snoc X5 N4 g2
 have O5 := O4.wr W5 g2
 have K5 := K4.wr W5 (Or.inr y2)
 have V5 : Arv Z h5 b2 k2 .char 4 [(.int v0_), (.int v1_), (.int v2_), (.int 0)] (.int 0) := Arv.set r5 q5 t5 u5 y5h y5g (own_fitc U2) W5 2 rfl (Nat.le_of_ble_eq_true rfl)
 refine sF X5 hx y d3_91 rfl ?_
 refine sC X5 hx y d3_92 ?_
 refine sJ X5 hx y d3_93 rfl ?_
 obtain ⟨c6, r6, q6, t6, u6, y6h, y6g⟩ := id V5
 have i6 : ¬ ((3 : Int32) < 0 ∨ c6.slots.size ≤ ((3 : Int32)).toNatClampNeg) := inb_of t6 ⟨by decide, by decide⟩
 obtain ⟨T6, h6, X6, e6, W6, st6⟩ := stC X5 hx hZ e5 r6 (j := (3 : Int32)) i6 (g := (mkF m 95 #[iv 4, iv v0_, iv v1_, iv v2_, iv v3_] [.int v3_, .int 3, .ref b2, .ref b2, .ref b1, .ref b1])) rfl rfl (hb y d3_95)
 rw [U3] at W6
 refine own_step st6 ?_
 have N6 := Fr.snoc X6 N5 g2
 have O6 := O5.wr W6 g2
 have K6 := K5.wr W6 (Or.inr y2)
 have V6 : Arv Z h6 b2 k2 .char 4 [(.int v0_), (.int v1_), (.int v2_), (.int v3_)] (.int 0) := Arv.set r6 q6 t6 u6 y6h y6g (own_fitc U3) W6 3 rfl (Nat.le_of_ble_eq_true rfl)
 have f7 := (((((A1.ext E2).wr W3).wr W4).wr W5).wr W6)
 have f8 := (((((F1_39.ext E2).other W3 (Or.inl ne2_0)).other W4 (Or.inl ne2_0)).other W5 (Or.inl ne2_0)).other W6 (Or.inl ne2_0))
 have f9 := (((((F1_41.ext E2).other W3 (Or.inl ne2_0)).other W4 (Or.inl ne2_0)).other W5 (Or.inl ne2_0)).other W6 (Or.inl ne2_0))
 refine oCN X6 hx hZ ho (oW hw 16 rfl) (bu50 hw) (rm4_150 hw hS O6 b1 b2 v0_ v1_ v2_ v3_ k2 f7 f8 f9 V6 g1 U0 U1 U2 U3 U4 U5 U6 U7 U8 U9 U10 U11) 1 (by decide) [.ref b2] rfl (lenOf pd51 rfl) hml rfl rfl rfl y d3_96 e6 ?_
 rintro _ T10 _ X10 (⟨b11, k12, rfl, N10aq, K10aq, y10a_0, m10a_0, F10a_0, F10a_1, F10a_2, F10a_3⟩ | ⟨b13, k14, hq10b_0, hq10b_1, hq10b_2, hq10b_3, rfl, N10bq, K10bq, y10b_0, m10b_0, F10b_0, F10b_1, F10b_2, F10b_3⟩)
 ·
  have N10a := Fr.app N6 N10aq
  have u10a_0 : h0.size ≤ b11 := Nat.le_trans (K6.1) y10a_0
  have K10a := Keep.trans K6 K10aq (allS (Or.inr y1) all0)
  exact own_retA X10 hx hr rfl rfl hl (hb y d3_99) (by decide) (by decide) (Or.inl ⟨b1, b11, k12, rfl, N10a, K10a, y1, u10a_0, m10a_0, F10a_0, F10a_1, F10a_2, F10a_3⟩)
 ·
  have N10b := Fr.app N6 N10bq
  have u10b_0 : h0.size ≤ b13 := Nat.le_trans (K6.1) y10b_0
  have K10b := Keep.trans K6 K10bq (allS (Or.inr y1) all0)
  exact own_retA X10 hx hr rfl rfl hl (hb y d3_99) (by decide) (by decide) (Or.inr (⟨b1, b13, k14, hq10b_0, hq10b_1, hq10b_2, hq10b_3, rfl, N10b, K10b, y1, u10b_0, m10b_0, F10b_0, F10b_1, F10b_2, F10b_3⟩))


theorem rm11_152 (v0_ v1_ : Addr) (v2_ v3_ v4_ v5_ : Int32) (v6_ : ClassId) (U0 : Fb Z h0 v0_ (.ref v1_)) (U1 : Arv Z h0 v1_ v6_ .byte 8 [(.int (oLo v2_)), (.int (oHi v2_)), (.int (oLo v3_)), (.int (oHi v3_)), (.int (oLo v4_)), (.int (oHi v4_)), (.int (oLo v5_)), (.int (oHi v5_))] (.int 0)) :
  oM hw hS O0 l y11 cd11 (oR 0 0 0 0) #[.ref v0_] (fun v h L => (v = some (.int 0) ∧ Fr n0 L ∧ h = h0)) := by
 refine own_met (own := "java/lang/String") (plainFor_of_name pn46) rfl ?_
 intro p e s m u mt c s₁ hx y hml ho hq hr hl hZ e0 X0
 refine own_cast (g' := (mkF m 0 #[rv v0_] [])) rfl ?_
 refine sA X0 hx y d11_0 rfl rfl ?_
 refine sg X0 hx hZ ho (oW hw 40 rfl) e0 U0 y d11_1 fun T1 X1 e1 => ?_
 refine sa X1 hx hZ e1 U1 y d11_4 ?_
 refine sS X1 hx y d11_5 (by decide) 12 (by decide) ?_
 refine sC X1 hx y d11_12 ?_
 exact own_retN X1 hx (t := .boolean) hr (by simp) hl (hb y d11_13) (by decide) (by decide) (by rw [e1]; exact ⟨rfl, (Fr.nil n0), rfl⟩)


theorem rm12_153 (v0_ v1_ : Addr) (v2_ v3_ v4_ v5_ : Int32) (v6_ : ClassId) (U0 : Ga Z h0 v0_) (U1 : Fa Z h0 v0_ (.int 1)) (U2 : Fb Z h0 v0_ (.ref v1_)) (U3 : Arv Z h0 v1_ v6_ .byte 8 [(.int (oLo v2_)), (.int (oHi v2_)), (.int (oLo v3_)), (.int (oHi v3_)), (.int (oLo v4_)), (.int (oHi v4_)), (.int (oLo v5_)), (.int (oHi v5_))] (.int 0)) :
  oM hw hS O0 l y12 cd12 (oR 1 0 0 13) #[.ref v0_] (fun v h L => (v = some (.int 4) ∧ Fr n0 L ∧ h = h0)) := by
 refine own_met (own := "java/lang/String") (plainFor_of_name pn46) rfl ?_
 intro p e s m u mt c s₁ hx y hml ho hq hr hl hZ e0 X0
 refine own_cast (g' := (mkF m 0 #[rv v0_] [])) rfl ?_
 refine sA X0 hx y d12_0 rfl rfl ?_
 refine sg X0 hx hZ ho (oW hw 40 rfl) e0 U2 y d12_1 fun T1 X1 e1 => ?_
 refine sa X1 hx hZ e1 U3 y d12_4 ?_
 refine sA X1 hx y d12_5 rfl rfl ?_
 refine oCV X1 hx hZ ho (oW hw 59 rfl) (bu63 hw) U0 (rm13_15 hw hS O0 v0_ U1) 1 (by decide) [] rfl (lenOf pd64 rfl) hml rfl rfl rfl y d12_6 e1 ?_
 rintro _ T3 _ X3 ⟨rfl, N3q, e3⟩
 have N3 := Fr.app (Fr.nil n0) N3q
 refine sM X3 hx y d12_9 ?_
 refine oV (b := 4) (by decide) ?_
 exact own_retI X3 hx hr hl (hb y d12_10) (by decide) (by decide) (by rw [e3]; exact ⟨rfl, N3, rfl⟩)


theorem rm34_154 (v0_ : Addr) (v1_ v2_ v3_ v4_ : Int32) (v5_ : ClassId) (U0 : Arv Z h0 v0_ v5_ .byte 8 [(.int (oLo v1_)), (.int (oHi v1_)), (.int (oLo v2_)), (.int (oHi v2_)), (.int (oLo v3_)), (.int (oHi v3_)), (.int (oLo v4_)), (.int (oHi v4_))] (.int 0)) :
  oM hw hS O0 l y34 cd34 (oR 0 0 0 0) #[.ref v0_] (fun v h L => (v = some (.int 4) ∧ Fr n0 L ∧ h = h0)) := by
 refine own_met (own := "java/lang/StringUTF16") (plainFor_of_name pn14) rfl ?_
 intro p e s m u mt c s₁ hx y hml ho hq hr hl hZ e0 X0
 refine own_cast (g' := (mkF m 0 #[rv v0_] [])) rfl ?_
 refine sA X0 hx y d34_0 rfl rfl ?_
 refine sa X0 hx hZ e0 U0 y d34_1 ?_
 refine sC X0 hx y d34_2 ?_
 refine sM X0 hx y d34_3 ?_
 refine oV (b := 4) (by decide) ?_
 exact own_retI X0 hx hr hl (hb y d34_4) (by decide) (by decide) (by rw [e0]; exact ⟨rfl, (Fr.nil n0), rfl⟩)


theorem rm18_155  :
  oM hw hS O0 l y18 cd18 (oR 0 0 0 0) #[.int 0, .int 4, .null] (fun v h L => (v = some (.int 0) ∧ Fr n0 L ∧ h = h0)) := by
 refine own_met (own := "jdk/internal/util/Preconditions") (plainFor_of_name pn81) rfl ?_
 intro p e s m u mt c s₁ hx y hml ho hq hr hl hZ e0 X0
 refine own_cast (g' := (mkF m 0 #[iv 0, iv 4, .val .null] [])) rfl ?_
 refine sI X0 hx y d18_0 rfl ?_
 refine sT X0 hx y d18_1 (by decide) ?_
 refine sI X0 hx y d18_4 rfl ?_
 refine sI X0 hx y d18_5 rfl ?_
 refine sU X0 hx y d18_6 (by decide) 16 (by decide) ?_
 refine sI X0 hx y d18_16 rfl ?_
 exact own_retI X0 hx hr hl (hb y d18_17) (by decide) (by decide) (by rw [e0]; exact ⟨rfl, (Fr.nil n0), rfl⟩)


theorem rm18_156 (v0_ : Addr) :
  oM hw hS O0 l y18 cd18 (oR 0 0 0 0) #[.int 0, .int 4, .ref v0_] (fun v h L => (v = some (.int 0) ∧ Fr n0 L ∧ h = h0)) := by
 refine own_met (own := "jdk/internal/util/Preconditions") (plainFor_of_name pn81) rfl ?_
 intro p e s m u mt c s₁ hx y hml ho hq hr hl hZ e0 X0
 refine own_cast (g' := (mkF m 0 #[iv 0, iv 4, rv v0_] [])) rfl ?_
 refine sI X0 hx y d18_0 rfl ?_
 refine sT X0 hx y d18_1 (by decide) ?_
 refine sI X0 hx y d18_4 rfl ?_
 refine sI X0 hx y d18_5 rfl ?_
 refine sU X0 hx y d18_6 (by decide) 16 (by decide) ?_
 refine sI X0 hx y d18_16 rfl ?_
 exact own_retI X0 hx hr hl (hb y d18_17) (by decide) (by decide) (by rw [e0]; exact ⟨rfl, (Fr.nil n0), rfl⟩)


theorem rm17_157  :
  oM hw hS O0 l y17 cd17 (oR 1 0 0 14) #[.int 0, .int 4] (fun v h L => (v = none ∧ Fr n0 L ∧ h = h0)) := by
 refine own_met (own := "java/lang/String") (plainFor_of_name pn46) rfl ?_
 intro p e s m u mt c s₁ hx y hml ho hq hr hl hZ e0 X0
 refine own_cast (g' := (mkF m 0 #[iv 0, iv 4] [])) rfl ?_
 refine sI X0 hx y d17_0 rfl ?_
 refine sI X0 hx y d17_1 rfl ?_
 rcases (sr0 hw hS) with hs1 | ⟨a1, hs1⟩
 ·
  obtain ⟨T1n, X1n, e1n, st1n⟩ := getS2 X0 hx hZ ho (host := "") (Or.inl (oW hw 81 rfl)) Via.refl e0 (hs1.ext O0.2) (g := (mkF m 2 #[iv 0, iv 4] [.int 4, .int 0])) rfl (hb y d17_2)
  refine own_step st1n ?_
  refine oCS X1n hx hZ ho (oW hw 83 rfl) (bu82 hw) (rm18_155 hw hS O0) 0 (by decide) [.int 0, .int 4, .null] rfl (lenOf pd83 rfl) hml rfl rfl rfl y d17_5 e1n ?_
  rintro _ T2 _ X2 ⟨rfl, N2q, e2⟩
  have N2 := Fr.app (Fr.nil n0) N2q
  refine sG X2 hx y d17_8 rfl ?_
  exact own_retV X2 hx hr hl (hb y d17_9) (by decide) (by decide) (by rw [e2]; exact ⟨rfl, N2, rfl⟩)
 ·
  obtain ⟨T1r, X1r, e1r, st1r⟩ := getS2 X0 hx hZ ho (host := "") (Or.inl (oW hw 81 rfl)) Via.refl e0 (hs1.ext O0.2) (g := (mkF m 2 #[iv 0, iv 4] [.int 4, .int 0])) rfl (hb y d17_2)
  refine own_step st1r ?_
  refine oCS X1r hx hZ ho (oW hw 83 rfl) (bu82 hw) (rm18_156 hw hS O0 a1) 0 (by decide) [.int 0, .int 4, .ref a1] rfl (lenOf pd83 rfl) hml rfl rfl rfl y d17_5 e1r ?_
  rintro _ T3 _ X3 ⟨rfl, N3q, e3⟩
  have N3 := Fr.app (Fr.nil n0) N3q
  refine sG X3 hx y d17_8 rfl ?_
  exact own_retV X3 hx hr hl (hb y d17_9) (by decide) (by decide) (by rw [e3]; exact ⟨rfl, N3, rfl⟩)


theorem rm33_158 (v0_ : Addr) (v1_ v2_ v3_ v4_ : Int32) (v5_ : ClassId) (U0 : Arv Z h0 v0_ v5_ .byte 8 [(.int (oLo v1_)), (.int (oHi v1_)), (.int (oLo v2_)), (.int (oHi v2_)), (.int (oLo v3_)), (.int (oHi v3_)), (.int (oLo v4_)), (.int (oHi v4_))] (.int 0)) :
  oM hw hS O0 l y33 cd33 (oR 2 0 0 27) #[.int 0, .ref v0_] (fun v h L => (v = none ∧ Fr n0 L ∧ h = h0)) := by
 refine own_met (own := "java/lang/StringUTF16") (plainFor_of_name pn14) rfl ?_
 intro p e s m u mt c s₁ hx y hml ho hq hr hl hZ e0 X0
 refine own_cast (g' := (mkF m 0 #[iv 0, rv v0_] [])) rfl ?_
 refine sI X0 hx y d33_0 rfl ?_
 refine sA X0 hx y d33_1 rfl rfl ?_
 refine oCS X0 hx hZ ho (oW hw 145 rfl) (bu76 hw) (rm34_154 hw hS O0 v0_ v1_ v2_ v3_ v4_ v5_ U0) 1 (by decide) [.ref v0_] rfl (lenOf pd77 rfl) hml rfl rfl rfl y d33_2 e0 ?_
 rintro _ T1 _ X1 ⟨rfl, N1q, e1⟩
 have N1 := Fr.app (Fr.nil n0) N1q
 refine oCS X1 hx hZ ho (oW hw 148 rfl) (bu85 hw) (rm17_157 hw hS O0) 0 (by decide) [.int 0, .int 4] rfl (lenOf pd86 rfl) hml rfl rfl rfl y d33_5 e1 ?_
 rintro _ T2 _ X2 ⟨rfl, N2q, e2⟩
 have N2 := Fr.app N1 N2q
 exact own_retV X2 hx hr hl (hb y d33_8) (by decide) (by decide) (by rw [e2]; exact ⟨rfl, N2, rfl⟩)


theorem rm32_159 (v0_ : Addr) (v1_ v2_ v3_ v4_ : Int32) (v5_ : ClassId) (U0 : Arv Z h0 v0_ v5_ .byte 8 [(.int (oLo v1_)), (.int (oHi v1_)), (.int (oLo v2_)), (.int (oHi v2_)), (.int (oLo v3_)), (.int (oHi v3_)), (.int (oLo v4_)), (.int (oHi v4_))] (.int 0)) (U1 : nar .char v1_ = v1_) (U2 : ¬ (v1_ < (0 : Int32))) (U3 : ¬ ((65535 : Int32) < v1_)) :
  oM hw hS O0 l y32 cd32 (oR 3 0 0 40) #[.ref v0_, .int 0] (fun v h L => (v = some (.int v1_) ∧ Fr n0 L ∧ h = h0)) := by
 refine own_met (own := "java/lang/StringUTF16") (plainFor_of_name pn14) rfl ?_
 intro p e s m u mt c s₁ hx y hml ho hq hr hl hZ e0 X0
 refine own_cast (g' := (mkF m 0 #[rv v0_, iv 0] [])) rfl ?_
 refine sI X0 hx y d32_0 rfl ?_
 refine sA X0 hx y d32_1 rfl rfl ?_
 refine oCS X0 hx hZ ho (oW hw 142 rfl) (bu88 hw) (rm33_158 hw hS O0 v0_ v1_ v2_ v3_ v4_ v5_ U0) 0 (by decide) [.int 0, .ref v0_] rfl (lenOf pd89 rfl) hml rfl rfl rfl y d32_2 e0 ?_
 rintro _ T1 _ X1 ⟨rfl, N1q, e1⟩
 have N1 := Fr.app (Fr.nil n0) N1q
 refine sA X1 hx y d32_5 rfl rfl ?_
 refine sI X1 hx y d32_6 rfl ?_
 refine oCS X1 hx hZ ho (oW hw 136 rfl) (bu35 hw) (rm31_142 hw hS O0 v0_ v1_ v2_ v3_ v4_ v5_ U0 U1 U2 U3) 0 (by decide) [.ref v0_, .int 0] rfl (lenOf pd36 rfl) hml rfl rfl rfl y d32_7 e1 ?_
 rintro _ T2 _ X2 ⟨rfl, N2q, e2⟩
 have N2 := Fr.app N1 N2q
 exact own_retN X2 hx (t := .char) hr (by simp) hl (hb y d32_10) (by decide) (by decide) (by rw [U1, e2]; exact ⟨rfl, N2, rfl⟩)


theorem rm14_160 (v0_ v1_ : Addr) (v2_ v3_ v4_ v5_ : Int32) (v6_ : ClassId) (U0 : Ga Z h0 v0_) (U1 : Fa Z h0 v0_ (.int 1)) (U2 : Fb Z h0 v0_ (.ref v1_)) (U3 : Arv Z h0 v1_ v6_ .byte 8 [(.int (oLo v2_)), (.int (oHi v2_)), (.int (oLo v3_)), (.int (oHi v3_)), (.int (oLo v4_)), (.int (oHi v4_)), (.int (oLo v5_)), (.int (oHi v5_))] (.int 0)) (U4 : nar .char v2_ = v2_) (U5 : ¬ (v2_ < (0 : Int32))) (U6 : ¬ ((65535 : Int32) < v2_)) :
  oM hw hS O0 l y14 cd14 (oR 4 0 0 53) #[.ref v0_, .int 0] (fun v h L => (v = some (.int v2_) ∧ Fr n0 L ∧ h = h0)) := by
 refine own_met (own := "java/lang/String") (plainFor_of_name pn46) rfl ?_
 intro p e s m u mt c s₁ hx y hml ho hq hr hl hZ e0 X0
 refine own_cast (g' := (mkF m 0 #[rv v0_, iv 0] [])) rfl ?_
 refine sA X0 hx y d14_0 rfl rfl ?_
 refine oCV X0 hx hZ ho (oW hw 69 rfl) (bu71 hw) U0 (rm15_17 hw hS O0 v0_ U1) 0 (by decide) [] rfl (lenOf pd59 rfl) hml rfl rfl rfl y d14_1 e0 ?_
 rintro _ T1 _ X1 ⟨rfl, N1q, e1⟩
 have N1 := Fr.app (Fr.nil n0) N1q
 refine sS X1 hx y d14_4 (by decide) 16 (by decide) ?_
 refine sA X1 hx y d14_16 rfl rfl ?_
 refine sg X1 hx hZ ho (oW hw 40 rfl) e1 U2 y d14_17 fun T2 X2 e2 => ?_
 refine sI X2 hx y d14_20 rfl ?_
 refine oCS X2 hx hZ ho (oW hw 139 rfl) (bu91 hw) (rm32_159 hw hS O0 v1_ v2_ v3_ v4_ v5_ v6_ U3 U4 U5 U6) 0 (by decide) [.ref v1_, .int 0] rfl (lenOf pd36 rfl) hml rfl rfl rfl y d14_21 e2 ?_
 rintro _ T3 _ X3 ⟨rfl, N3q, e3⟩
 have N3 := Fr.app N1 N3q
 exact own_retN X3 hx (t := .char) hr (by simp) hl (hb y d14_24) (by decide) (by decide) (by rw [U4, e3]; exact ⟨rfl, N3, rfl⟩)


theorem rm18_161  :
  oM hw hS O0 l y18 cd18 (oR 0 0 0 0) #[.int 1, .int 4, .null] (fun v h L => (v = some (.int 1) ∧ Fr n0 L ∧ h = h0)) := by
 refine own_met (own := "jdk/internal/util/Preconditions") (plainFor_of_name pn81) rfl ?_
 intro p e s m u mt c s₁ hx y hml ho hq hr hl hZ e0 X0
 refine own_cast (g' := (mkF m 0 #[iv 1, iv 4, .val .null] [])) rfl ?_
 refine sI X0 hx y d18_0 rfl ?_
 refine sT X0 hx y d18_1 (by decide) ?_
 refine sI X0 hx y d18_4 rfl ?_
 refine sI X0 hx y d18_5 rfl ?_
 refine sU X0 hx y d18_6 (by decide) 16 (by decide) ?_
 refine sI X0 hx y d18_16 rfl ?_
 exact own_retI X0 hx hr hl (hb y d18_17) (by decide) (by decide) (by rw [e0]; exact ⟨rfl, (Fr.nil n0), rfl⟩)


theorem rm18_162 (v0_ : Addr) :
  oM hw hS O0 l y18 cd18 (oR 0 0 0 0) #[.int 1, .int 4, .ref v0_] (fun v h L => (v = some (.int 1) ∧ Fr n0 L ∧ h = h0)) := by
 refine own_met (own := "jdk/internal/util/Preconditions") (plainFor_of_name pn81) rfl ?_
 intro p e s m u mt c s₁ hx y hml ho hq hr hl hZ e0 X0
 refine own_cast (g' := (mkF m 0 #[iv 1, iv 4, rv v0_] [])) rfl ?_
 refine sI X0 hx y d18_0 rfl ?_
 refine sT X0 hx y d18_1 (by decide) ?_
 refine sI X0 hx y d18_4 rfl ?_
 refine sI X0 hx y d18_5 rfl ?_
 refine sU X0 hx y d18_6 (by decide) 16 (by decide) ?_
 refine sI X0 hx y d18_16 rfl ?_
 exact own_retI X0 hx hr hl (hb y d18_17) (by decide) (by decide) (by rw [e0]; exact ⟨rfl, (Fr.nil n0), rfl⟩)


theorem rm17_163  :
  oM hw hS O0 l y17 cd17 (oR 1 0 0 14) #[.int 1, .int 4] (fun v h L => (v = none ∧ Fr n0 L ∧ h = h0)) := by
 refine own_met (own := "java/lang/String") (plainFor_of_name pn46) rfl ?_
 intro p e s m u mt c s₁ hx y hml ho hq hr hl hZ e0 X0
 refine own_cast (g' := (mkF m 0 #[iv 1, iv 4] [])) rfl ?_
 refine sI X0 hx y d17_0 rfl ?_
 refine sI X0 hx y d17_1 rfl ?_
 rcases (sr0 hw hS) with hs1 | ⟨a1, hs1⟩
 ·
  obtain ⟨T1n, X1n, e1n, st1n⟩ := getS2 X0 hx hZ ho (host := "") (Or.inl (oW hw 81 rfl)) Via.refl e0 (hs1.ext O0.2) (g := (mkF m 2 #[iv 1, iv 4] [.int 4, .int 1])) rfl (hb y d17_2)
  refine own_step st1n ?_
  refine oCS X1n hx hZ ho (oW hw 83 rfl) (bu82 hw) (rm18_161 hw hS O0) 0 (by decide) [.int 1, .int 4, .null] rfl (lenOf pd83 rfl) hml rfl rfl rfl y d17_5 e1n ?_
  rintro _ T2 _ X2 ⟨rfl, N2q, e2⟩
  have N2 := Fr.app (Fr.nil n0) N2q
  refine sG X2 hx y d17_8 rfl ?_
  exact own_retV X2 hx hr hl (hb y d17_9) (by decide) (by decide) (by rw [e2]; exact ⟨rfl, N2, rfl⟩)
 ·
  obtain ⟨T1r, X1r, e1r, st1r⟩ := getS2 X0 hx hZ ho (host := "") (Or.inl (oW hw 81 rfl)) Via.refl e0 (hs1.ext O0.2) (g := (mkF m 2 #[iv 1, iv 4] [.int 4, .int 1])) rfl (hb y d17_2)
  refine own_step st1r ?_
  refine oCS X1r hx hZ ho (oW hw 83 rfl) (bu82 hw) (rm18_162 hw hS O0 a1) 0 (by decide) [.int 1, .int 4, .ref a1] rfl (lenOf pd83 rfl) hml rfl rfl rfl y d17_5 e1r ?_
  rintro _ T3 _ X3 ⟨rfl, N3q, e3⟩
  have N3 := Fr.app (Fr.nil n0) N3q
  refine sG X3 hx y d17_8 rfl ?_
  exact own_retV X3 hx hr hl (hb y d17_9) (by decide) (by decide) (by rw [e3]; exact ⟨rfl, N3, rfl⟩)


theorem rm33_164 (v0_ : Addr) (v1_ v2_ v3_ v4_ : Int32) (v5_ : ClassId) (U0 : Arv Z h0 v0_ v5_ .byte 8 [(.int (oLo v1_)), (.int (oHi v1_)), (.int (oLo v2_)), (.int (oHi v2_)), (.int (oLo v3_)), (.int (oHi v3_)), (.int (oLo v4_)), (.int (oHi v4_))] (.int 0)) :
  oM hw hS O0 l y33 cd33 (oR 2 0 0 27) #[.int 1, .ref v0_] (fun v h L => (v = none ∧ Fr n0 L ∧ h = h0)) := by
 refine own_met (own := "java/lang/StringUTF16") (plainFor_of_name pn14) rfl ?_
 intro p e s m u mt c s₁ hx y hml ho hq hr hl hZ e0 X0
 refine own_cast (g' := (mkF m 0 #[iv 1, rv v0_] [])) rfl ?_
 refine sI X0 hx y d33_0 rfl ?_
 refine sA X0 hx y d33_1 rfl rfl ?_
 refine oCS X0 hx hZ ho (oW hw 145 rfl) (bu76 hw) (rm34_154 hw hS O0 v0_ v1_ v2_ v3_ v4_ v5_ U0) 1 (by decide) [.ref v0_] rfl (lenOf pd77 rfl) hml rfl rfl rfl y d33_2 e0 ?_
 rintro _ T1 _ X1 ⟨rfl, N1q, e1⟩
 have N1 := Fr.app (Fr.nil n0) N1q
 refine oCS X1 hx hZ ho (oW hw 148 rfl) (bu85 hw) (rm17_163 hw hS O0) 0 (by decide) [.int 1, .int 4] rfl (lenOf pd86 rfl) hml rfl rfl rfl y d33_5 e1 ?_
 rintro _ T2 _ X2 ⟨rfl, N2q, e2⟩
 have N2 := Fr.app N1 N2q
 exact own_retV X2 hx hr hl (hb y d33_8) (by decide) (by decide) (by rw [e2]; exact ⟨rfl, N2, rfl⟩)


theorem rm32_165 (v0_ : Addr) (v1_ v2_ v3_ v4_ : Int32) (v5_ : ClassId) (U0 : Arv Z h0 v0_ v5_ .byte 8 [(.int (oLo v1_)), (.int (oHi v1_)), (.int (oLo v2_)), (.int (oHi v2_)), (.int (oLo v3_)), (.int (oHi v3_)), (.int (oLo v4_)), (.int (oHi v4_))] (.int 0)) (U1 : nar .char v2_ = v2_) (U2 : ¬ (v2_ < (0 : Int32))) (U3 : ¬ ((65535 : Int32) < v2_)) :
  oM hw hS O0 l y32 cd32 (oR 3 0 0 40) #[.ref v0_, .int 1] (fun v h L => (v = some (.int v2_) ∧ Fr n0 L ∧ h = h0)) := by
 refine own_met (own := "java/lang/StringUTF16") (plainFor_of_name pn14) rfl ?_
 intro p e s m u mt c s₁ hx y hml ho hq hr hl hZ e0 X0
 refine own_cast (g' := (mkF m 0 #[rv v0_, iv 1] [])) rfl ?_
 refine sI X0 hx y d32_0 rfl ?_
 refine sA X0 hx y d32_1 rfl rfl ?_
 refine oCS X0 hx hZ ho (oW hw 142 rfl) (bu88 hw) (rm33_164 hw hS O0 v0_ v1_ v2_ v3_ v4_ v5_ U0) 0 (by decide) [.int 1, .ref v0_] rfl (lenOf pd89 rfl) hml rfl rfl rfl y d32_2 e0 ?_
 rintro _ T1 _ X1 ⟨rfl, N1q, e1⟩
 have N1 := Fr.app (Fr.nil n0) N1q
 refine sA X1 hx y d32_5 rfl rfl ?_
 refine sI X1 hx y d32_6 rfl ?_
 refine oCS X1 hx hZ ho (oW hw 136 rfl) (bu35 hw) (rm31_143 hw hS O0 v0_ v1_ v2_ v3_ v4_ v5_ U0 U1 U2 U3) 0 (by decide) [.ref v0_, .int 1] rfl (lenOf pd36 rfl) hml rfl rfl rfl y d32_7 e1 ?_
 rintro _ T2 _ X2 ⟨rfl, N2q, e2⟩
 have N2 := Fr.app N1 N2q
 exact own_retN X2 hx (t := .char) hr (by simp) hl (hb y d32_10) (by decide) (by decide) (by rw [U1, e2]; exact ⟨rfl, N2, rfl⟩)


theorem rm14_166 (v0_ v1_ : Addr) (v2_ v3_ v4_ v5_ : Int32) (v6_ : ClassId) (U0 : Ga Z h0 v0_) (U1 : Fa Z h0 v0_ (.int 1)) (U2 : Fb Z h0 v0_ (.ref v1_)) (U3 : Arv Z h0 v1_ v6_ .byte 8 [(.int (oLo v2_)), (.int (oHi v2_)), (.int (oLo v3_)), (.int (oHi v3_)), (.int (oLo v4_)), (.int (oHi v4_)), (.int (oLo v5_)), (.int (oHi v5_))] (.int 0)) (U4 : nar .char v3_ = v3_) (U5 : ¬ (v3_ < (0 : Int32))) (U6 : ¬ ((65535 : Int32) < v3_)) :
  oM hw hS O0 l y14 cd14 (oR 4 0 0 53) #[.ref v0_, .int 1] (fun v h L => (v = some (.int v3_) ∧ Fr n0 L ∧ h = h0)) := by
 refine own_met (own := "java/lang/String") (plainFor_of_name pn46) rfl ?_
 intro p e s m u mt c s₁ hx y hml ho hq hr hl hZ e0 X0
 refine own_cast (g' := (mkF m 0 #[rv v0_, iv 1] [])) rfl ?_
 refine sA X0 hx y d14_0 rfl rfl ?_
 refine oCV X0 hx hZ ho (oW hw 69 rfl) (bu71 hw) U0 (rm15_17 hw hS O0 v0_ U1) 0 (by decide) [] rfl (lenOf pd59 rfl) hml rfl rfl rfl y d14_1 e0 ?_
 rintro _ T1 _ X1 ⟨rfl, N1q, e1⟩
 have N1 := Fr.app (Fr.nil n0) N1q
 refine sS X1 hx y d14_4 (by decide) 16 (by decide) ?_
 refine sA X1 hx y d14_16 rfl rfl ?_
 refine sg X1 hx hZ ho (oW hw 40 rfl) e1 U2 y d14_17 fun T2 X2 e2 => ?_
 refine sI X2 hx y d14_20 rfl ?_
 refine oCS X2 hx hZ ho (oW hw 139 rfl) (bu91 hw) (rm32_165 hw hS O0 v1_ v2_ v3_ v4_ v5_ v6_ U3 U4 U5 U6) 0 (by decide) [.ref v1_, .int 1] rfl (lenOf pd36 rfl) hml rfl rfl rfl y d14_21 e2 ?_
 rintro _ T3 _ X3 ⟨rfl, N3q, e3⟩
 have N3 := Fr.app N1 N3q
 exact own_retN X3 hx (t := .char) hr (by simp) hl (hb y d14_24) (by decide) (by decide) (by rw [U4, e3]; exact ⟨rfl, N3, rfl⟩)


theorem rm18_167  :
  oM hw hS O0 l y18 cd18 (oR 0 0 0 0) #[.int 2, .int 4, .null] (fun v h L => (v = some (.int 2) ∧ Fr n0 L ∧ h = h0)) := by
 refine own_met (own := "jdk/internal/util/Preconditions") (plainFor_of_name pn81) rfl ?_
 intro p e s m u mt c s₁ hx y hml ho hq hr hl hZ e0 X0
 refine own_cast (g' := (mkF m 0 #[iv 2, iv 4, .val .null] [])) rfl ?_
 refine sI X0 hx y d18_0 rfl ?_
 refine sT X0 hx y d18_1 (by decide) ?_
 refine sI X0 hx y d18_4 rfl ?_
 refine sI X0 hx y d18_5 rfl ?_
 refine sU X0 hx y d18_6 (by decide) 16 (by decide) ?_
 refine sI X0 hx y d18_16 rfl ?_
 exact own_retI X0 hx hr hl (hb y d18_17) (by decide) (by decide) (by rw [e0]; exact ⟨rfl, (Fr.nil n0), rfl⟩)


theorem rm18_168 (v0_ : Addr) :
  oM hw hS O0 l y18 cd18 (oR 0 0 0 0) #[.int 2, .int 4, .ref v0_] (fun v h L => (v = some (.int 2) ∧ Fr n0 L ∧ h = h0)) := by
 refine own_met (own := "jdk/internal/util/Preconditions") (plainFor_of_name pn81) rfl ?_
 intro p e s m u mt c s₁ hx y hml ho hq hr hl hZ e0 X0
 refine own_cast (g' := (mkF m 0 #[iv 2, iv 4, rv v0_] [])) rfl ?_
 refine sI X0 hx y d18_0 rfl ?_
 refine sT X0 hx y d18_1 (by decide) ?_
 refine sI X0 hx y d18_4 rfl ?_
 refine sI X0 hx y d18_5 rfl ?_
 refine sU X0 hx y d18_6 (by decide) 16 (by decide) ?_
 refine sI X0 hx y d18_16 rfl ?_
 exact own_retI X0 hx hr hl (hb y d18_17) (by decide) (by decide) (by rw [e0]; exact ⟨rfl, (Fr.nil n0), rfl⟩)


theorem rm17_169  :
  oM hw hS O0 l y17 cd17 (oR 1 0 0 14) #[.int 2, .int 4] (fun v h L => (v = none ∧ Fr n0 L ∧ h = h0)) := by
 refine own_met (own := "java/lang/String") (plainFor_of_name pn46) rfl ?_
 intro p e s m u mt c s₁ hx y hml ho hq hr hl hZ e0 X0
 refine own_cast (g' := (mkF m 0 #[iv 2, iv 4] [])) rfl ?_
 refine sI X0 hx y d17_0 rfl ?_
 refine sI X0 hx y d17_1 rfl ?_
 rcases (sr0 hw hS) with hs1 | ⟨a1, hs1⟩
 ·
  obtain ⟨T1n, X1n, e1n, st1n⟩ := getS2 X0 hx hZ ho (host := "") (Or.inl (oW hw 81 rfl)) Via.refl e0 (hs1.ext O0.2) (g := (mkF m 2 #[iv 2, iv 4] [.int 4, .int 2])) rfl (hb y d17_2)
  refine own_step st1n ?_
  refine oCS X1n hx hZ ho (oW hw 83 rfl) (bu82 hw) (rm18_167 hw hS O0) 0 (by decide) [.int 2, .int 4, .null] rfl (lenOf pd83 rfl) hml rfl rfl rfl y d17_5 e1n ?_
  rintro _ T2 _ X2 ⟨rfl, N2q, e2⟩
  have N2 := Fr.app (Fr.nil n0) N2q
  refine sG X2 hx y d17_8 rfl ?_
  exact own_retV X2 hx hr hl (hb y d17_9) (by decide) (by decide) (by rw [e2]; exact ⟨rfl, N2, rfl⟩)
 ·
  obtain ⟨T1r, X1r, e1r, st1r⟩ := getS2 X0 hx hZ ho (host := "") (Or.inl (oW hw 81 rfl)) Via.refl e0 (hs1.ext O0.2) (g := (mkF m 2 #[iv 2, iv 4] [.int 4, .int 2])) rfl (hb y d17_2)
  refine own_step st1r ?_
  refine oCS X1r hx hZ ho (oW hw 83 rfl) (bu82 hw) (rm18_168 hw hS O0 a1) 0 (by decide) [.int 2, .int 4, .ref a1] rfl (lenOf pd83 rfl) hml rfl rfl rfl y d17_5 e1r ?_
  rintro _ T3 _ X3 ⟨rfl, N3q, e3⟩
  have N3 := Fr.app (Fr.nil n0) N3q
  refine sG X3 hx y d17_8 rfl ?_
  exact own_retV X3 hx hr hl (hb y d17_9) (by decide) (by decide) (by rw [e3]; exact ⟨rfl, N3, rfl⟩)


theorem rm33_170 (v0_ : Addr) (v1_ v2_ v3_ v4_ : Int32) (v5_ : ClassId) (U0 : Arv Z h0 v0_ v5_ .byte 8 [(.int (oLo v1_)), (.int (oHi v1_)), (.int (oLo v2_)), (.int (oHi v2_)), (.int (oLo v3_)), (.int (oHi v3_)), (.int (oLo v4_)), (.int (oHi v4_))] (.int 0)) :
  oM hw hS O0 l y33 cd33 (oR 2 0 0 27) #[.int 2, .ref v0_] (fun v h L => (v = none ∧ Fr n0 L ∧ h = h0)) := by
 refine own_met (own := "java/lang/StringUTF16") (plainFor_of_name pn14) rfl ?_
 intro p e s m u mt c s₁ hx y hml ho hq hr hl hZ e0 X0
 refine own_cast (g' := (mkF m 0 #[iv 2, rv v0_] [])) rfl ?_
 refine sI X0 hx y d33_0 rfl ?_
 refine sA X0 hx y d33_1 rfl rfl ?_
 refine oCS X0 hx hZ ho (oW hw 145 rfl) (bu76 hw) (rm34_154 hw hS O0 v0_ v1_ v2_ v3_ v4_ v5_ U0) 1 (by decide) [.ref v0_] rfl (lenOf pd77 rfl) hml rfl rfl rfl y d33_2 e0 ?_
 rintro _ T1 _ X1 ⟨rfl, N1q, e1⟩
 have N1 := Fr.app (Fr.nil n0) N1q
 refine oCS X1 hx hZ ho (oW hw 148 rfl) (bu85 hw) (rm17_169 hw hS O0) 0 (by decide) [.int 2, .int 4] rfl (lenOf pd86 rfl) hml rfl rfl rfl y d33_5 e1 ?_
 rintro _ T2 _ X2 ⟨rfl, N2q, e2⟩
 have N2 := Fr.app N1 N2q
 exact own_retV X2 hx hr hl (hb y d33_8) (by decide) (by decide) (by rw [e2]; exact ⟨rfl, N2, rfl⟩)


theorem rm32_171 (v0_ : Addr) (v1_ v2_ v3_ v4_ : Int32) (v5_ : ClassId) (U0 : Arv Z h0 v0_ v5_ .byte 8 [(.int (oLo v1_)), (.int (oHi v1_)), (.int (oLo v2_)), (.int (oHi v2_)), (.int (oLo v3_)), (.int (oHi v3_)), (.int (oLo v4_)), (.int (oHi v4_))] (.int 0)) (U1 : nar .char v3_ = v3_) (U2 : ¬ (v3_ < (0 : Int32))) (U3 : ¬ ((65535 : Int32) < v3_)) :
  oM hw hS O0 l y32 cd32 (oR 3 0 0 40) #[.ref v0_, .int 2] (fun v h L => (v = some (.int v3_) ∧ Fr n0 L ∧ h = h0)) := by
 refine own_met (own := "java/lang/StringUTF16") (plainFor_of_name pn14) rfl ?_
 intro p e s m u mt c s₁ hx y hml ho hq hr hl hZ e0 X0
 refine own_cast (g' := (mkF m 0 #[rv v0_, iv 2] [])) rfl ?_
 refine sI X0 hx y d32_0 rfl ?_
 refine sA X0 hx y d32_1 rfl rfl ?_
 refine oCS X0 hx hZ ho (oW hw 142 rfl) (bu88 hw) (rm33_170 hw hS O0 v0_ v1_ v2_ v3_ v4_ v5_ U0) 0 (by decide) [.int 2, .ref v0_] rfl (lenOf pd89 rfl) hml rfl rfl rfl y d32_2 e0 ?_
 rintro _ T1 _ X1 ⟨rfl, N1q, e1⟩
 have N1 := Fr.app (Fr.nil n0) N1q
 refine sA X1 hx y d32_5 rfl rfl ?_
 refine sI X1 hx y d32_6 rfl ?_
 refine oCS X1 hx hZ ho (oW hw 136 rfl) (bu35 hw) (rm31_144 hw hS O0 v0_ v1_ v2_ v3_ v4_ v5_ U0 U1 U2 U3) 0 (by decide) [.ref v0_, .int 2] rfl (lenOf pd36 rfl) hml rfl rfl rfl y d32_7 e1 ?_
 rintro _ T2 _ X2 ⟨rfl, N2q, e2⟩
 have N2 := Fr.app N1 N2q
 exact own_retN X2 hx (t := .char) hr (by simp) hl (hb y d32_10) (by decide) (by decide) (by rw [U1, e2]; exact ⟨rfl, N2, rfl⟩)


theorem rm14_172 (v0_ v1_ : Addr) (v2_ v3_ v4_ v5_ : Int32) (v6_ : ClassId) (U0 : Ga Z h0 v0_) (U1 : Fa Z h0 v0_ (.int 1)) (U2 : Fb Z h0 v0_ (.ref v1_)) (U3 : Arv Z h0 v1_ v6_ .byte 8 [(.int (oLo v2_)), (.int (oHi v2_)), (.int (oLo v3_)), (.int (oHi v3_)), (.int (oLo v4_)), (.int (oHi v4_)), (.int (oLo v5_)), (.int (oHi v5_))] (.int 0)) (U4 : nar .char v4_ = v4_) (U5 : ¬ (v4_ < (0 : Int32))) (U6 : ¬ ((65535 : Int32) < v4_)) :
  oM hw hS O0 l y14 cd14 (oR 4 0 0 53) #[.ref v0_, .int 2] (fun v h L => (v = some (.int v4_) ∧ Fr n0 L ∧ h = h0)) := by
 refine own_met (own := "java/lang/String") (plainFor_of_name pn46) rfl ?_
 intro p e s m u mt c s₁ hx y hml ho hq hr hl hZ e0 X0
 refine own_cast (g' := (mkF m 0 #[rv v0_, iv 2] [])) rfl ?_
 refine sA X0 hx y d14_0 rfl rfl ?_
 refine oCV X0 hx hZ ho (oW hw 69 rfl) (bu71 hw) U0 (rm15_17 hw hS O0 v0_ U1) 0 (by decide) [] rfl (lenOf pd59 rfl) hml rfl rfl rfl y d14_1 e0 ?_
 rintro _ T1 _ X1 ⟨rfl, N1q, e1⟩
 have N1 := Fr.app (Fr.nil n0) N1q
 refine sS X1 hx y d14_4 (by decide) 16 (by decide) ?_
 refine sA X1 hx y d14_16 rfl rfl ?_
 refine sg X1 hx hZ ho (oW hw 40 rfl) e1 U2 y d14_17 fun T2 X2 e2 => ?_
 refine sI X2 hx y d14_20 rfl ?_
 refine oCS X2 hx hZ ho (oW hw 139 rfl) (bu91 hw) (rm32_171 hw hS O0 v1_ v2_ v3_ v4_ v5_ v6_ U3 U4 U5 U6) 0 (by decide) [.ref v1_, .int 2] rfl (lenOf pd36 rfl) hml rfl rfl rfl y d14_21 e2 ?_
 rintro _ T3 _ X3 ⟨rfl, N3q, e3⟩
 have N3 := Fr.app N1 N3q
 exact own_retN X3 hx (t := .char) hr (by simp) hl (hb y d14_24) (by decide) (by decide) (by rw [U4, e3]; exact ⟨rfl, N3, rfl⟩)


theorem rm18_173  :
  oM hw hS O0 l y18 cd18 (oR 0 0 0 0) #[.int 3, .int 4, .null] (fun v h L => (v = some (.int 3) ∧ Fr n0 L ∧ h = h0)) := by
 refine own_met (own := "jdk/internal/util/Preconditions") (plainFor_of_name pn81) rfl ?_
 intro p e s m u mt c s₁ hx y hml ho hq hr hl hZ e0 X0
 refine own_cast (g' := (mkF m 0 #[iv 3, iv 4, .val .null] [])) rfl ?_
 refine sI X0 hx y d18_0 rfl ?_
 refine sT X0 hx y d18_1 (by decide) ?_
 refine sI X0 hx y d18_4 rfl ?_
 refine sI X0 hx y d18_5 rfl ?_
 refine sU X0 hx y d18_6 (by decide) 16 (by decide) ?_
 refine sI X0 hx y d18_16 rfl ?_
 exact own_retI X0 hx hr hl (hb y d18_17) (by decide) (by decide) (by rw [e0]; exact ⟨rfl, (Fr.nil n0), rfl⟩)


theorem rm18_174 (v0_ : Addr) :
  oM hw hS O0 l y18 cd18 (oR 0 0 0 0) #[.int 3, .int 4, .ref v0_] (fun v h L => (v = some (.int 3) ∧ Fr n0 L ∧ h = h0)) := by
 refine own_met (own := "jdk/internal/util/Preconditions") (plainFor_of_name pn81) rfl ?_
 intro p e s m u mt c s₁ hx y hml ho hq hr hl hZ e0 X0
 refine own_cast (g' := (mkF m 0 #[iv 3, iv 4, rv v0_] [])) rfl ?_
 refine sI X0 hx y d18_0 rfl ?_
 refine sT X0 hx y d18_1 (by decide) ?_
 refine sI X0 hx y d18_4 rfl ?_
 refine sI X0 hx y d18_5 rfl ?_
 refine sU X0 hx y d18_6 (by decide) 16 (by decide) ?_
 refine sI X0 hx y d18_16 rfl ?_
 exact own_retI X0 hx hr hl (hb y d18_17) (by decide) (by decide) (by rw [e0]; exact ⟨rfl, (Fr.nil n0), rfl⟩)


theorem rm17_175  :
  oM hw hS O0 l y17 cd17 (oR 1 0 0 14) #[.int 3, .int 4] (fun v h L => (v = none ∧ Fr n0 L ∧ h = h0)) := by
 refine own_met (own := "java/lang/String") (plainFor_of_name pn46) rfl ?_
 intro p e s m u mt c s₁ hx y hml ho hq hr hl hZ e0 X0
 refine own_cast (g' := (mkF m 0 #[iv 3, iv 4] [])) rfl ?_
 refine sI X0 hx y d17_0 rfl ?_
 refine sI X0 hx y d17_1 rfl ?_
 rcases (sr0 hw hS) with hs1 | ⟨a1, hs1⟩
 ·
  obtain ⟨T1n, X1n, e1n, st1n⟩ := getS2 X0 hx hZ ho (host := "") (Or.inl (oW hw 81 rfl)) Via.refl e0 (hs1.ext O0.2) (g := (mkF m 2 #[iv 3, iv 4] [.int 4, .int 3])) rfl (hb y d17_2)
  refine own_step st1n ?_
  refine oCS X1n hx hZ ho (oW hw 83 rfl) (bu82 hw) (rm18_173 hw hS O0) 0 (by decide) [.int 3, .int 4, .null] rfl (lenOf pd83 rfl) hml rfl rfl rfl y d17_5 e1n ?_
  rintro _ T2 _ X2 ⟨rfl, N2q, e2⟩
  have N2 := Fr.app (Fr.nil n0) N2q
  refine sG X2 hx y d17_8 rfl ?_
  exact own_retV X2 hx hr hl (hb y d17_9) (by decide) (by decide) (by rw [e2]; exact ⟨rfl, N2, rfl⟩)
 ·
  obtain ⟨T1r, X1r, e1r, st1r⟩ := getS2 X0 hx hZ ho (host := "") (Or.inl (oW hw 81 rfl)) Via.refl e0 (hs1.ext O0.2) (g := (mkF m 2 #[iv 3, iv 4] [.int 4, .int 3])) rfl (hb y d17_2)
  refine own_step st1r ?_
  refine oCS X1r hx hZ ho (oW hw 83 rfl) (bu82 hw) (rm18_174 hw hS O0 a1) 0 (by decide) [.int 3, .int 4, .ref a1] rfl (lenOf pd83 rfl) hml rfl rfl rfl y d17_5 e1r ?_
  rintro _ T3 _ X3 ⟨rfl, N3q, e3⟩
  have N3 := Fr.app (Fr.nil n0) N3q
  refine sG X3 hx y d17_8 rfl ?_
  exact own_retV X3 hx hr hl (hb y d17_9) (by decide) (by decide) (by rw [e3]; exact ⟨rfl, N3, rfl⟩)


theorem rm33_176 (v0_ : Addr) (v1_ v2_ v3_ v4_ : Int32) (v5_ : ClassId) (U0 : Arv Z h0 v0_ v5_ .byte 8 [(.int (oLo v1_)), (.int (oHi v1_)), (.int (oLo v2_)), (.int (oHi v2_)), (.int (oLo v3_)), (.int (oHi v3_)), (.int (oLo v4_)), (.int (oHi v4_))] (.int 0)) :
  oM hw hS O0 l y33 cd33 (oR 2 0 0 27) #[.int 3, .ref v0_] (fun v h L => (v = none ∧ Fr n0 L ∧ h = h0)) := by
 refine own_met (own := "java/lang/StringUTF16") (plainFor_of_name pn14) rfl ?_
 intro p e s m u mt c s₁ hx y hml ho hq hr hl hZ e0 X0
 refine own_cast (g' := (mkF m 0 #[iv 3, rv v0_] [])) rfl ?_
 refine sI X0 hx y d33_0 rfl ?_
 refine sA X0 hx y d33_1 rfl rfl ?_
 refine oCS X0 hx hZ ho (oW hw 145 rfl) (bu76 hw) (rm34_154 hw hS O0 v0_ v1_ v2_ v3_ v4_ v5_ U0) 1 (by decide) [.ref v0_] rfl (lenOf pd77 rfl) hml rfl rfl rfl y d33_2 e0 ?_
 rintro _ T1 _ X1 ⟨rfl, N1q, e1⟩
 have N1 := Fr.app (Fr.nil n0) N1q
 refine oCS X1 hx hZ ho (oW hw 148 rfl) (bu85 hw) (rm17_175 hw hS O0) 0 (by decide) [.int 3, .int 4] rfl (lenOf pd86 rfl) hml rfl rfl rfl y d33_5 e1 ?_
 rintro _ T2 _ X2 ⟨rfl, N2q, e2⟩
 have N2 := Fr.app N1 N2q
 exact own_retV X2 hx hr hl (hb y d33_8) (by decide) (by decide) (by rw [e2]; exact ⟨rfl, N2, rfl⟩)


theorem rm32_177 (v0_ : Addr) (v1_ v2_ v3_ v4_ : Int32) (v5_ : ClassId) (U0 : Arv Z h0 v0_ v5_ .byte 8 [(.int (oLo v1_)), (.int (oHi v1_)), (.int (oLo v2_)), (.int (oHi v2_)), (.int (oLo v3_)), (.int (oHi v3_)), (.int (oLo v4_)), (.int (oHi v4_))] (.int 0)) (U1 : nar .char v4_ = v4_) (U2 : ¬ (v4_ < (0 : Int32))) (U3 : ¬ ((65535 : Int32) < v4_)) :
  oM hw hS O0 l y32 cd32 (oR 3 0 0 40) #[.ref v0_, .int 3] (fun v h L => (v = some (.int v4_) ∧ Fr n0 L ∧ h = h0)) := by
 refine own_met (own := "java/lang/StringUTF16") (plainFor_of_name pn14) rfl ?_
 intro p e s m u mt c s₁ hx y hml ho hq hr hl hZ e0 X0
 refine own_cast (g' := (mkF m 0 #[rv v0_, iv 3] [])) rfl ?_
 refine sI X0 hx y d32_0 rfl ?_
 refine sA X0 hx y d32_1 rfl rfl ?_
 refine oCS X0 hx hZ ho (oW hw 142 rfl) (bu88 hw) (rm33_176 hw hS O0 v0_ v1_ v2_ v3_ v4_ v5_ U0) 0 (by decide) [.int 3, .ref v0_] rfl (lenOf pd89 rfl) hml rfl rfl rfl y d32_2 e0 ?_
 rintro _ T1 _ X1 ⟨rfl, N1q, e1⟩
 have N1 := Fr.app (Fr.nil n0) N1q
 refine sA X1 hx y d32_5 rfl rfl ?_
 refine sI X1 hx y d32_6 rfl ?_
 refine oCS X1 hx hZ ho (oW hw 136 rfl) (bu35 hw) (rm31_145 hw hS O0 v0_ v1_ v2_ v3_ v4_ v5_ U0 U1 U2 U3) 0 (by decide) [.ref v0_, .int 3] rfl (lenOf pd36 rfl) hml rfl rfl rfl y d32_7 e1 ?_
 rintro _ T2 _ X2 ⟨rfl, N2q, e2⟩
 have N2 := Fr.app N1 N2q
 exact own_retN X2 hx (t := .char) hr (by simp) hl (hb y d32_10) (by decide) (by decide) (by rw [U1, e2]; exact ⟨rfl, N2, rfl⟩)


theorem rm14_178 (v0_ v1_ : Addr) (v2_ v3_ v4_ v5_ : Int32) (v6_ : ClassId) (U0 : Ga Z h0 v0_) (U1 : Fa Z h0 v0_ (.int 1)) (U2 : Fb Z h0 v0_ (.ref v1_)) (U3 : Arv Z h0 v1_ v6_ .byte 8 [(.int (oLo v2_)), (.int (oHi v2_)), (.int (oLo v3_)), (.int (oHi v3_)), (.int (oLo v4_)), (.int (oHi v4_)), (.int (oLo v5_)), (.int (oHi v5_))] (.int 0)) (U4 : nar .char v5_ = v5_) (U5 : ¬ (v5_ < (0 : Int32))) (U6 : ¬ ((65535 : Int32) < v5_)) :
  oM hw hS O0 l y14 cd14 (oR 4 0 0 53) #[.ref v0_, .int 3] (fun v h L => (v = some (.int v5_) ∧ Fr n0 L ∧ h = h0)) := by
 refine own_met (own := "java/lang/String") (plainFor_of_name pn46) rfl ?_
 intro p e s m u mt c s₁ hx y hml ho hq hr hl hZ e0 X0
 refine own_cast (g' := (mkF m 0 #[rv v0_, iv 3] [])) rfl ?_
 refine sA X0 hx y d14_0 rfl rfl ?_
 refine oCV X0 hx hZ ho (oW hw 69 rfl) (bu71 hw) U0 (rm15_17 hw hS O0 v0_ U1) 0 (by decide) [] rfl (lenOf pd59 rfl) hml rfl rfl rfl y d14_1 e0 ?_
 rintro _ T1 _ X1 ⟨rfl, N1q, e1⟩
 have N1 := Fr.app (Fr.nil n0) N1q
 refine sS X1 hx y d14_4 (by decide) 16 (by decide) ?_
 refine sA X1 hx y d14_16 rfl rfl ?_
 refine sg X1 hx hZ ho (oW hw 40 rfl) e1 U2 y d14_17 fun T2 X2 e2 => ?_
 refine sI X2 hx y d14_20 rfl ?_
 refine oCS X2 hx hZ ho (oW hw 139 rfl) (bu91 hw) (rm32_177 hw hS O0 v1_ v2_ v3_ v4_ v5_ v6_ U3 U4 U5 U6) 0 (by decide) [.ref v1_, .int 3] rfl (lenOf pd36 rfl) hml rfl rfl rfl y d14_21 e2 ?_
 rintro _ T3 _ X3 ⟨rfl, N3q, e3⟩
 have N3 := Fr.app N1 N3q
 exact own_retN X3 hx (t := .char) hr (by simp) hl (hb y d14_24) (by decide) (by decide) (by rw [U4, e3]; exact ⟨rfl, N3, rfl⟩)


theorem rm10_179 (v0_ v1_ v2_ : Addr) (v3_ v4_ v5_ v6_ : Int32) (v7_ : ClassId) (U0 : Ga Z h0 v0_) (U1 : Fa Z h0 v0_ (.int 1)) (U2 : Fb Z h0 v0_ (.ref v2_)) (U3 : Arv Z h0 v2_ v7_ .byte 8 [(.int (oLo v3_)), (.int (oHi v3_)), (.int (oLo v4_)), (.int (oHi v4_)), (.int (oLo v5_)), (.int (oHi v5_)), (.int (oLo v6_)), (.int (oHi v6_))] (.int 0)) (U4 : nar .char v3_ = v3_) (U5 : nar .char v4_ = v4_) (U6 : nar .char v5_ = v5_) (U7 : nar .char v6_ = v6_) (U8 : ¬ (v3_ < (0 : Int32))) (U9 : ¬ ((65535 : Int32) < v3_)) (U10 : ¬ (v4_ < (0 : Int32))) (U11 : ¬ ((65535 : Int32) < v4_)) (U12 : ¬ (v5_ < (0 : Int32))) (U13 : ¬ ((65535 : Int32) < v5_)) (U14 : ¬ (v6_ < (0 : Int32))) (U15 : ¬ ((65535 : Int32) < v6_)) (U16 : ¬ (v3_ < (32 : Int32))) (U17 : ¬ (v3_ = (127 : Int32))) (U18 : ¬ (v4_ < (32 : Int32))) (U19 : ¬ (v4_ = (127 : Int32))) (U20 : ¬ (v5_ < (32 : Int32))) (U21 : ¬ (v5_ = (127 : Int32))) (U22 : ¬ (v6_ < (32 : Int32))) (U23 : ¬ (v6_ = (127 : Int32))) (U24 : ¬ (v3_ = (61 : Int32))) (U25 : ¬ (v3_ = (43 : Int32))) (U26 : ¬ (v3_ = (45 : Int32))) (U27 : ¬ (v3_ = (64 : Int32))) :
  oMH hw hS O0 l y10 cd10 (oR 5 2 20 66) #[.ref v0_, .ref v1_] (fun v h L => (v = some (.ref v0_) ∧ Fr n0 L ∧ Keep h0 h [])) := by
 refine own_metH (own := "com/example/linepack/linepack/Values") (plainFor_of_name pn112) rfl ?_
 intro p e s m u mt c s₁ hx y hml ho hq hr hl hZ e0 X0 hS0 H0
 refine own_cast (g' := (mkF m 0 #[rv v0_, rv v1_, .unset, .unset] [])) rfl ?_
 refine sA X0 hx y d10_0 rfl rfl ?_
 refine oCV X0 hx hZ ho (oW hw 49 rfl) (bu58 hw) U0 (rm11_152 hw hS O0 v0_ v2_ v3_ v4_ v5_ v6_ v7_ U2 U3) 0 (by decide) [] rfl (lenOf pd59 rfl) hml rfl rfl rfl y d10_1 e0 ?_
 rintro _ T1 _ X1 ⟨rfl, N1q, e1⟩
 have N1 := Fr.app (Fr.nil n0) N1q
 refine sS X1 hx y d10_4 (by decide) 21 (by decide) ?_
 refine sC X1 hx y d10_21 ?_
 refine sN X1 hx y d10_22 #[rv v0_, rv v1_, iv 0, .unset] rfl ?_
 refine sI X1 hx y d10_23 rfl ?_
 refine sA X1 hx y d10_24 rfl rfl ?_
 refine oCV X1 hx hZ ho (oW hw 54 rfl) (bu66 hw) U0 (rm12_153 hw hS O0 v0_ v2_ v3_ v4_ v5_ v6_ v7_ U0 U1 U2 U3) 1 (by decide) [] rfl (lenOf pd67 rfl) hml rfl rfl rfl y d10_25 e1 ?_
 rintro _ T2 _ X2 ⟨rfl, N2q, e2⟩
 have N2 := Fr.app N1 N2q
 refine sV X2 hx y d10_28 (by decide) ?_
 refine sA X2 hx y d10_31 rfl rfl ?_
 refine sI X2 hx y d10_32 rfl ?_
 refine oCV X2 hx hZ ho (oW hw 64 rfl) (bu93 hw) U0 (rm14_160 hw hS O0 v0_ v2_ v3_ v4_ v5_ v6_ v7_ U0 U1 U2 U3 U4 U8 U9) 0 (by decide) [.int 0] rfl (lenOf pd94 rfl) hml rfl rfl rfl y d10_33 e2 ?_
 rintro _ T3 _ X3 ⟨rfl, N3q, e3⟩
 have N3 := Fr.app N2 N3q
 refine sN X3 hx y d10_36 #[rv v0_, rv v1_, iv 0, iv v3_] rfl ?_
 refine sI X3 hx y d10_37 rfl ?_
 refine sD X3 hx y d10_38 ?_
 refine sV X3 hx y d10_40 (flt U16).1 ?_
 refine sI X3 hx y d10_43 rfl ?_
 refine sD X3 hx y d10_44 ?_
 refine sU X3 hx y d10_46 (feq U17).2 63 (by decide) ?_
 refine sY X3 hx y d10_63 #[rv v0_, rv v1_, iv ((0 : Int32) + (1 : Int32)), iv v3_] rfl rfl ?_
 rw [(by decide : ((0 : Int32) + (1 : Int32)) = (1 : Int32))]
 refine sR X3 hx y d10_66 23 (by decide) ?_
 refine sI X3 hx y d10_23 rfl ?_
 refine sA X3 hx y d10_24 rfl rfl ?_
 refine oCV X3 hx hZ ho (oW hw 54 rfl) (bu66 hw) U0 (rm12_153 hw hS O0 v0_ v2_ v3_ v4_ v5_ v6_ v7_ U0 U1 U2 U3) 1 (by decide) [] rfl (lenOf pd67 rfl) hml rfl rfl rfl y d10_25 e3 ?_
 rintro _ T4 _ X4 ⟨rfl, N4q, e4⟩
 have N4 := Fr.app N3 N4q
 refine sV X4 hx y d10_28 (by decide) ?_
 refine sA X4 hx y d10_31 rfl rfl ?_
 refine sI X4 hx y d10_32 rfl ?_
 refine oCV X4 hx hZ ho (oW hw 64 rfl) (bu93 hw) U0 (rm14_166 hw hS O0 v0_ v2_ v3_ v4_ v5_ v6_ v7_ U0 U1 U2 U3 U5 U10 U11) 0 (by decide) [.int 1] rfl (lenOf pd94 rfl) hml rfl rfl rfl y d10_33 e4 ?_
 rintro _ T5 _ X5 ⟨rfl, N5q, e5⟩
 have N5 := Fr.app N4 N5q
 refine sN X5 hx y d10_36 #[rv v0_, rv v1_, iv 1, iv v4_] rfl ?_
 refine sI X5 hx y d10_37 rfl ?_
 refine sD X5 hx y d10_38 ?_
 refine sV X5 hx y d10_40 (flt U18).1 ?_
 refine sI X5 hx y d10_43 rfl ?_
 refine sD X5 hx y d10_44 ?_
 refine sU X5 hx y d10_46 (feq U19).2 63 (by decide) ?_
 refine sY X5 hx y d10_63 #[rv v0_, rv v1_, iv ((1 : Int32) + (1 : Int32)), iv v4_] rfl rfl ?_
 rw [(by decide : ((1 : Int32) + (1 : Int32)) = (2 : Int32))]
 refine sR X5 hx y d10_66 23 (by decide) ?_
 refine sI X5 hx y d10_23 rfl ?_
 refine sA X5 hx y d10_24 rfl rfl ?_
 refine oCV X5 hx hZ ho (oW hw 54 rfl) (bu66 hw) U0 (rm12_153 hw hS O0 v0_ v2_ v3_ v4_ v5_ v6_ v7_ U0 U1 U2 U3) 1 (by decide) [] rfl (lenOf pd67 rfl) hml rfl rfl rfl y d10_25 e5 ?_
 rintro _ T6 _ X6 ⟨rfl, N6q, e6⟩
 have N6 := Fr.app N5 N6q
 refine sV X6 hx y d10_28 (by decide) ?_
 refine sA X6 hx y d10_31 rfl rfl ?_
 refine sI X6 hx y d10_32 rfl ?_
 refine oCV X6 hx hZ ho (oW hw 64 rfl) (bu93 hw) U0 (rm14_172 hw hS O0 v0_ v2_ v3_ v4_ v5_ v6_ v7_ U0 U1 U2 U3 U6 U12 U13) 0 (by decide) [.int 2] rfl (lenOf pd94 rfl) hml rfl rfl rfl y d10_33 e6 ?_
 rintro _ T7 _ X7 ⟨rfl, N7q, e7⟩
 have N7 := Fr.app N6 N7q
 refine sN X7 hx y d10_36 #[rv v0_, rv v1_, iv 2, iv v5_] rfl ?_
 refine sI X7 hx y d10_37 rfl ?_
 refine sD X7 hx y d10_38 ?_
 refine sV X7 hx y d10_40 (flt U20).1 ?_
 refine sI X7 hx y d10_43 rfl ?_
 refine sD X7 hx y d10_44 ?_
 refine sU X7 hx y d10_46 (feq U21).2 63 (by decide) ?_
 refine sY X7 hx y d10_63 #[rv v0_, rv v1_, iv ((2 : Int32) + (1 : Int32)), iv v5_] rfl rfl ?_
 rw [(by decide : ((2 : Int32) + (1 : Int32)) = (3 : Int32))]
 refine sR X7 hx y d10_66 23 (by decide) ?_
 refine sI X7 hx y d10_23 rfl ?_
 refine sA X7 hx y d10_24 rfl rfl ?_
 refine oCV X7 hx hZ ho (oW hw 54 rfl) (bu66 hw) U0 (rm12_153 hw hS O0 v0_ v2_ v3_ v4_ v5_ v6_ v7_ U0 U1 U2 U3) 1 (by decide) [] rfl (lenOf pd67 rfl) hml rfl rfl rfl y d10_25 e7 ?_
 rintro _ T8 _ X8 ⟨rfl, N8q, e8⟩
 have N8 := Fr.app N7 N8q
 refine sV X8 hx y d10_28 (by decide) ?_
 refine sA X8 hx y d10_31 rfl rfl ?_
 refine sI X8 hx y d10_32 rfl ?_
 refine oCV X8 hx hZ ho (oW hw 64 rfl) (bu93 hw) U0 (rm14_178 hw hS O0 v0_ v2_ v3_ v4_ v5_ v6_ v7_ U0 U1 U2 U3 U7 U14 U15) 0 (by decide) [.int 3] rfl (lenOf pd94 rfl) hml rfl rfl rfl y d10_33 e8 ?_
 rintro _ T9 _ X9 ⟨rfl, N9q, e9⟩
 have N9 := Fr.app N8 N9q
 refine sN X9 hx y d10_36 #[rv v0_, rv v1_, iv 3, iv v6_] rfl ?_
 refine sI X9 hx y d10_37 rfl ?_
 refine sD X9 hx y d10_38 ?_
 refine sV X9 hx y d10_40 (flt U22).1 ?_
 refine sI X9 hx y d10_43 rfl ?_
 refine sD X9 hx y d10_44 ?_
 refine sU X9 hx y d10_46 (feq U23).2 63 (by decide) ?_
 refine sY X9 hx y d10_63 #[rv v0_, rv v1_, iv ((3 : Int32) + (1 : Int32)), iv v6_] rfl rfl ?_
 rw [(by decide : ((3 : Int32) + (1 : Int32)) = (4 : Int32))]
 refine sR X9 hx y d10_66 23 (by decide) ?_
 refine sI X9 hx y d10_23 rfl ?_
 refine sA X9 hx y d10_24 rfl rfl ?_
 refine oCV X9 hx hZ ho (oW hw 54 rfl) (bu66 hw) U0 (rm12_153 hw hS O0 v0_ v2_ v3_ v4_ v5_ v6_ v7_ U0 U1 U2 U3) 1 (by decide) [] rfl (lenOf pd67 rfl) hml rfl rfl rfl y d10_25 e9 ?_
 rintro _ T10 _ X10 ⟨rfl, N10q, e10⟩
 have N10 := Fr.app N9 N10q
 refine sU X10 hx y d10_28 (by decide) 69 (by decide) ?_
 refine sA X10 hx y d10_69 rfl rfl ?_
 refine sC X10 hx y d10_70 ?_
 refine oCV X10 hx hZ ho (oW hw 64 rfl) (bu93 hw) U0 (rm14_160 hw hS O0 v0_ v2_ v3_ v4_ v5_ v6_ v7_ U0 U1 U2 U3 U4 U8 U9) 0 (by decide) [.int 0] rfl (lenOf pd94 rfl) hml rfl rfl rfl y d10_71 e10 ?_
 rintro _ T11 _ X11 ⟨rfl, N11q, e11⟩
 have N11 := Fr.app N10 N11q
 refine sN X11 hx y d10_74 #[rv v0_, rv v1_, iv v3_, iv v6_] rfl ?_
 obtain ⟨b12, T12, h12, k12, d12, kd12, X12, e12, E12, hS12, hk12, hZ12, hown12, Ea12, Fc12, Fv12, V12, -, -, hC12, -, hne12, st12⟩ := ldcCH X11 hx hZ ho (oW hw 86 rfl) (fun d hd => hw d (own_satoms d hd)) e11 hS0 (Nat.zero_le _) (own_EW hw) (by decide) (CHr.refl H0).1 (vs := [(.int 61), (.int 43), (.int 45), (.int 64)]) (z := (4 : Int32)) ⟨by decide, by decide⟩ (by decide) rfl (g := (mkF m 75 #[rv v0_, rv v1_, iv v3_, iv v6_] [])) rfl (hb y d10_75) (n := 16) (by decide) (by decide) (by decide) (by decide)
 refine own_step st12 ?_
 have O12 := O0.ext E12
 have K12 := (Keep.refl h0 []).ext E12
 have R12 := CHr.trans (CHr.refl H0) hC12
 refine sI X12 hx y d10_77 rfl ?_
 refine oCV X12 hx hZ12 hown12 (oW hw 87 rfl) (bu110 hw) Ea12 (rm19_78 hw hS O12 b12 v3_ d12 kd12 Ea12 Fc12 Fv12 V12 U8 U24 U25 U26 U27) 0 (by decide) [.int v3_] rfl (lenOf pd22 rfl) hml rfl rfl rfl y d10_78 e12 ?_
 rintro _ T13 _ X13 ⟨rfl, N13q, e13⟩
 have N13 := Fr.app N11 N13q
 refine sS X13 hx y d10_81 (by decide) 99 (by decide) ?_
 refine sA X13 hx y d10_99 rfl rfl ?_
 exact own_retAH X13 hS12 (by rw [e13]; exact hk12) hZ12 (own_EW hw) (by rw [e13]; exact R12) hx hr rfl rfl hl (hb y d10_100) (by decide) (by decide) (by rw [e13]; exact ⟨rfl, N13, K12⟩)


theorem rm11_180 (v0_ v1_ : Addr) (v2_ v3_ v4_ v5_ : Int32) (v6_ : ClassId) (U0 : Fb Z h0 v0_ (.ref v1_)) (U1 : Arv Z h0 v1_ v6_ .byte 4 [(.int (oBy v2_)), (.int (oBy v3_)), (.int (oBy v4_)), (.int (oBy v5_))] (.int 0)) :
  oM hw hS O0 l y11 cd11 (oR 0 0 0 0) #[.ref v0_] (fun v h L => (v = some (.int 0) ∧ Fr n0 L ∧ h = h0)) := by
 refine own_met (own := "java/lang/String") (plainFor_of_name pn46) rfl ?_
 intro p e s m u mt c s₁ hx y hml ho hq hr hl hZ e0 X0
 refine own_cast (g' := (mkF m 0 #[rv v0_] [])) rfl ?_
 refine sA X0 hx y d11_0 rfl rfl ?_
 refine sg X0 hx hZ ho (oW hw 40 rfl) e0 U0 y d11_1 fun T1 X1 e1 => ?_
 refine sa X1 hx hZ e1 U1 y d11_4 ?_
 refine sS X1 hx y d11_5 (by decide) 12 (by decide) ?_
 refine sC X1 hx y d11_12 ?_
 exact own_retN X1 hx (t := .boolean) hr (by simp) hl (hb y d11_13) (by decide) (by decide) (by rw [e1]; exact ⟨rfl, (Fr.nil n0), rfl⟩)


theorem rm12_181 (v0_ v1_ : Addr) (v2_ v3_ v4_ v5_ : Int32) (v6_ : ClassId) (U0 : Ga Z h0 v0_) (U1 : Fa Z h0 v0_ (.int 0)) (U2 : Fb Z h0 v0_ (.ref v1_)) (U3 : Arv Z h0 v1_ v6_ .byte 4 [(.int (oBy v2_)), (.int (oBy v3_)), (.int (oBy v4_)), (.int (oBy v5_))] (.int 0)) :
  oM hw hS O0 l y12 cd12 (oR 1 0 0 13) #[.ref v0_] (fun v h L => (v = some (.int 4) ∧ Fr n0 L ∧ h = h0)) := by
 refine own_met (own := "java/lang/String") (plainFor_of_name pn46) rfl ?_
 intro p e s m u mt c s₁ hx y hml ho hq hr hl hZ e0 X0
 refine own_cast (g' := (mkF m 0 #[rv v0_] [])) rfl ?_
 refine sA X0 hx y d12_0 rfl rfl ?_
 refine sg X0 hx hZ ho (oW hw 40 rfl) e0 U2 y d12_1 fun T1 X1 e1 => ?_
 refine sa X1 hx hZ e1 U3 y d12_4 ?_
 refine sA X1 hx y d12_5 rfl rfl ?_
 refine oCV X1 hx hZ ho (oW hw 59 rfl) (bu63 hw) U0 (rm13_26 hw hS O0 v0_ U1) 1 (by decide) [] rfl (lenOf pd64 rfl) hml rfl rfl rfl y d12_6 e1 ?_
 rintro _ T3 _ X3 ⟨rfl, N3q, e3⟩
 have N3 := Fr.app (Fr.nil n0) N3q
 refine sM X3 hx y d12_9 ?_
 refine oV (b := 4) (by decide) ?_
 exact own_retI X3 hx hr hl (hb y d12_10) (by decide) (by decide) (by rw [e3]; exact ⟨rfl, N3, rfl⟩)


theorem rm16_182 (v0_ : Addr) (v1_ v2_ v3_ v4_ : Int32) (v5_ : ClassId) (U0 : Arv Z h0 v0_ v5_ .byte 4 [(.int (oBy v1_)), (.int (oBy v2_)), (.int (oBy v3_)), (.int (oBy v4_))] (.int 0)) (U1 : nar .char v1_ = v1_) (U2 : ¬ (v1_ < (0 : Int32))) (U3 : ¬ ((255 : Int32) < v1_)) :
  oM hw hS O0 l y16 cd16 (oR 2 0 0 27) #[.ref v0_, .int 0] (fun v h L => (v = some (.int v1_) ∧ Fr n0 L ∧ h = h0)) := by
 refine own_met (own := "java/lang/StringLatin1") (plainFor_of_name pn100) rfl ?_
 intro p e s m u mt c s₁ hx y hml ho hq hr hl hZ e0 X0
 refine own_cast (g' := (mkF m 0 #[rv v0_, iv 0] [])) rfl ?_
 refine sI X0 hx y d16_0 rfl ?_
 refine sA X0 hx y d16_1 rfl rfl ?_
 refine sa X0 hx hZ e0 U0 y d16_2 ?_
 refine oCS X0 hx hZ ho (oW hw 78 rfl) (bu85 hw) (rm17_157 hw hS O0) 0 (by decide) [.int 0, .int 4] rfl (lenOf pd86 rfl) hml rfl rfl rfl y d16_3 e0 ?_
 rintro _ T2 _ X2 ⟨rfl, N2q, e2⟩
 have N2 := Fr.app (Fr.nil n0) N2q
 refine sA X2 hx y d16_6 rfl rfl ?_
 refine sI X2 hx y d16_7 rfl ?_
 obtain ⟨c3, r3, q3, t3, u3, y3h, y3g⟩ := id U0
 have i3 : ¬ ((0 : Int32) < 0 ∨ c3.slots.size ≤ ((0 : Int32)).toNatClampNeg) := inb_of t3 ⟨by decide, by decide⟩
 refine own_step (fun _ k => X2.baloadBytes hx (j := (0 : Int32)) (v := (.int (oBy v1_))) (by rw [e2]; exact r3.1) (State.isArrayOf_alike hZ.alike r3.2.1) r3.2.2 i3 (own_get t3 y3h i3 0 rfl) (g := (mkF m 8 #[rv v0_, iv 0] [.int 0, .ref v0_])) rfl rfl (hb y d16_8) _ k) ?_
 refine oS (XS.sipush X2.here hx rfl (hb y d16_9)) ?_
 refine oS (XS.iand X2.here hx rfl (hb y d16_12) rfl) ?_
 refine oS (XS.i2c X2.here hx rfl (hb y d16_13) rfl) ?_
 show own_Wp p e u _ T2 (mkF m 14 #[rv v0_, iv 0] [.int (((oBy v1_) &&& (255 : Int32)).toUInt32.toUInt16.toUInt32.toInt32)])
 rw [(own_b8 U2 U3 : (((oBy v1_) &&& (255 : Int32)).toUInt32.toUInt16.toUInt32.toInt32) = v1_)]
 exact own_retN X2 hx (t := .char) hr (by simp) hl (hb y d16_14) (by decide) (by decide) (by rw [U1, e2]; exact ⟨rfl, N2, rfl⟩)


theorem rm14_183 (v0_ v1_ : Addr) (v2_ v3_ v4_ v5_ : Int32) (v6_ : ClassId) (U0 : Ga Z h0 v0_) (U1 : Fa Z h0 v0_ (.int 0)) (U2 : Fb Z h0 v0_ (.ref v1_)) (U3 : Arv Z h0 v1_ v6_ .byte 4 [(.int (oBy v2_)), (.int (oBy v3_)), (.int (oBy v4_)), (.int (oBy v5_))] (.int 0)) (U4 : nar .char v2_ = v2_) (U5 : ¬ (v2_ < (0 : Int32))) (U6 : ¬ ((255 : Int32) < v2_)) :
  oM hw hS O0 l y14 cd14 (oR 3 0 0 40) #[.ref v0_, .int 0] (fun v h L => (v = some (.int v2_) ∧ Fr n0 L ∧ h = h0)) := by
 refine own_met (own := "java/lang/String") (plainFor_of_name pn46) rfl ?_
 intro p e s m u mt c s₁ hx y hml ho hq hr hl hZ e0 X0
 refine own_cast (g' := (mkF m 0 #[rv v0_, iv 0] [])) rfl ?_
 refine sA X0 hx y d14_0 rfl rfl ?_
 refine oCV X0 hx hZ ho (oW hw 69 rfl) (bu71 hw) U0 (rm15_25 hw hS O0 v0_ U1) 0 (by decide) [] rfl (lenOf pd59 rfl) hml rfl rfl rfl y d14_1 e0 ?_
 rintro _ T1 _ X1 ⟨rfl, N1q, e1⟩
 have N1 := Fr.app (Fr.nil n0) N1q
 refine sT X1 hx y d14_4 (by decide) ?_
 refine sA X1 hx y d14_7 rfl rfl ?_
 refine sg X1 hx hZ ho (oW hw 40 rfl) e1 U2 y d14_8 fun T2 X2 e2 => ?_
 refine sI X2 hx y d14_11 rfl ?_
 refine oCS X2 hx hZ ho (oW hw 74 rfl) (bu120 hw) (rm16_182 hw hS O0 v1_ v2_ v3_ v4_ v5_ v6_ U3 U4 U5 U6) 0 (by decide) [.ref v1_, .int 0] rfl (lenOf pd36 rfl) hml rfl rfl rfl y d14_12 e2 ?_
 rintro _ T3 _ X3 ⟨rfl, N3q, e3⟩
 have N3 := Fr.app N1 N3q
 exact own_retN X3 hx (t := .char) hr (by simp) hl (hb y d14_15) (by decide) (by decide) (by rw [U4, e3]; exact ⟨rfl, N3, rfl⟩)


theorem rm16_184 (v0_ : Addr) (v1_ v2_ v3_ v4_ : Int32) (v5_ : ClassId) (U0 : Arv Z h0 v0_ v5_ .byte 4 [(.int (oBy v1_)), (.int (oBy v2_)), (.int (oBy v3_)), (.int (oBy v4_))] (.int 0)) (U1 : nar .char v2_ = v2_) (U2 : ¬ (v2_ < (0 : Int32))) (U3 : ¬ ((255 : Int32) < v2_)) :
  oM hw hS O0 l y16 cd16 (oR 2 0 0 27) #[.ref v0_, .int 1] (fun v h L => (v = some (.int v2_) ∧ Fr n0 L ∧ h = h0)) := by
 refine own_met (own := "java/lang/StringLatin1") (plainFor_of_name pn100) rfl ?_
 intro p e s m u mt c s₁ hx y hml ho hq hr hl hZ e0 X0
 refine own_cast (g' := (mkF m 0 #[rv v0_, iv 1] [])) rfl ?_
 refine sI X0 hx y d16_0 rfl ?_
 refine sA X0 hx y d16_1 rfl rfl ?_
 refine sa X0 hx hZ e0 U0 y d16_2 ?_
 refine oCS X0 hx hZ ho (oW hw 78 rfl) (bu85 hw) (rm17_163 hw hS O0) 0 (by decide) [.int 1, .int 4] rfl (lenOf pd86 rfl) hml rfl rfl rfl y d16_3 e0 ?_
 rintro _ T2 _ X2 ⟨rfl, N2q, e2⟩
 have N2 := Fr.app (Fr.nil n0) N2q
 refine sA X2 hx y d16_6 rfl rfl ?_
 refine sI X2 hx y d16_7 rfl ?_
 obtain ⟨c3, r3, q3, t3, u3, y3h, y3g⟩ := id U0
 have i3 : ¬ ((1 : Int32) < 0 ∨ c3.slots.size ≤ ((1 : Int32)).toNatClampNeg) := inb_of t3 ⟨by decide, by decide⟩
 refine own_step (fun _ k => X2.baloadBytes hx (j := (1 : Int32)) (v := (.int (oBy v2_))) (by rw [e2]; exact r3.1) (State.isArrayOf_alike hZ.alike r3.2.1) r3.2.2 i3 (own_get t3 y3h i3 1 rfl) (g := (mkF m 8 #[rv v0_, iv 1] [.int 1, .ref v0_])) rfl rfl (hb y d16_8) _ k) ?_
 refine oS (XS.sipush X2.here hx rfl (hb y d16_9)) ?_
 refine oS (XS.iand X2.here hx rfl (hb y d16_12) rfl) ?_
 refine oS (XS.i2c X2.here hx rfl (hb y d16_13) rfl) ?_
 show own_Wp p e u _ T2 (mkF m 14 #[rv v0_, iv 1] [.int (((oBy v2_) &&& (255 : Int32)).toUInt32.toUInt16.toUInt32.toInt32)])
 rw [(own_b8 U2 U3 : (((oBy v2_) &&& (255 : Int32)).toUInt32.toUInt16.toUInt32.toInt32) = v2_)]
 exact own_retN X2 hx (t := .char) hr (by simp) hl (hb y d16_14) (by decide) (by decide) (by rw [U1, e2]; exact ⟨rfl, N2, rfl⟩)


theorem rm14_185 (v0_ v1_ : Addr) (v2_ v3_ v4_ v5_ : Int32) (v6_ : ClassId) (U0 : Ga Z h0 v0_) (U1 : Fa Z h0 v0_ (.int 0)) (U2 : Fb Z h0 v0_ (.ref v1_)) (U3 : Arv Z h0 v1_ v6_ .byte 4 [(.int (oBy v2_)), (.int (oBy v3_)), (.int (oBy v4_)), (.int (oBy v5_))] (.int 0)) (U4 : nar .char v3_ = v3_) (U5 : ¬ (v3_ < (0 : Int32))) (U6 : ¬ ((255 : Int32) < v3_)) :
  oM hw hS O0 l y14 cd14 (oR 3 0 0 40) #[.ref v0_, .int 1] (fun v h L => (v = some (.int v3_) ∧ Fr n0 L ∧ h = h0)) := by
 refine own_met (own := "java/lang/String") (plainFor_of_name pn46) rfl ?_
 intro p e s m u mt c s₁ hx y hml ho hq hr hl hZ e0 X0
 refine own_cast (g' := (mkF m 0 #[rv v0_, iv 1] [])) rfl ?_
 refine sA X0 hx y d14_0 rfl rfl ?_
 refine oCV X0 hx hZ ho (oW hw 69 rfl) (bu71 hw) U0 (rm15_25 hw hS O0 v0_ U1) 0 (by decide) [] rfl (lenOf pd59 rfl) hml rfl rfl rfl y d14_1 e0 ?_
 rintro _ T1 _ X1 ⟨rfl, N1q, e1⟩
 have N1 := Fr.app (Fr.nil n0) N1q
 refine sT X1 hx y d14_4 (by decide) ?_
 refine sA X1 hx y d14_7 rfl rfl ?_
 refine sg X1 hx hZ ho (oW hw 40 rfl) e1 U2 y d14_8 fun T2 X2 e2 => ?_
 refine sI X2 hx y d14_11 rfl ?_
 refine oCS X2 hx hZ ho (oW hw 74 rfl) (bu120 hw) (rm16_184 hw hS O0 v1_ v2_ v3_ v4_ v5_ v6_ U3 U4 U5 U6) 0 (by decide) [.ref v1_, .int 1] rfl (lenOf pd36 rfl) hml rfl rfl rfl y d14_12 e2 ?_
 rintro _ T3 _ X3 ⟨rfl, N3q, e3⟩
 have N3 := Fr.app N1 N3q
 exact own_retN X3 hx (t := .char) hr (by simp) hl (hb y d14_15) (by decide) (by decide) (by rw [U4, e3]; exact ⟨rfl, N3, rfl⟩)


theorem rm16_186 (v0_ : Addr) (v1_ v2_ v3_ v4_ : Int32) (v5_ : ClassId) (U0 : Arv Z h0 v0_ v5_ .byte 4 [(.int (oBy v1_)), (.int (oBy v2_)), (.int (oBy v3_)), (.int (oBy v4_))] (.int 0)) (U1 : nar .char v3_ = v3_) (U2 : ¬ (v3_ < (0 : Int32))) (U3 : ¬ ((255 : Int32) < v3_)) :
  oM hw hS O0 l y16 cd16 (oR 2 0 0 27) #[.ref v0_, .int 2] (fun v h L => (v = some (.int v3_) ∧ Fr n0 L ∧ h = h0)) := by
 refine own_met (own := "java/lang/StringLatin1") (plainFor_of_name pn100) rfl ?_
 intro p e s m u mt c s₁ hx y hml ho hq hr hl hZ e0 X0
 refine own_cast (g' := (mkF m 0 #[rv v0_, iv 2] [])) rfl ?_
 refine sI X0 hx y d16_0 rfl ?_
 refine sA X0 hx y d16_1 rfl rfl ?_
 refine sa X0 hx hZ e0 U0 y d16_2 ?_
 refine oCS X0 hx hZ ho (oW hw 78 rfl) (bu85 hw) (rm17_169 hw hS O0) 0 (by decide) [.int 2, .int 4] rfl (lenOf pd86 rfl) hml rfl rfl rfl y d16_3 e0 ?_
 rintro _ T2 _ X2 ⟨rfl, N2q, e2⟩
 have N2 := Fr.app (Fr.nil n0) N2q
 refine sA X2 hx y d16_6 rfl rfl ?_
 refine sI X2 hx y d16_7 rfl ?_
 obtain ⟨c3, r3, q3, t3, u3, y3h, y3g⟩ := id U0
 have i3 : ¬ ((2 : Int32) < 0 ∨ c3.slots.size ≤ ((2 : Int32)).toNatClampNeg) := inb_of t3 ⟨by decide, by decide⟩
 refine own_step (fun _ k => X2.baloadBytes hx (j := (2 : Int32)) (v := (.int (oBy v3_))) (by rw [e2]; exact r3.1) (State.isArrayOf_alike hZ.alike r3.2.1) r3.2.2 i3 (own_get t3 y3h i3 2 rfl) (g := (mkF m 8 #[rv v0_, iv 2] [.int 2, .ref v0_])) rfl rfl (hb y d16_8) _ k) ?_
 refine oS (XS.sipush X2.here hx rfl (hb y d16_9)) ?_
 refine oS (XS.iand X2.here hx rfl (hb y d16_12) rfl) ?_
 refine oS (XS.i2c X2.here hx rfl (hb y d16_13) rfl) ?_
 show own_Wp p e u _ T2 (mkF m 14 #[rv v0_, iv 2] [.int (((oBy v3_) &&& (255 : Int32)).toUInt32.toUInt16.toUInt32.toInt32)])
 rw [(own_b8 U2 U3 : (((oBy v3_) &&& (255 : Int32)).toUInt32.toUInt16.toUInt32.toInt32) = v3_)]
 exact own_retN X2 hx (t := .char) hr (by simp) hl (hb y d16_14) (by decide) (by decide) (by rw [U1, e2]; exact ⟨rfl, N2, rfl⟩)


theorem rm14_187 (v0_ v1_ : Addr) (v2_ v3_ v4_ v5_ : Int32) (v6_ : ClassId) (U0 : Ga Z h0 v0_) (U1 : Fa Z h0 v0_ (.int 0)) (U2 : Fb Z h0 v0_ (.ref v1_)) (U3 : Arv Z h0 v1_ v6_ .byte 4 [(.int (oBy v2_)), (.int (oBy v3_)), (.int (oBy v4_)), (.int (oBy v5_))] (.int 0)) (U4 : nar .char v4_ = v4_) (U5 : ¬ (v4_ < (0 : Int32))) (U6 : ¬ ((255 : Int32) < v4_)) :
  oM hw hS O0 l y14 cd14 (oR 3 0 0 40) #[.ref v0_, .int 2] (fun v h L => (v = some (.int v4_) ∧ Fr n0 L ∧ h = h0)) := by
 refine own_met (own := "java/lang/String") (plainFor_of_name pn46) rfl ?_
 intro p e s m u mt c s₁ hx y hml ho hq hr hl hZ e0 X0
 refine own_cast (g' := (mkF m 0 #[rv v0_, iv 2] [])) rfl ?_
 refine sA X0 hx y d14_0 rfl rfl ?_
 refine oCV X0 hx hZ ho (oW hw 69 rfl) (bu71 hw) U0 (rm15_25 hw hS O0 v0_ U1) 0 (by decide) [] rfl (lenOf pd59 rfl) hml rfl rfl rfl y d14_1 e0 ?_
 rintro _ T1 _ X1 ⟨rfl, N1q, e1⟩
 have N1 := Fr.app (Fr.nil n0) N1q
 refine sT X1 hx y d14_4 (by decide) ?_
 refine sA X1 hx y d14_7 rfl rfl ?_
 refine sg X1 hx hZ ho (oW hw 40 rfl) e1 U2 y d14_8 fun T2 X2 e2 => ?_
 refine sI X2 hx y d14_11 rfl ?_
 refine oCS X2 hx hZ ho (oW hw 74 rfl) (bu120 hw) (rm16_186 hw hS O0 v1_ v2_ v3_ v4_ v5_ v6_ U3 U4 U5 U6) 0 (by decide) [.ref v1_, .int 2] rfl (lenOf pd36 rfl) hml rfl rfl rfl y d14_12 e2 ?_
 rintro _ T3 _ X3 ⟨rfl, N3q, e3⟩
 have N3 := Fr.app N1 N3q
 exact own_retN X3 hx (t := .char) hr (by simp) hl (hb y d14_15) (by decide) (by decide) (by rw [U4, e3]; exact ⟨rfl, N3, rfl⟩)


theorem rm16_188 (v0_ : Addr) (v1_ v2_ v3_ v4_ : Int32) (v5_ : ClassId) (U0 : Arv Z h0 v0_ v5_ .byte 4 [(.int (oBy v1_)), (.int (oBy v2_)), (.int (oBy v3_)), (.int (oBy v4_))] (.int 0)) (U1 : nar .char v4_ = v4_) (U2 : ¬ (v4_ < (0 : Int32))) (U3 : ¬ ((255 : Int32) < v4_)) :
  oM hw hS O0 l y16 cd16 (oR 2 0 0 27) #[.ref v0_, .int 3] (fun v h L => (v = some (.int v4_) ∧ Fr n0 L ∧ h = h0)) := by
 refine own_met (own := "java/lang/StringLatin1") (plainFor_of_name pn100) rfl ?_
 intro p e s m u mt c s₁ hx y hml ho hq hr hl hZ e0 X0
 refine own_cast (g' := (mkF m 0 #[rv v0_, iv 3] [])) rfl ?_
 refine sI X0 hx y d16_0 rfl ?_
 refine sA X0 hx y d16_1 rfl rfl ?_
 refine sa X0 hx hZ e0 U0 y d16_2 ?_
 refine oCS X0 hx hZ ho (oW hw 78 rfl) (bu85 hw) (rm17_175 hw hS O0) 0 (by decide) [.int 3, .int 4] rfl (lenOf pd86 rfl) hml rfl rfl rfl y d16_3 e0 ?_
 rintro _ T2 _ X2 ⟨rfl, N2q, e2⟩
 have N2 := Fr.app (Fr.nil n0) N2q
 refine sA X2 hx y d16_6 rfl rfl ?_
 refine sI X2 hx y d16_7 rfl ?_
 obtain ⟨c3, r3, q3, t3, u3, y3h, y3g⟩ := id U0
 have i3 : ¬ ((3 : Int32) < 0 ∨ c3.slots.size ≤ ((3 : Int32)).toNatClampNeg) := inb_of t3 ⟨by decide, by decide⟩
 refine own_step (fun _ k => X2.baloadBytes hx (j := (3 : Int32)) (v := (.int (oBy v4_))) (by rw [e2]; exact r3.1) (State.isArrayOf_alike hZ.alike r3.2.1) r3.2.2 i3 (own_get t3 y3h i3 3 rfl) (g := (mkF m 8 #[rv v0_, iv 3] [.int 3, .ref v0_])) rfl rfl (hb y d16_8) _ k) ?_
 refine oS (XS.sipush X2.here hx rfl (hb y d16_9)) ?_
 refine oS (XS.iand X2.here hx rfl (hb y d16_12) rfl) ?_
 refine oS (XS.i2c X2.here hx rfl (hb y d16_13) rfl) ?_
 show own_Wp p e u _ T2 (mkF m 14 #[rv v0_, iv 3] [.int (((oBy v4_) &&& (255 : Int32)).toUInt32.toUInt16.toUInt32.toInt32)])
 rw [(own_b8 U2 U3 : (((oBy v4_) &&& (255 : Int32)).toUInt32.toUInt16.toUInt32.toInt32) = v4_)]
 exact own_retN X2 hx (t := .char) hr (by simp) hl (hb y d16_14) (by decide) (by decide) (by rw [U1, e2]; exact ⟨rfl, N2, rfl⟩)


theorem rm14_189 (v0_ v1_ : Addr) (v2_ v3_ v4_ v5_ : Int32) (v6_ : ClassId) (U0 : Ga Z h0 v0_) (U1 : Fa Z h0 v0_ (.int 0)) (U2 : Fb Z h0 v0_ (.ref v1_)) (U3 : Arv Z h0 v1_ v6_ .byte 4 [(.int (oBy v2_)), (.int (oBy v3_)), (.int (oBy v4_)), (.int (oBy v5_))] (.int 0)) (U4 : nar .char v5_ = v5_) (U5 : ¬ (v5_ < (0 : Int32))) (U6 : ¬ ((255 : Int32) < v5_)) :
  oM hw hS O0 l y14 cd14 (oR 3 0 0 40) #[.ref v0_, .int 3] (fun v h L => (v = some (.int v5_) ∧ Fr n0 L ∧ h = h0)) := by
 refine own_met (own := "java/lang/String") (plainFor_of_name pn46) rfl ?_
 intro p e s m u mt c s₁ hx y hml ho hq hr hl hZ e0 X0
 refine own_cast (g' := (mkF m 0 #[rv v0_, iv 3] [])) rfl ?_
 refine sA X0 hx y d14_0 rfl rfl ?_
 refine oCV X0 hx hZ ho (oW hw 69 rfl) (bu71 hw) U0 (rm15_25 hw hS O0 v0_ U1) 0 (by decide) [] rfl (lenOf pd59 rfl) hml rfl rfl rfl y d14_1 e0 ?_
 rintro _ T1 _ X1 ⟨rfl, N1q, e1⟩
 have N1 := Fr.app (Fr.nil n0) N1q
 refine sT X1 hx y d14_4 (by decide) ?_
 refine sA X1 hx y d14_7 rfl rfl ?_
 refine sg X1 hx hZ ho (oW hw 40 rfl) e1 U2 y d14_8 fun T2 X2 e2 => ?_
 refine sI X2 hx y d14_11 rfl ?_
 refine oCS X2 hx hZ ho (oW hw 74 rfl) (bu120 hw) (rm16_188 hw hS O0 v1_ v2_ v3_ v4_ v5_ v6_ U3 U4 U5 U6) 0 (by decide) [.ref v1_, .int 3] rfl (lenOf pd36 rfl) hml rfl rfl rfl y d14_12 e2 ?_
 rintro _ T3 _ X3 ⟨rfl, N3q, e3⟩
 have N3 := Fr.app N1 N3q
 exact own_retN X3 hx (t := .char) hr (by simp) hl (hb y d14_15) (by decide) (by decide) (by rw [U4, e3]; exact ⟨rfl, N3, rfl⟩)


theorem rm10_190 (v0_ v1_ v2_ : Addr) (v3_ v4_ v5_ v6_ : Int32) (v7_ : ClassId) (U0 : Ga Z h0 v0_) (U1 : Fa Z h0 v0_ (.int 0)) (U2 : Fb Z h0 v0_ (.ref v2_)) (U3 : Arv Z h0 v2_ v7_ .byte 4 [(.int (oBy v3_)), (.int (oBy v4_)), (.int (oBy v5_)), (.int (oBy v6_))] (.int 0)) (U4 : nar .char v3_ = v3_) (U5 : nar .char v4_ = v4_) (U6 : nar .char v5_ = v5_) (U7 : nar .char v6_ = v6_) (U8 : ¬ (v3_ < (0 : Int32))) (U9 : ¬ (v4_ < (0 : Int32))) (U10 : ¬ (v5_ < (0 : Int32))) (U11 : ¬ (v6_ < (0 : Int32))) (U12 : ¬ (v3_ < (32 : Int32))) (U13 : ¬ (v3_ = (127 : Int32))) (U14 : ¬ (v4_ < (32 : Int32))) (U15 : ¬ (v4_ = (127 : Int32))) (U16 : ¬ (v5_ < (32 : Int32))) (U17 : ¬ (v5_ = (127 : Int32))) (U18 : ¬ (v6_ < (32 : Int32))) (U19 : ¬ (v6_ = (127 : Int32))) (U20 : ¬ (v3_ = (61 : Int32))) (U21 : ¬ (v3_ = (43 : Int32))) (U22 : ¬ (v3_ = (45 : Int32))) (U23 : ¬ (v3_ = (64 : Int32))) (U24 : ¬ ((255 : Int32) < v3_)) (U25 : ¬ ((255 : Int32) < v4_)) (U26 : ¬ ((255 : Int32) < v5_)) (U27 : ¬ ((255 : Int32) < v6_)) :
  oMH hw hS O0 l y10 cd10 (oR 4 2 20 59) #[.ref v0_, .ref v1_] (fun v h L => (v = some (.ref v0_) ∧ Fr n0 L ∧ Keep h0 h [])) := by
 refine own_metH (own := "com/example/linepack/linepack/Values") (plainFor_of_name pn112) rfl ?_
 intro p e s m u mt c s₁ hx y hml ho hq hr hl hZ e0 X0 hS0 H0
 refine own_cast (g' := (mkF m 0 #[rv v0_, rv v1_, .unset, .unset] [])) rfl ?_
 refine sA X0 hx y d10_0 rfl rfl ?_
 refine oCV X0 hx hZ ho (oW hw 49 rfl) (bu58 hw) U0 (rm11_180 hw hS O0 v0_ v2_ v3_ v4_ v5_ v6_ v7_ U2 U3) 0 (by decide) [] rfl (lenOf pd59 rfl) hml rfl rfl rfl y d10_1 e0 ?_
 rintro _ T1 _ X1 ⟨rfl, N1q, e1⟩
 have N1 := Fr.app (Fr.nil n0) N1q
 refine sS X1 hx y d10_4 (by decide) 21 (by decide) ?_
 refine sC X1 hx y d10_21 ?_
 refine sN X1 hx y d10_22 #[rv v0_, rv v1_, iv 0, .unset] rfl ?_
 refine sI X1 hx y d10_23 rfl ?_
 refine sA X1 hx y d10_24 rfl rfl ?_
 refine oCV X1 hx hZ ho (oW hw 54 rfl) (bu66 hw) U0 (rm12_181 hw hS O0 v0_ v2_ v3_ v4_ v5_ v6_ v7_ U0 U1 U2 U3) 1 (by decide) [] rfl (lenOf pd67 rfl) hml rfl rfl rfl y d10_25 e1 ?_
 rintro _ T2 _ X2 ⟨rfl, N2q, e2⟩
 have N2 := Fr.app N1 N2q
 refine sV X2 hx y d10_28 (by decide) ?_
 refine sA X2 hx y d10_31 rfl rfl ?_
 refine sI X2 hx y d10_32 rfl ?_
 refine oCV X2 hx hZ ho (oW hw 64 rfl) (bu93 hw) U0 (rm14_183 hw hS O0 v0_ v2_ v3_ v4_ v5_ v6_ v7_ U0 U1 U2 U3 U4 U8 U24) 0 (by decide) [.int 0] rfl (lenOf pd94 rfl) hml rfl rfl rfl y d10_33 e2 ?_
 rintro _ T3 _ X3 ⟨rfl, N3q, e3⟩
 have N3 := Fr.app N2 N3q
 refine sN X3 hx y d10_36 #[rv v0_, rv v1_, iv 0, iv v3_] rfl ?_
 refine sI X3 hx y d10_37 rfl ?_
 refine sD X3 hx y d10_38 ?_
 refine sV X3 hx y d10_40 (flt U12).1 ?_
 refine sI X3 hx y d10_43 rfl ?_
 refine sD X3 hx y d10_44 ?_
 refine sU X3 hx y d10_46 (feq U13).2 63 (by decide) ?_
 refine sY X3 hx y d10_63 #[rv v0_, rv v1_, iv ((0 : Int32) + (1 : Int32)), iv v3_] rfl rfl ?_
 rw [(by decide : ((0 : Int32) + (1 : Int32)) = (1 : Int32))]
 refine sR X3 hx y d10_66 23 (by decide) ?_
 refine sI X3 hx y d10_23 rfl ?_
 refine sA X3 hx y d10_24 rfl rfl ?_
 refine oCV X3 hx hZ ho (oW hw 54 rfl) (bu66 hw) U0 (rm12_181 hw hS O0 v0_ v2_ v3_ v4_ v5_ v6_ v7_ U0 U1 U2 U3) 1 (by decide) [] rfl (lenOf pd67 rfl) hml rfl rfl rfl y d10_25 e3 ?_
 rintro _ T4 _ X4 ⟨rfl, N4q, e4⟩
 have N4 := Fr.app N3 N4q
 refine sV X4 hx y d10_28 (by decide) ?_
 refine sA X4 hx y d10_31 rfl rfl ?_
 refine sI X4 hx y d10_32 rfl ?_
 refine oCV X4 hx hZ ho (oW hw 64 rfl) (bu93 hw) U0 (rm14_185 hw hS O0 v0_ v2_ v3_ v4_ v5_ v6_ v7_ U0 U1 U2 U3 U5 U9 U25) 0 (by decide) [.int 1] rfl (lenOf pd94 rfl) hml rfl rfl rfl y d10_33 e4 ?_
 rintro _ T5 _ X5 ⟨rfl, N5q, e5⟩
 have N5 := Fr.app N4 N5q
 refine sN X5 hx y d10_36 #[rv v0_, rv v1_, iv 1, iv v4_] rfl ?_
 refine sI X5 hx y d10_37 rfl ?_
 refine sD X5 hx y d10_38 ?_
 refine sV X5 hx y d10_40 (flt U14).1 ?_
 refine sI X5 hx y d10_43 rfl ?_
 refine sD X5 hx y d10_44 ?_
 refine sU X5 hx y d10_46 (feq U15).2 63 (by decide) ?_
 refine sY X5 hx y d10_63 #[rv v0_, rv v1_, iv ((1 : Int32) + (1 : Int32)), iv v4_] rfl rfl ?_
 rw [(by decide : ((1 : Int32) + (1 : Int32)) = (2 : Int32))]
 refine sR X5 hx y d10_66 23 (by decide) ?_
 refine sI X5 hx y d10_23 rfl ?_
 refine sA X5 hx y d10_24 rfl rfl ?_
 refine oCV X5 hx hZ ho (oW hw 54 rfl) (bu66 hw) U0 (rm12_181 hw hS O0 v0_ v2_ v3_ v4_ v5_ v6_ v7_ U0 U1 U2 U3) 1 (by decide) [] rfl (lenOf pd67 rfl) hml rfl rfl rfl y d10_25 e5 ?_
 rintro _ T6 _ X6 ⟨rfl, N6q, e6⟩
 have N6 := Fr.app N5 N6q
 refine sV X6 hx y d10_28 (by decide) ?_
 refine sA X6 hx y d10_31 rfl rfl ?_
 refine sI X6 hx y d10_32 rfl ?_
 refine oCV X6 hx hZ ho (oW hw 64 rfl) (bu93 hw) U0 (rm14_187 hw hS O0 v0_ v2_ v3_ v4_ v5_ v6_ v7_ U0 U1 U2 U3 U6 U10 U26) 0 (by decide) [.int 2] rfl (lenOf pd94 rfl) hml rfl rfl rfl y d10_33 e6 ?_
 rintro _ T7 _ X7 ⟨rfl, N7q, e7⟩
 have N7 := Fr.app N6 N7q
 refine sN X7 hx y d10_36 #[rv v0_, rv v1_, iv 2, iv v5_] rfl ?_
 refine sI X7 hx y d10_37 rfl ?_
 refine sD X7 hx y d10_38 ?_
 refine sV X7 hx y d10_40 (flt U16).1 ?_
 refine sI X7 hx y d10_43 rfl ?_
 refine sD X7 hx y d10_44 ?_
 refine sU X7 hx y d10_46 (feq U17).2 63 (by decide) ?_
 refine sY X7 hx y d10_63 #[rv v0_, rv v1_, iv ((2 : Int32) + (1 : Int32)), iv v5_] rfl rfl ?_
 rw [(by decide : ((2 : Int32) + (1 : Int32)) = (3 : Int32))]
 refine sR X7 hx y d10_66 23 (by decide) ?_
 refine sI X7 hx y d10_23 rfl ?_
 refine sA X7 hx y d10_24 rfl rfl ?_
 refine oCV X7 hx hZ ho (oW hw 54 rfl) (bu66 hw) U0 (rm12_181 hw hS O0 v0_ v2_ v3_ v4_ v5_ v6_ v7_ U0 U1 U2 U3) 1 (by decide) [] rfl (lenOf pd67 rfl) hml rfl rfl rfl y d10_25 e7 ?_
 rintro _ T8 _ X8 ⟨rfl, N8q, e8⟩
 have N8 := Fr.app N7 N8q
 refine sV X8 hx y d10_28 (by decide) ?_
 refine sA X8 hx y d10_31 rfl rfl ?_
 refine sI X8 hx y d10_32 rfl ?_
 refine oCV X8 hx hZ ho (oW hw 64 rfl) (bu93 hw) U0 (rm14_189 hw hS O0 v0_ v2_ v3_ v4_ v5_ v6_ v7_ U0 U1 U2 U3 U7 U11 U27) 0 (by decide) [.int 3] rfl (lenOf pd94 rfl) hml rfl rfl rfl y d10_33 e8 ?_
 rintro _ T9 _ X9 ⟨rfl, N9q, e9⟩
 have N9 := Fr.app N8 N9q
 refine sN X9 hx y d10_36 #[rv v0_, rv v1_, iv 3, iv v6_] rfl ?_
 refine sI X9 hx y d10_37 rfl ?_
 refine sD X9 hx y d10_38 ?_
 refine sV X9 hx y d10_40 (flt U18).1 ?_
 refine sI X9 hx y d10_43 rfl ?_
 refine sD X9 hx y d10_44 ?_
 refine sU X9 hx y d10_46 (feq U19).2 63 (by decide) ?_
 refine sY X9 hx y d10_63 #[rv v0_, rv v1_, iv ((3 : Int32) + (1 : Int32)), iv v6_] rfl rfl ?_
 rw [(by decide : ((3 : Int32) + (1 : Int32)) = (4 : Int32))]
 refine sR X9 hx y d10_66 23 (by decide) ?_
 refine sI X9 hx y d10_23 rfl ?_
 refine sA X9 hx y d10_24 rfl rfl ?_
 refine oCV X9 hx hZ ho (oW hw 54 rfl) (bu66 hw) U0 (rm12_181 hw hS O0 v0_ v2_ v3_ v4_ v5_ v6_ v7_ U0 U1 U2 U3) 1 (by decide) [] rfl (lenOf pd67 rfl) hml rfl rfl rfl y d10_25 e9 ?_
 rintro _ T10 _ X10 ⟨rfl, N10q, e10⟩
 have N10 := Fr.app N9 N10q
 refine sU X10 hx y d10_28 (by decide) 69 (by decide) ?_
 refine sA X10 hx y d10_69 rfl rfl ?_
 refine sC X10 hx y d10_70 ?_
 refine oCV X10 hx hZ ho (oW hw 64 rfl) (bu93 hw) U0 (rm14_183 hw hS O0 v0_ v2_ v3_ v4_ v5_ v6_ v7_ U0 U1 U2 U3 U4 U8 U24) 0 (by decide) [.int 0] rfl (lenOf pd94 rfl) hml rfl rfl rfl y d10_71 e10 ?_
 rintro _ T11 _ X11 ⟨rfl, N11q, e11⟩
 have N11 := Fr.app N10 N11q
 refine sN X11 hx y d10_74 #[rv v0_, rv v1_, iv v3_, iv v6_] rfl ?_
 obtain ⟨b12, T12, h12, k12, d12, kd12, X12, e12, E12, hS12, hk12, hZ12, hown12, Ea12, Fc12, Fv12, V12, -, -, hC12, -, hne12, st12⟩ := ldcCH X11 hx hZ ho (oW hw 86 rfl) (fun d hd => hw d (own_satoms d hd)) e11 hS0 (Nat.zero_le _) (own_EW hw) (by decide) (CHr.refl H0).1 (vs := [(.int 61), (.int 43), (.int 45), (.int 64)]) (z := (4 : Int32)) ⟨by decide, by decide⟩ (by decide) rfl (g := (mkF m 75 #[rv v0_, rv v1_, iv v3_, iv v6_] [])) rfl (hb y d10_75) (n := 16) (by decide) (by decide) (by decide) (by decide)
 refine own_step st12 ?_
 have O12 := O0.ext E12
 have K12 := (Keep.refl h0 []).ext E12
 have R12 := CHr.trans (CHr.refl H0) hC12
 refine sI X12 hx y d10_77 rfl ?_
 refine oCV X12 hx hZ12 hown12 (oW hw 87 rfl) (bu110 hw) Ea12 (rm19_44 hw hS O12 b12 v3_ d12 kd12 Ea12 Fc12 Fv12 V12 U8 U20 U21 U22 U23 U24) 0 (by decide) [.int v3_] rfl (lenOf pd22 rfl) hml rfl rfl rfl y d10_78 e12 ?_
 rintro _ T13 _ X13 ⟨rfl, N13q, e13⟩
 have N13 := Fr.app N11 N13q
 refine sS X13 hx y d10_81 (by decide) 99 (by decide) ?_
 refine sA X13 hx y d10_99 rfl rfl ?_
 exact own_retAH X13 hS12 (by rw [e13]; exact hk12) hZ12 (own_EW hw) (by rw [e13]; exact R12) hx hr rfl rfl hl (hb y d10_100) (by decide) (by decide) (by rw [e13]; exact ⟨rfl, N13, K12⟩)

end OwnRm
theorem rm0 (l : Launch) (Z : State) (a0 : Array Value) (hw : oH a0 Z) (hS : oJ a0 Z) (ws : List Jvm.Cond) (p0 : Int32) (p1 : Int32) (p2 : Int32) (p3 : Int32) (p4 : Int32) (h0 : Heap) (n0 : Nat) (O0 : Old Z n0 h0) :
  own_MetH l Z own_EL x (Jvm.Cond.code x code maxLocals ret) ws room_1 #[(.int p0), (.int p1), (.int p2), (.int p3), (.int p4)] h0 (fun v h L => v = some (.int (1 : Int32)) ∧ Fr n0 L) := by
 refine own_metH (own := "com/example/linepack/linepack/ValuesIdPinLaw") (plainFor_of_name pn2) rfl ?_
 intro p e s m u mt c s₁ hx y hml ho hq hr hl hZ e0 X0 hS0 H0
 refine own_cast (g' := (mkF m 0 #[iv p0, iv p1, iv p2, iv p3, iv p4, .unset, .unset, .unset, .unset, .unset, .unset, .unset, .unset] [])) (by first | (simp [entryFrame, mkF, argsToLocals, Value.category, maxLocals]; done) | rfl) ?_
 show own_Wp p e u _ s₁ (mkF m 0 #[iv p0, iv p1, iv p2, iv p3, iv p4, .unset, .unset, .unset, .unset, .unset, .unset, .unset, .unset] [])
 refine sI X0 hx y at_0 rfl ?_
 refine own_step (X0.ldcInt hx ho (mvT hZ (oW hw 0 rfl)) (g := (mkF m 1 #[iv p0, iv p1, iv p2, iv p3, iv p4, .unset, .unset, .unset, .unset, .unset, .unset, .unset, .unset] [.int p0])) rfl (hb y at_1)) ?_
 refine oS (XS.iand X0.here hx rfl (hb y at_3) rfl) ?_
 refine sC X0 hx y at_4 ?_
 refine own_step (fun _ k => iremM (g := (mkF m 5 #[iv p0, iv p1, iv p2, iv p3, iv p4, .unset, .unset, .unset, .unset, .unset, .unset, .unset, .unset] [.int 5, .int (p0 &&& (2147483647 : Int32))])) X0 hx rfl (hb y at_5) rfl (by decide) k) ?_
 show own_Wp p e u _ s₁ (mkF m 6 #[iv p0, iv p1, iv p2, iv p3, iv p4, .unset, .unset, .unset, .unset, .unset, .unset, .unset, .unset] [.int ((p0 &&& (2147483647 : Int32)) % (5 : Int32))])
 rcases own_mod5 p0 with hm | hm | hm | hm | hm
 ·
  rw [hm]
  refine sO X0 hx y at_6 #[iv p0, iv p1, iv p2, iv p3, iv p4, iv 0, .unset, .unset, .unset, .unset, .unset, .unset, .unset] rfl ?_
  refine sI X0 hx y at_8 rfl ?_
  refine own_step (X0.ldcInt hx ho (mvT hZ (oW hw 1 rfl)) (g := (mkF m 9 #[iv p0, iv p1, iv p2, iv p3, iv p4, iv 0, .unset, .unset, .unset, .unset, .unset, .unset, .unset] [.int p1])) rfl (hb y at_9)) ?_
  refine oS (XS.iand X0.here hx rfl (hb y at_11) rfl) ?_
  refine oS (XS.i2c X0.here hx rfl (hb y at_12) rfl) ?_
  show own_Wp p e u _ s₁ (mkF m 13 #[iv p0, iv p1, iv p2, iv p3, iv p4, iv 0, .unset, .unset, .unset, .unset, .unset, .unset, .unset] [.int ((p1 &&& (65535 : Int32)).toUInt32.toUInt16.toUInt32.toInt32)])
  obtain ⟨c1, hc1⟩ : ∃ z, z = ((p1 &&& (65535 : Int32)).toUInt32.toUInt16.toUInt32.toInt32) := ⟨_, rfl⟩
  rw [← hc1]
  refine sO X0 hx y at_13 #[iv p0, iv p1, iv p2, iv p3, iv p4, iv 0, iv c1, .unset, .unset, .unset, .unset, .unset, .unset] rfl ?_
  refine sI X0 hx y at_15 rfl ?_
  refine own_step (X0.ldcInt hx ho (mvT hZ (oW hw 1 rfl)) (g := (mkF m 16 #[iv p0, iv p1, iv p2, iv p3, iv p4, iv 0, iv c1, .unset, .unset, .unset, .unset, .unset, .unset] [.int p2])) rfl (hb y at_16)) ?_
  refine oS (XS.iand X0.here hx rfl (hb y at_18) rfl) ?_
  refine oS (XS.i2c X0.here hx rfl (hb y at_19) rfl) ?_
  show own_Wp p e u _ s₁ (mkF m 20 #[iv p0, iv p1, iv p2, iv p3, iv p4, iv 0, iv c1, .unset, .unset, .unset, .unset, .unset, .unset] [.int ((p2 &&& (65535 : Int32)).toUInt32.toUInt16.toUInt32.toInt32)])
  obtain ⟨c2, hc2⟩ : ∃ z, z = ((p2 &&& (65535 : Int32)).toUInt32.toUInt16.toUInt32.toInt32) := ⟨_, rfl⟩
  rw [← hc2]
  refine sO X0 hx y at_20 #[iv p0, iv p1, iv p2, iv p3, iv p4, iv 0, iv c1, iv c2, .unset, .unset, .unset, .unset, .unset] rfl ?_
  refine sI X0 hx y at_22 rfl ?_
  refine own_step (X0.ldcInt hx ho (mvT hZ (oW hw 1 rfl)) (g := (mkF m 23 #[iv p0, iv p1, iv p2, iv p3, iv p4, iv 0, iv c1, iv c2, .unset, .unset, .unset, .unset, .unset] [.int p3])) rfl (hb y at_23)) ?_
  refine oS (XS.iand X0.here hx rfl (hb y at_25) rfl) ?_
  refine oS (XS.i2c X0.here hx rfl (hb y at_26) rfl) ?_
  show own_Wp p e u _ s₁ (mkF m 27 #[iv p0, iv p1, iv p2, iv p3, iv p4, iv 0, iv c1, iv c2, .unset, .unset, .unset, .unset, .unset] [.int ((p3 &&& (65535 : Int32)).toUInt32.toUInt16.toUInt32.toInt32)])
  obtain ⟨c3, hc3⟩ : ∃ z, z = ((p3 &&& (65535 : Int32)).toUInt32.toUInt16.toUInt32.toInt32) := ⟨_, rfl⟩
  rw [← hc3]
  refine sO X0 hx y at_27 #[iv p0, iv p1, iv p2, iv p3, iv p4, iv 0, iv c1, iv c2, iv c3, .unset, .unset, .unset, .unset] rfl ?_
  refine sJ X0 hx y at_29 rfl ?_
  refine own_step (X0.ldcInt hx ho (mvT hZ (oW hw 1 rfl)) (g := (mkF m 31 #[iv p0, iv p1, iv p2, iv p3, iv p4, iv 0, iv c1, iv c2, iv c3, .unset, .unset, .unset, .unset] [.int p4])) rfl (hb y at_31)) ?_
  refine oS (XS.iand X0.here hx rfl (hb y at_33) rfl) ?_
  refine oS (XS.i2c X0.here hx rfl (hb y at_34) rfl) ?_
  show own_Wp p e u _ s₁ (mkF m 35 #[iv p0, iv p1, iv p2, iv p3, iv p4, iv 0, iv c1, iv c2, iv c3, .unset, .unset, .unset, .unset] [.int ((p4 &&& (65535 : Int32)).toUInt32.toUInt16.toUInt32.toInt32)])
  obtain ⟨c4, hc4⟩ : ∃ z, z = ((p4 &&& (65535 : Int32)).toUInt32.toUInt16.toUInt32.toInt32) := ⟨_, rfl⟩
  rw [← hc4]
  refine sO X0 hx y at_35 #[iv p0, iv p1, iv p2, iv p3, iv p4, iv 0, iv c1, iv c2, iv c3, iv c4, .unset, .unset, .unset] rfl ?_
  refine sJ X0 hx y at_37 rfl ?_
  refine sS X0 hx y at_39 (by decide) 104 (by decide) ?_
  refine sC X0 hx y at_104 ?_
  refine sO X0 hx y at_105 #[iv p0, iv p1, iv p2, iv p3, iv p4, iv 0, iv c1, iv c2, iv c3, iv c4, iv 0, .unset, .unset] rfl ?_
  refine sJ X0 hx y at_107 rfl ?_
  refine sT X0 hx y at_109 (by decide) ?_
  refine sC X0 hx y at_112 ?_
  exact own_retNH X0 hS0 (by rw [e0]; exact (Nat.zero_le _)) hZ (own_EW hw) (by rw [e0]; exact (CHr.refl H0)) hx (t := .boolean) hr (by simp) hl (hb y at_113) (by decide) (by decide) ⟨rfl, (Fr.nil n0)⟩
 ·
  rw [hm]
  refine sO X0 hx y at_6 #[iv p0, iv p1, iv p2, iv p3, iv p4, iv 1, .unset, .unset, .unset, .unset, .unset, .unset, .unset] rfl ?_
  refine sI X0 hx y at_8 rfl ?_
  refine own_step (X0.ldcInt hx ho (mvT hZ (oW hw 1 rfl)) (g := (mkF m 9 #[iv p0, iv p1, iv p2, iv p3, iv p4, iv 1, .unset, .unset, .unset, .unset, .unset, .unset, .unset] [.int p1])) rfl (hb y at_9)) ?_
  refine oS (XS.iand X0.here hx rfl (hb y at_11) rfl) ?_
  refine oS (XS.i2c X0.here hx rfl (hb y at_12) rfl) ?_
  show own_Wp p e u _ s₁ (mkF m 13 #[iv p0, iv p1, iv p2, iv p3, iv p4, iv 1, .unset, .unset, .unset, .unset, .unset, .unset, .unset] [.int ((p1 &&& (65535 : Int32)).toUInt32.toUInt16.toUInt32.toInt32)])
  obtain ⟨c5, hc5⟩ : ∃ z, z = ((p1 &&& (65535 : Int32)).toUInt32.toUInt16.toUInt32.toInt32) := ⟨_, rfl⟩
  rw [← hc5]
  have ha5 : ¬ (c5 < (0 : Int32)) := by rw [hc5]; exact (own_c16 _).1
  have hb5 : ¬ ((65535 : Int32) < c5) := by rw [hc5]; exact (own_c16 _).2.1
  have hn5 : nar .char c5 = c5 := by rw [hc5]; exact (own_c16 _).2.2
  refine sO X0 hx y at_13 #[iv p0, iv p1, iv p2, iv p3, iv p4, iv 1, iv c5, .unset, .unset, .unset, .unset, .unset, .unset] rfl ?_
  refine sI X0 hx y at_15 rfl ?_
  refine own_step (X0.ldcInt hx ho (mvT hZ (oW hw 1 rfl)) (g := (mkF m 16 #[iv p0, iv p1, iv p2, iv p3, iv p4, iv 1, iv c5, .unset, .unset, .unset, .unset, .unset, .unset] [.int p2])) rfl (hb y at_16)) ?_
  refine oS (XS.iand X0.here hx rfl (hb y at_18) rfl) ?_
  refine oS (XS.i2c X0.here hx rfl (hb y at_19) rfl) ?_
  show own_Wp p e u _ s₁ (mkF m 20 #[iv p0, iv p1, iv p2, iv p3, iv p4, iv 1, iv c5, .unset, .unset, .unset, .unset, .unset, .unset] [.int ((p2 &&& (65535 : Int32)).toUInt32.toUInt16.toUInt32.toInt32)])
  obtain ⟨c6, hc6⟩ : ∃ z, z = ((p2 &&& (65535 : Int32)).toUInt32.toUInt16.toUInt32.toInt32) := ⟨_, rfl⟩
  rw [← hc6]
  refine sO X0 hx y at_20 #[iv p0, iv p1, iv p2, iv p3, iv p4, iv 1, iv c5, iv c6, .unset, .unset, .unset, .unset, .unset] rfl ?_
  refine sI X0 hx y at_22 rfl ?_
  refine own_step (X0.ldcInt hx ho (mvT hZ (oW hw 1 rfl)) (g := (mkF m 23 #[iv p0, iv p1, iv p2, iv p3, iv p4, iv 1, iv c5, iv c6, .unset, .unset, .unset, .unset, .unset] [.int p3])) rfl (hb y at_23)) ?_
  refine oS (XS.iand X0.here hx rfl (hb y at_25) rfl) ?_
  refine oS (XS.i2c X0.here hx rfl (hb y at_26) rfl) ?_
  show own_Wp p e u _ s₁ (mkF m 27 #[iv p0, iv p1, iv p2, iv p3, iv p4, iv 1, iv c5, iv c6, .unset, .unset, .unset, .unset, .unset] [.int ((p3 &&& (65535 : Int32)).toUInt32.toUInt16.toUInt32.toInt32)])
  obtain ⟨c7, hc7⟩ : ∃ z, z = ((p3 &&& (65535 : Int32)).toUInt32.toUInt16.toUInt32.toInt32) := ⟨_, rfl⟩
  rw [← hc7]
  refine sO X0 hx y at_27 #[iv p0, iv p1, iv p2, iv p3, iv p4, iv 1, iv c5, iv c6, iv c7, .unset, .unset, .unset, .unset] rfl ?_
  refine sJ X0 hx y at_29 rfl ?_
  refine own_step (X0.ldcInt hx ho (mvT hZ (oW hw 1 rfl)) (g := (mkF m 31 #[iv p0, iv p1, iv p2, iv p3, iv p4, iv 1, iv c5, iv c6, iv c7, .unset, .unset, .unset, .unset] [.int p4])) rfl (hb y at_31)) ?_
  refine oS (XS.iand X0.here hx rfl (hb y at_33) rfl) ?_
  refine oS (XS.i2c X0.here hx rfl (hb y at_34) rfl) ?_
  show own_Wp p e u _ s₁ (mkF m 35 #[iv p0, iv p1, iv p2, iv p3, iv p4, iv 1, iv c5, iv c6, iv c7, .unset, .unset, .unset, .unset] [.int ((p4 &&& (65535 : Int32)).toUInt32.toUInt16.toUInt32.toInt32)])
  obtain ⟨c8, hc8⟩ : ∃ z, z = ((p4 &&& (65535 : Int32)).toUInt32.toUInt16.toUInt32.toInt32) := ⟨_, rfl⟩
  rw [← hc8]
  refine sO X0 hx y at_35 #[iv p0, iv p1, iv p2, iv p3, iv p4, iv 1, iv c5, iv c6, iv c7, iv c8, .unset, .unset, .unset] rfl ?_
  refine sJ X0 hx y at_37 rfl ?_
  refine sT X0 hx y at_39 (by decide) ?_
  refine sJ X0 hx y at_42 rfl ?_
  refine oCS X0 hx hZ ho (oW hw 2 rfl) (bu3 hw) (rm1_0 hw hS O0 c5) 0 (by decide) [.int c5] rfl (lenOf pd4 rfl) hml rfl rfl rfl y at_44 e0 ?_
  rintro _ T9 _ X9 (⟨rfl, N9aq, e9a⟩ | ⟨hq9b_0, hq9b_1, rfl, N9bq, e9b⟩)
  ·
   have N9a := Fr.app (Fr.nil n0) N9aq
   refine sS X9 hx y at_47 (by decide) 104 (by decide) ?_
   refine sC X9 hx y at_104 ?_
   refine sO X9 hx y at_105 #[iv p0, iv p1, iv p2, iv p3, iv p4, iv 1, iv c5, iv c6, iv c7, iv c8, iv 0, .unset, .unset] rfl ?_
   refine sJ X9 hx y at_107 rfl ?_
   refine sT X9 hx y at_109 (by decide) ?_
   refine sC X9 hx y at_112 ?_
   exact own_retNH X9 hS0 (by rw [e9a]; exact (Nat.zero_le _)) hZ (own_EW hw) (by rw [e9a]; exact (CHr.refl H0)) hx (t := .boolean) hr (by simp) hl (hb y at_113) (by decide) (by decide) ⟨rfl, N9a⟩
  ·
   have N9b := Fr.app (Fr.nil n0) N9bq
   refine sT X9 hx y at_47 (by decide) ?_
   refine sJ X9 hx y at_50 rfl ?_
   refine sC X9 hx y at_52 ?_
   refine sU X9 hx y at_53 (by decide) 64 (by decide) ?_
   refine sJ X9 hx y at_64 rfl ?_
   refine sC X9 hx y at_66 ?_
   refine sU X9 hx y at_67 (by decide) 78 (by decide) ?_
   refine sJ X9 hx y at_78 rfl ?_
   refine sC X9 hx y at_80 ?_
   refine sU X9 hx y at_81 (by decide) 92 (by decide) ?_
   refine sJ X9 hx y at_92 rfl ?_
   refine oCS X9 hx hZ ho (oW hw 6 rfl) (bu7 hw) (rm2_1 hw hS O0 c5) 0 (by decide) [.int c5] rfl (lenOf pd4 rfl) hml rfl rfl rfl y at_94 e9b ?_
   rintro _ T10 _ X10 (⟨rfl, N10aq, e10a⟩ | ⟨hq10b_0, hq10b_1, hq10b_2, hq10b_3, rfl, N10bq, e10b⟩)
   ·
    have N10a := Fr.app N9b N10aq
    refine sS X10 hx y at_97 (by decide) 104 (by decide) ?_
    refine sC X10 hx y at_104 ?_
    refine sO X10 hx y at_105 #[iv p0, iv p1, iv p2, iv p3, iv p4, iv 1, iv c5, iv c6, iv c7, iv c8, iv 0, .unset, .unset] rfl ?_
    refine sJ X10 hx y at_107 rfl ?_
    refine sT X10 hx y at_109 (by decide) ?_
    refine sC X10 hx y at_112 ?_
    exact own_retNH X10 hS0 (by rw [e10a]; exact (Nat.zero_le _)) hZ (own_EW hw) (by rw [e10a]; exact (CHr.refl H0)) hx (t := .boolean) hr (by simp) hl (hb y at_113) (by decide) (by decide) ⟨rfl, N10a⟩
   ·
    have N10b := Fr.app N9b N10bq
    refine sT X10 hx y at_97 (by decide) ?_
    refine sC X10 hx y at_100 ?_
    refine sR X10 hx y at_101 105 (by decide) ?_
    refine sO X10 hx y at_105 #[iv p0, iv p1, iv p2, iv p3, iv p4, iv 1, iv c5, iv c6, iv c7, iv c8, iv 1, .unset, .unset] rfl ?_
    refine sJ X10 hx y at_107 rfl ?_
    refine sS X10 hx y at_109 (by decide) 114 (by decide) ?_
    refine sJ X10 hx y at_114 rfl ?_
    refine sJ X10 hx y at_116 rfl ?_
    refine sJ X10 hx y at_118 rfl ?_
    refine sJ X10 hx y at_120 rfl ?_
    refine sJ X10 hx y at_122 rfl ?_
    refine oCS X10 hx hZ ho (oW hw 9 rfl) (bu53 hw) (rm3_13 hw hS O0 c5 c6 c7 c8 hn5 ha5 hb5) 0 (by decide) [.int 1, .int c5, .int c6, .int c7, .int c8] rfl (lenOf pd54 rfl) hml rfl rfl rfl y at_124 e10b ?_
    rintro _ T11 _ X11 (⟨b12, b13, k14, hq11a_0, rfl, N11aq, K11aq, y11a_0, y11a_1, m11a_0, F11a_0, F11a_1, F11a_2, F11a_3⟩ | ⟨b15, b16, k17, hq11b_0, rfl, N11bq, K11bq, y11b_0, y11b_1, m11b_0, F11b_0, F11b_1, F11b_2, F11b_3⟩)
    ·
     have N11a := Fr.app N10b N11aq
     have R11a := CHr.trans (CHr.refl H0) (CHr.keep K11aq sf0 (CHr.refl H0).1)
     have O11a := O0.keep K11aq all0
     refine sQ X11 hx y at_127 rfl #[iv p0, iv p1, iv p2, iv p3, iv p4, iv 1, iv c5, iv c6, iv c7, iv c8, iv 1, rv b12, .unset] rfl ?_
     refine sB X11 hx y at_129 rfl rfl ?_
     obtain ⟨b18, T18, h18, k18, X18, e18, E18, hS18, hk18, hZ18, hown18, hC18, -, st18⟩ := ldcOH X11 hx hZ ho (oW hw 42 rfl) (fun d hd => hw d (own_satoms d hd)) rfl hS0 (Nat.zero_le _) (own_EW hw) R11a.1 (g := (mkF m 131 #[iv p0, iv p1, iv p2, iv p3, iv p4, iv 1, iv c5, iv c6, iv c7, iv c8, iv 1, rv b12, .unset] [.ref b12])) rfl (hb y at_131) (n := 4) (by decide) (by decide) (by decide) (by decide)
     refine own_step st18 ?_
     have O18 := O11a.ext E18
     have R18 := CHr.trans R11a hC18
     have f19 := (F11a_0.ext E18)
     have f20 := (F11a_1.ext E18)
     have f21 := (F11a_2.ext E18)
     have f22 := (F11a_3.ext E18)
     obtain ⟨_, T23, L23, X23, hS23, hZ23, hown23, hC23, hQ23, st23⟩ := own_callSH X18 hx hZ18 hS18 hk18 (own_EW hw) R18.1 hown18 (oW hw 45 rfl) (oW hw 46 rfl) (oW hw 47 rfl) (oW hw 48 rfl) (by decide) (rm10_32 hw hS O18 b12 b18 b13 c5 k14 f19 f20 f21 f22 hn5 ha5 hb5 hq9b_0 hq9b_1 hq11a_0) (W := 0) (by decide) (by decide) [(.ref b12), (.ref b18)] rfl (lenOf pd113 rfl) (Ls := #[iv p0, iv p1, iv p2, iv p3, iv p4, iv 1, iv c5, iv c6, iv c7, iv c8, iv 1, rv b12, .unset]) (by rw [hml]; rfl) (rest := []) (Nat.le_of_eq rfl) (hb y at_133) e18 (by decide) (by decide)
     refine st23 _ ?_
     obtain ⟨rfl, N23q, K23q⟩ := hQ23
     have N23 := Fr.app N11a N23q
     have R23 := CHr.trans R18 hC23
     have O23 := O18.keep K23q all0
     refine sQ X23 hx y at_136 rfl #[iv p0, iv p1, iv p2, iv p3, iv p4, iv 1, iv c5, iv c6, iv c7, iv c8, iv 1, rv b12, rv b12] rfl ?_
     refine sB X23 hx y at_138 rfl rfl ?_
     refine oS (XS.ifnullNo X23.here hx rfl (hb y at_140) rfl) ?_
     refine sB X23 hx y at_143 rfl rfl ?_
     have f24 := (f19.keep K23q)
     have f25 := (f20.keep K23q nin0)
     have f26 := (f21.keep K23q nin0)
     have f27 := (f22.keep K23q nin0)
     refine oCV X23 hx hZ23 hown23 (oW hw 114 rfl) (bu66 hw) f24 (rm12_16 hw hS O23 b12 b13 c5 k14 f24 f25 f26 f27) 0 (by decide) [] rfl (lenOf pd67 rfl) hml rfl rfl rfl y at_145 rfl ?_
     rintro _ T28 _ X28 ⟨rfl, N28q, e28⟩
     have N28 := Fr.app N23 N28q
     refine sJ X28 hx y at_148 rfl ?_
     refine sV X28 hx y at_150 (by decide) ?_
     refine sB X28 hx y at_153 rfl rfl ?_
     refine sB X28 hx y at_155 rfl rfl ?_
     refine oCV X28 hx hZ23 hown23 (oW hw 115 rfl) (bu116 hw) f24 (rm26_33 hw hS O23 b12) 0 (by decide) [.ref b12] rfl (lenOf pd117 rfl) hml rfl rfl rfl y at_157 e28 ?_
     rintro _ T29 _ X29 ⟨rfl, N29q, e29⟩
     have N29 := Fr.app N28 N29q
     refine sT X29 hx y at_160 (by decide) ?_
     refine sC X29 hx y at_163 ?_
     refine sR X29 hx y at_164 168 (by decide) ?_
     exact own_retNH X29 hS23 (by rw [e29]; exact (Nat.le_refl _)) hZ23 (own_EW hw) (by rw [e29]; exact R23) hx (t := .boolean) hr (by simp) hl (hb y at_168) (by decide) (by decide) ⟨rfl, N29⟩
    ·
     have N11b := Fr.app N10b N11bq
     have R11b := CHr.trans (CHr.refl H0) (CHr.keep K11bq sf0 (CHr.refl H0).1)
     have O11b := O0.keep K11bq all0
     refine sQ X11 hx y at_127 rfl #[iv p0, iv p1, iv p2, iv p3, iv p4, iv 1, iv c5, iv c6, iv c7, iv c8, iv 1, rv b15, .unset] rfl ?_
     refine sB X11 hx y at_129 rfl rfl ?_
     obtain ⟨b30, T30, h30, k30, X30, e30, E30, hS30, hk30, hZ30, hown30, hC30, -, st30⟩ := ldcOH X11 hx hZ ho (oW hw 42 rfl) (fun d hd => hw d (own_satoms d hd)) rfl hS0 (Nat.zero_le _) (own_EW hw) R11b.1 (g := (mkF m 131 #[iv p0, iv p1, iv p2, iv p3, iv p4, iv 1, iv c5, iv c6, iv c7, iv c8, iv 1, rv b15, .unset] [.ref b15])) rfl (hb y at_131) (n := 4) (by decide) (by decide) (by decide) (by decide)
     refine own_step st30 ?_
     have O30 := O11b.ext E30
     have R30 := CHr.trans R11b hC30
     have f31 := (F11b_0.ext E30)
     have f32 := (F11b_1.ext E30)
     have f33 := (F11b_2.ext E30)
     have f34 := (F11b_3.ext E30)
     obtain ⟨_, T35, L35, X35, hS35, hZ35, hown35, hC35, hQ35, st35⟩ := own_callSH X30 hx hZ30 hS30 hk30 (own_EW hw) R30.1 hown30 (oW hw 45 rfl) (oW hw 46 rfl) (oW hw 47 rfl) (oW hw 48 rfl) (by decide) (rm10_45 hw hS O30 b15 b30 b16 c5 k17 f31 f32 f33 f34 hn5 ha5 hq9b_0 hq9b_1 hq10b_0 hq10b_1 hq10b_2 hq10b_3 hq11b_0) (W := 0) (by decide) (by decide) [(.ref b15), (.ref b30)] rfl (lenOf pd113 rfl) (Ls := #[iv p0, iv p1, iv p2, iv p3, iv p4, iv 1, iv c5, iv c6, iv c7, iv c8, iv 1, rv b15, .unset]) (by rw [hml]; rfl) (rest := []) (Nat.le_of_eq rfl) (hb y at_133) e30 (by decide) (by decide)
     refine st35 _ ?_
     obtain ⟨rfl, N35q, K35q⟩ := hQ35
     have N35 := Fr.app N11b N35q
     have R35 := CHr.trans R30 hC35
     have O35 := O30.keep K35q all0
     refine sQ X35 hx y at_136 rfl #[iv p0, iv p1, iv p2, iv p3, iv p4, iv 1, iv c5, iv c6, iv c7, iv c8, iv 1, rv b15, rv b15] rfl ?_
     refine sB X35 hx y at_138 rfl rfl ?_
     refine oS (XS.ifnullNo X35.here hx rfl (hb y at_140) rfl) ?_
     refine sB X35 hx y at_143 rfl rfl ?_
     have f36 := (f31.keep K35q)
     have f37 := (f32.keep K35q nin0)
     have f38 := (f33.keep K35q nin0)
     have f39 := (f34.keep K35q nin0)
     refine oCV X35 hx hZ35 hown35 (oW hw 114 rfl) (bu66 hw) f36 (rm12_35 hw hS O35 b15 b16 c5 k17 f36 f37 f38 f39) 0 (by decide) [] rfl (lenOf pd67 rfl) hml rfl rfl rfl y at_145 rfl ?_
     rintro _ T40 _ X40 ⟨rfl, N40q, e40⟩
     have N40 := Fr.app N35 N40q
     refine sJ X40 hx y at_148 rfl ?_
     refine sV X40 hx y at_150 (by decide) ?_
     refine sB X40 hx y at_153 rfl rfl ?_
     refine sB X40 hx y at_155 rfl rfl ?_
     refine oCV X40 hx hZ35 hown35 (oW hw 115 rfl) (bu116 hw) f36 (rm26_33 hw hS O35 b15) 0 (by decide) [.ref b15] rfl (lenOf pd117 rfl) hml rfl rfl rfl y at_157 e40 ?_
     rintro _ T41 _ X41 ⟨rfl, N41q, e41⟩
     have N41 := Fr.app N40 N41q
     refine sT X41 hx y at_160 (by decide) ?_
     refine sC X41 hx y at_163 ?_
     refine sR X41 hx y at_164 168 (by decide) ?_
     exact own_retNH X41 hS35 (by rw [e41]; exact (Nat.le_refl _)) hZ35 (own_EW hw) (by rw [e41]; exact R35) hx (t := .boolean) hr (by simp) hl (hb y at_168) (by decide) (by decide) ⟨rfl, N41⟩
 ·
  rw [hm]
  refine sO X0 hx y at_6 #[iv p0, iv p1, iv p2, iv p3, iv p4, iv 2, .unset, .unset, .unset, .unset, .unset, .unset, .unset] rfl ?_
  refine sI X0 hx y at_8 rfl ?_
  refine own_step (X0.ldcInt hx ho (mvT hZ (oW hw 1 rfl)) (g := (mkF m 9 #[iv p0, iv p1, iv p2, iv p3, iv p4, iv 2, .unset, .unset, .unset, .unset, .unset, .unset, .unset] [.int p1])) rfl (hb y at_9)) ?_
  refine oS (XS.iand X0.here hx rfl (hb y at_11) rfl) ?_
  refine oS (XS.i2c X0.here hx rfl (hb y at_12) rfl) ?_
  show own_Wp p e u _ s₁ (mkF m 13 #[iv p0, iv p1, iv p2, iv p3, iv p4, iv 2, .unset, .unset, .unset, .unset, .unset, .unset, .unset] [.int ((p1 &&& (65535 : Int32)).toUInt32.toUInt16.toUInt32.toInt32)])
  obtain ⟨c42, hc42⟩ : ∃ z, z = ((p1 &&& (65535 : Int32)).toUInt32.toUInt16.toUInt32.toInt32) := ⟨_, rfl⟩
  rw [← hc42]
  have ha42 : ¬ (c42 < (0 : Int32)) := by rw [hc42]; exact (own_c16 _).1
  have hb42 : ¬ ((65535 : Int32) < c42) := by rw [hc42]; exact (own_c16 _).2.1
  have hn42 : nar .char c42 = c42 := by rw [hc42]; exact (own_c16 _).2.2
  refine sO X0 hx y at_13 #[iv p0, iv p1, iv p2, iv p3, iv p4, iv 2, iv c42, .unset, .unset, .unset, .unset, .unset, .unset] rfl ?_
  refine sI X0 hx y at_15 rfl ?_
  refine own_step (X0.ldcInt hx ho (mvT hZ (oW hw 1 rfl)) (g := (mkF m 16 #[iv p0, iv p1, iv p2, iv p3, iv p4, iv 2, iv c42, .unset, .unset, .unset, .unset, .unset, .unset] [.int p2])) rfl (hb y at_16)) ?_
  refine oS (XS.iand X0.here hx rfl (hb y at_18) rfl) ?_
  refine oS (XS.i2c X0.here hx rfl (hb y at_19) rfl) ?_
  show own_Wp p e u _ s₁ (mkF m 20 #[iv p0, iv p1, iv p2, iv p3, iv p4, iv 2, iv c42, .unset, .unset, .unset, .unset, .unset, .unset] [.int ((p2 &&& (65535 : Int32)).toUInt32.toUInt16.toUInt32.toInt32)])
  obtain ⟨c43, hc43⟩ : ∃ z, z = ((p2 &&& (65535 : Int32)).toUInt32.toUInt16.toUInt32.toInt32) := ⟨_, rfl⟩
  rw [← hc43]
  have ha43 : ¬ (c43 < (0 : Int32)) := by rw [hc43]; exact (own_c16 _).1
  have hb43 : ¬ ((65535 : Int32) < c43) := by rw [hc43]; exact (own_c16 _).2.1
  have hn43 : nar .char c43 = c43 := by rw [hc43]; exact (own_c16 _).2.2
  refine sO X0 hx y at_20 #[iv p0, iv p1, iv p2, iv p3, iv p4, iv 2, iv c42, iv c43, .unset, .unset, .unset, .unset, .unset] rfl ?_
  refine sI X0 hx y at_22 rfl ?_
  refine own_step (X0.ldcInt hx ho (mvT hZ (oW hw 1 rfl)) (g := (mkF m 23 #[iv p0, iv p1, iv p2, iv p3, iv p4, iv 2, iv c42, iv c43, .unset, .unset, .unset, .unset, .unset] [.int p3])) rfl (hb y at_23)) ?_
  refine oS (XS.iand X0.here hx rfl (hb y at_25) rfl) ?_
  refine oS (XS.i2c X0.here hx rfl (hb y at_26) rfl) ?_
  show own_Wp p e u _ s₁ (mkF m 27 #[iv p0, iv p1, iv p2, iv p3, iv p4, iv 2, iv c42, iv c43, .unset, .unset, .unset, .unset, .unset] [.int ((p3 &&& (65535 : Int32)).toUInt32.toUInt16.toUInt32.toInt32)])
  obtain ⟨c44, hc44⟩ : ∃ z, z = ((p3 &&& (65535 : Int32)).toUInt32.toUInt16.toUInt32.toInt32) := ⟨_, rfl⟩
  rw [← hc44]
  refine sO X0 hx y at_27 #[iv p0, iv p1, iv p2, iv p3, iv p4, iv 2, iv c42, iv c43, iv c44, .unset, .unset, .unset, .unset] rfl ?_
  refine sJ X0 hx y at_29 rfl ?_
  refine own_step (X0.ldcInt hx ho (mvT hZ (oW hw 1 rfl)) (g := (mkF m 31 #[iv p0, iv p1, iv p2, iv p3, iv p4, iv 2, iv c42, iv c43, iv c44, .unset, .unset, .unset, .unset] [.int p4])) rfl (hb y at_31)) ?_
  refine oS (XS.iand X0.here hx rfl (hb y at_33) rfl) ?_
  refine oS (XS.i2c X0.here hx rfl (hb y at_34) rfl) ?_
  show own_Wp p e u _ s₁ (mkF m 35 #[iv p0, iv p1, iv p2, iv p3, iv p4, iv 2, iv c42, iv c43, iv c44, .unset, .unset, .unset, .unset] [.int ((p4 &&& (65535 : Int32)).toUInt32.toUInt16.toUInt32.toInt32)])
  obtain ⟨c45, hc45⟩ : ∃ z, z = ((p4 &&& (65535 : Int32)).toUInt32.toUInt16.toUInt32.toInt32) := ⟨_, rfl⟩
  rw [← hc45]
  refine sO X0 hx y at_35 #[iv p0, iv p1, iv p2, iv p3, iv p4, iv 2, iv c42, iv c43, iv c44, iv c45, .unset, .unset, .unset] rfl ?_
  refine sJ X0 hx y at_37 rfl ?_
  refine sT X0 hx y at_39 (by decide) ?_
  refine sJ X0 hx y at_42 rfl ?_
  refine oCS X0 hx hZ ho (oW hw 2 rfl) (bu3 hw) (rm1_0 hw hS O0 c42) 0 (by decide) [.int c42] rfl (lenOf pd4 rfl) hml rfl rfl rfl y at_44 e0 ?_
  rintro _ T46 _ X46 (⟨rfl, N46aq, e46a⟩ | ⟨hq46b_0, hq46b_1, rfl, N46bq, e46b⟩)
  ·
   have N46a := Fr.app (Fr.nil n0) N46aq
   refine sS X46 hx y at_47 (by decide) 104 (by decide) ?_
   refine sC X46 hx y at_104 ?_
   refine sO X46 hx y at_105 #[iv p0, iv p1, iv p2, iv p3, iv p4, iv 2, iv c42, iv c43, iv c44, iv c45, iv 0, .unset, .unset] rfl ?_
   refine sJ X46 hx y at_107 rfl ?_
   refine sT X46 hx y at_109 (by decide) ?_
   refine sC X46 hx y at_112 ?_
   exact own_retNH X46 hS0 (by rw [e46a]; exact (Nat.zero_le _)) hZ (own_EW hw) (by rw [e46a]; exact (CHr.refl H0)) hx (t := .boolean) hr (by simp) hl (hb y at_113) (by decide) (by decide) ⟨rfl, N46a⟩
  ·
   have N46b := Fr.app (Fr.nil n0) N46bq
   refine sT X46 hx y at_47 (by decide) ?_
   refine sJ X46 hx y at_50 rfl ?_
   refine sC X46 hx y at_52 ?_
   refine sV X46 hx y at_53 (by decide) ?_
   refine sJ X46 hx y at_56 rfl ?_
   refine oCS X46 hx hZ ho (oW hw 2 rfl) (bu3 hw) (rm1_0 hw hS O0 c43) 0 (by decide) [.int c43] rfl (lenOf pd4 rfl) hml rfl rfl rfl y at_58 e46b ?_
   rintro _ T47 _ X47 (⟨rfl, N47aq, e47a⟩ | ⟨hq47b_0, hq47b_1, rfl, N47bq, e47b⟩)
   ·
    have N47a := Fr.app N46b N47aq
    refine sS X47 hx y at_61 (by decide) 104 (by decide) ?_
    refine sC X47 hx y at_104 ?_
    refine sO X47 hx y at_105 #[iv p0, iv p1, iv p2, iv p3, iv p4, iv 2, iv c42, iv c43, iv c44, iv c45, iv 0, .unset, .unset] rfl ?_
    refine sJ X47 hx y at_107 rfl ?_
    refine sT X47 hx y at_109 (by decide) ?_
    refine sC X47 hx y at_112 ?_
    exact own_retNH X47 hS0 (by rw [e47a]; exact (Nat.zero_le _)) hZ (own_EW hw) (by rw [e47a]; exact (CHr.refl H0)) hx (t := .boolean) hr (by simp) hl (hb y at_113) (by decide) (by decide) ⟨rfl, N47a⟩
   ·
    have N47b := Fr.app N46b N47bq
    refine sT X47 hx y at_61 (by decide) ?_
    refine sJ X47 hx y at_64 rfl ?_
    refine sC X47 hx y at_66 ?_
    refine sU X47 hx y at_67 (by decide) 78 (by decide) ?_
    refine sJ X47 hx y at_78 rfl ?_
    refine sC X47 hx y at_80 ?_
    refine sU X47 hx y at_81 (by decide) 92 (by decide) ?_
    refine sJ X47 hx y at_92 rfl ?_
    refine oCS X47 hx hZ ho (oW hw 6 rfl) (bu7 hw) (rm2_1 hw hS O0 c42) 0 (by decide) [.int c42] rfl (lenOf pd4 rfl) hml rfl rfl rfl y at_94 e47b ?_
    rintro _ T48 _ X48 (⟨rfl, N48aq, e48a⟩ | ⟨hq48b_0, hq48b_1, hq48b_2, hq48b_3, rfl, N48bq, e48b⟩)
    ·
     have N48a := Fr.app N47b N48aq
     refine sS X48 hx y at_97 (by decide) 104 (by decide) ?_
     refine sC X48 hx y at_104 ?_
     refine sO X48 hx y at_105 #[iv p0, iv p1, iv p2, iv p3, iv p4, iv 2, iv c42, iv c43, iv c44, iv c45, iv 0, .unset, .unset] rfl ?_
     refine sJ X48 hx y at_107 rfl ?_
     refine sT X48 hx y at_109 (by decide) ?_
     refine sC X48 hx y at_112 ?_
     exact own_retNH X48 hS0 (by rw [e48a]; exact (Nat.zero_le _)) hZ (own_EW hw) (by rw [e48a]; exact (CHr.refl H0)) hx (t := .boolean) hr (by simp) hl (hb y at_113) (by decide) (by decide) ⟨rfl, N48a⟩
    ·
     have N48b := Fr.app N47b N48bq
     refine sT X48 hx y at_97 (by decide) ?_
     refine sC X48 hx y at_100 ?_
     refine sR X48 hx y at_101 105 (by decide) ?_
     refine sO X48 hx y at_105 #[iv p0, iv p1, iv p2, iv p3, iv p4, iv 2, iv c42, iv c43, iv c44, iv c45, iv 1, .unset, .unset] rfl ?_
     refine sJ X48 hx y at_107 rfl ?_
     refine sS X48 hx y at_109 (by decide) 114 (by decide) ?_
     refine sJ X48 hx y at_114 rfl ?_
     refine sJ X48 hx y at_116 rfl ?_
     refine sJ X48 hx y at_118 rfl ?_
     refine sJ X48 hx y at_120 rfl ?_
     refine sJ X48 hx y at_122 rfl ?_
     refine oCS X48 hx hZ ho (oW hw 9 rfl) (bu53 hw) (rm3_59 hw hS O0 c42 c43 c44 c45 hn42 hn43 ha42 hb42 ha43 hb43) 0 (by decide) [.int 2, .int c42, .int c43, .int c44, .int c45] rfl (lenOf pd54 rfl) hml rfl rfl rfl y at_124 e48b ?_
     rintro _ T49 _ X49 (⟨b50, b51, k52, rfl, N49aq, K49aq, y49a_0, y49a_1, m49a_0, F49a_0, F49a_1, F49a_2, F49a_3⟩ | ⟨b53, b54, k55, hq49b_0, hq49b_1, rfl, N49bq, K49bq, y49b_0, y49b_1, m49b_0, F49b_0, F49b_1, F49b_2, F49b_3⟩)
     ·
      have N49a := Fr.app N48b N49aq
      have R49a := CHr.trans (CHr.refl H0) (CHr.keep K49aq sf0 (CHr.refl H0).1)
      have O49a := O0.keep K49aq all0
      refine sQ X49 hx y at_127 rfl #[iv p0, iv p1, iv p2, iv p3, iv p4, iv 2, iv c42, iv c43, iv c44, iv c45, iv 1, rv b50, .unset] rfl ?_
      refine sB X49 hx y at_129 rfl rfl ?_
      obtain ⟨b56, T56, h56, k56, X56, e56, E56, hS56, hk56, hZ56, hown56, hC56, -, st56⟩ := ldcOH X49 hx hZ ho (oW hw 42 rfl) (fun d hd => hw d (own_satoms d hd)) rfl hS0 (Nat.zero_le _) (own_EW hw) R49a.1 (g := (mkF m 131 #[iv p0, iv p1, iv p2, iv p3, iv p4, iv 2, iv c42, iv c43, iv c44, iv c45, iv 1, rv b50, .unset] [.ref b50])) rfl (hb y at_131) (n := 4) (by decide) (by decide) (by decide) (by decide)
      refine own_step st56 ?_
      have O56 := O49a.ext E56
      have R56 := CHr.trans R49a hC56
      have f57 := (F49a_0.ext E56)
      have f58 := (F49a_1.ext E56)
      have f59 := (F49a_2.ext E56)
      have f60 := (F49a_3.ext E56)
      obtain ⟨_, T61, L61, X61, hS61, hZ61, hown61, hC61, hQ61, st61⟩ := own_callSH X56 hx hZ56 hS56 hk56 (own_EW hw) R56.1 hown56 (oW hw 45 rfl) (oW hw 46 rfl) (oW hw 47 rfl) (oW hw 48 rfl) (by decide) (rm10_79 hw hS O56 b50 b56 b51 c42 c43 k52 f57 f58 f59 f60 hn42 hn43 ha42 hb42 ha43 hb43 hq46b_0 hq46b_1 hq47b_0 hq47b_1 hq48b_0 hq48b_1 hq48b_2 hq48b_3) (W := 0) (by decide) (by decide) [(.ref b50), (.ref b56)] rfl (lenOf pd113 rfl) (Ls := #[iv p0, iv p1, iv p2, iv p3, iv p4, iv 2, iv c42, iv c43, iv c44, iv c45, iv 1, rv b50, .unset]) (by rw [hml]; rfl) (rest := []) (Nat.le_of_eq rfl) (hb y at_133) e56 (by decide) (by decide)
      refine st61 _ ?_
      obtain ⟨rfl, N61q, K61q⟩ := hQ61
      have N61 := Fr.app N49a N61q
      have R61 := CHr.trans R56 hC61
      have O61 := O56.keep K61q all0
      refine sQ X61 hx y at_136 rfl #[iv p0, iv p1, iv p2, iv p3, iv p4, iv 2, iv c42, iv c43, iv c44, iv c45, iv 1, rv b50, rv b50] rfl ?_
      refine sB X61 hx y at_138 rfl rfl ?_
      refine oS (XS.ifnullNo X61.here hx rfl (hb y at_140) rfl) ?_
      refine sB X61 hx y at_143 rfl rfl ?_
      have f62 := (f57.keep K61q)
      have f63 := (f58.keep K61q nin0)
      have f64 := (f59.keep K61q nin0)
      have f65 := (f60.keep K61q nin0)
      refine oCV X61 hx hZ61 hown61 (oW hw 114 rfl) (bu66 hw) f62 (rm12_61 hw hS O61 b50 b51 c42 c43 k52 f62 f63 f64 f65) 0 (by decide) [] rfl (lenOf pd67 rfl) hml rfl rfl rfl y at_145 rfl ?_
      rintro _ T66 _ X66 ⟨rfl, N66q, e66⟩
      have N66 := Fr.app N61 N66q
      refine sJ X66 hx y at_148 rfl ?_
      refine sV X66 hx y at_150 (by decide) ?_
      refine sB X66 hx y at_153 rfl rfl ?_
      refine sB X66 hx y at_155 rfl rfl ?_
      refine oCV X66 hx hZ61 hown61 (oW hw 115 rfl) (bu116 hw) f62 (rm26_33 hw hS O61 b50) 0 (by decide) [.ref b50] rfl (lenOf pd117 rfl) hml rfl rfl rfl y at_157 e66 ?_
      rintro _ T67 _ X67 ⟨rfl, N67q, e67⟩
      have N67 := Fr.app N66 N67q
      refine sT X67 hx y at_160 (by decide) ?_
      refine sC X67 hx y at_163 ?_
      refine sR X67 hx y at_164 168 (by decide) ?_
      exact own_retNH X67 hS61 (by rw [e67]; exact (Nat.le_refl _)) hZ61 (own_EW hw) (by rw [e67]; exact R61) hx (t := .boolean) hr (by simp) hl (hb y at_168) (by decide) (by decide) ⟨rfl, N67⟩
     ·
      have N49b := Fr.app N48b N49bq
      have R49b := CHr.trans (CHr.refl H0) (CHr.keep K49bq sf0 (CHr.refl H0).1)
      have O49b := O0.keep K49bq all0
      refine sQ X49 hx y at_127 rfl #[iv p0, iv p1, iv p2, iv p3, iv p4, iv 2, iv c42, iv c43, iv c44, iv c45, iv 1, rv b53, .unset] rfl ?_
      refine sB X49 hx y at_129 rfl rfl ?_
      obtain ⟨b68, T68, h68, k68, X68, e68, E68, hS68, hk68, hZ68, hown68, hC68, -, st68⟩ := ldcOH X49 hx hZ ho (oW hw 42 rfl) (fun d hd => hw d (own_satoms d hd)) rfl hS0 (Nat.zero_le _) (own_EW hw) R49b.1 (g := (mkF m 131 #[iv p0, iv p1, iv p2, iv p3, iv p4, iv 2, iv c42, iv c43, iv c44, iv c45, iv 1, rv b53, .unset] [.ref b53])) rfl (hb y at_131) (n := 4) (by decide) (by decide) (by decide) (by decide)
      refine own_step st68 ?_
      have O68 := O49b.ext E68
      have R68 := CHr.trans R49b hC68
      have f69 := (F49b_0.ext E68)
      have f70 := (F49b_1.ext E68)
      have f71 := (F49b_2.ext E68)
      have f72 := (F49b_3.ext E68)
      obtain ⟨_, T73, L73, X73, hS73, hZ73, hown73, hC73, hQ73, st73⟩ := own_callSH X68 hx hZ68 hS68 hk68 (own_EW hw) R68.1 hown68 (oW hw 45 rfl) (oW hw 46 rfl) (oW hw 47 rfl) (oW hw 48 rfl) (by decide) (rm10_86 hw hS O68 b53 b68 b54 c42 c43 k55 f69 f70 f71 f72 hn42 hn43 ha42 ha43 hq46b_0 hq46b_1 hq47b_0 hq47b_1 hq48b_0 hq48b_1 hq48b_2 hq48b_3 hq49b_0 hq49b_1) (W := 0) (by decide) (by decide) [(.ref b53), (.ref b68)] rfl (lenOf pd113 rfl) (Ls := #[iv p0, iv p1, iv p2, iv p3, iv p4, iv 2, iv c42, iv c43, iv c44, iv c45, iv 1, rv b53, .unset]) (by rw [hml]; rfl) (rest := []) (Nat.le_of_eq rfl) (hb y at_133) e68 (by decide) (by decide)
      refine st73 _ ?_
      obtain ⟨rfl, N73q, K73q⟩ := hQ73
      have N73 := Fr.app N49b N73q
      have R73 := CHr.trans R68 hC73
      have O73 := O68.keep K73q all0
      refine sQ X73 hx y at_136 rfl #[iv p0, iv p1, iv p2, iv p3, iv p4, iv 2, iv c42, iv c43, iv c44, iv c45, iv 1, rv b53, rv b53] rfl ?_
      refine sB X73 hx y at_138 rfl rfl ?_
      refine oS (XS.ifnullNo X73.here hx rfl (hb y at_140) rfl) ?_
      refine sB X73 hx y at_143 rfl rfl ?_
      have f74 := (f69.keep K73q)
      have f75 := (f70.keep K73q nin0)
      have f76 := (f71.keep K73q nin0)
      have f77 := (f72.keep K73q nin0)
      refine oCV X73 hx hZ73 hown73 (oW hw 114 rfl) (bu66 hw) f74 (rm12_81 hw hS O73 b53 b54 c42 c43 k55 f74 f75 f76 f77) 0 (by decide) [] rfl (lenOf pd67 rfl) hml rfl rfl rfl y at_145 rfl ?_
      rintro _ T78 _ X78 ⟨rfl, N78q, e78⟩
      have N78 := Fr.app N73 N78q
      refine sJ X78 hx y at_148 rfl ?_
      refine sV X78 hx y at_150 (by decide) ?_
      refine sB X78 hx y at_153 rfl rfl ?_
      refine sB X78 hx y at_155 rfl rfl ?_
      refine oCV X78 hx hZ73 hown73 (oW hw 115 rfl) (bu116 hw) f74 (rm26_33 hw hS O73 b53) 0 (by decide) [.ref b53] rfl (lenOf pd117 rfl) hml rfl rfl rfl y at_157 e78 ?_
      rintro _ T79 _ X79 ⟨rfl, N79q, e79⟩
      have N79 := Fr.app N78 N79q
      refine sT X79 hx y at_160 (by decide) ?_
      refine sC X79 hx y at_163 ?_
      refine sR X79 hx y at_164 168 (by decide) ?_
      exact own_retNH X79 hS73 (by rw [e79]; exact (Nat.le_refl _)) hZ73 (own_EW hw) (by rw [e79]; exact R73) hx (t := .boolean) hr (by simp) hl (hb y at_168) (by decide) (by decide) ⟨rfl, N79⟩
 ·
  rw [hm]
  refine sO X0 hx y at_6 #[iv p0, iv p1, iv p2, iv p3, iv p4, iv 3, .unset, .unset, .unset, .unset, .unset, .unset, .unset] rfl ?_
  refine sI X0 hx y at_8 rfl ?_
  refine own_step (X0.ldcInt hx ho (mvT hZ (oW hw 1 rfl)) (g := (mkF m 9 #[iv p0, iv p1, iv p2, iv p3, iv p4, iv 3, .unset, .unset, .unset, .unset, .unset, .unset, .unset] [.int p1])) rfl (hb y at_9)) ?_
  refine oS (XS.iand X0.here hx rfl (hb y at_11) rfl) ?_
  refine oS (XS.i2c X0.here hx rfl (hb y at_12) rfl) ?_
  show own_Wp p e u _ s₁ (mkF m 13 #[iv p0, iv p1, iv p2, iv p3, iv p4, iv 3, .unset, .unset, .unset, .unset, .unset, .unset, .unset] [.int ((p1 &&& (65535 : Int32)).toUInt32.toUInt16.toUInt32.toInt32)])
  obtain ⟨c80, hc80⟩ : ∃ z, z = ((p1 &&& (65535 : Int32)).toUInt32.toUInt16.toUInt32.toInt32) := ⟨_, rfl⟩
  rw [← hc80]
  have ha80 : ¬ (c80 < (0 : Int32)) := by rw [hc80]; exact (own_c16 _).1
  have hb80 : ¬ ((65535 : Int32) < c80) := by rw [hc80]; exact (own_c16 _).2.1
  have hn80 : nar .char c80 = c80 := by rw [hc80]; exact (own_c16 _).2.2
  refine sO X0 hx y at_13 #[iv p0, iv p1, iv p2, iv p3, iv p4, iv 3, iv c80, .unset, .unset, .unset, .unset, .unset, .unset] rfl ?_
  refine sI X0 hx y at_15 rfl ?_
  refine own_step (X0.ldcInt hx ho (mvT hZ (oW hw 1 rfl)) (g := (mkF m 16 #[iv p0, iv p1, iv p2, iv p3, iv p4, iv 3, iv c80, .unset, .unset, .unset, .unset, .unset, .unset] [.int p2])) rfl (hb y at_16)) ?_
  refine oS (XS.iand X0.here hx rfl (hb y at_18) rfl) ?_
  refine oS (XS.i2c X0.here hx rfl (hb y at_19) rfl) ?_
  show own_Wp p e u _ s₁ (mkF m 20 #[iv p0, iv p1, iv p2, iv p3, iv p4, iv 3, iv c80, .unset, .unset, .unset, .unset, .unset, .unset] [.int ((p2 &&& (65535 : Int32)).toUInt32.toUInt16.toUInt32.toInt32)])
  obtain ⟨c81, hc81⟩ : ∃ z, z = ((p2 &&& (65535 : Int32)).toUInt32.toUInt16.toUInt32.toInt32) := ⟨_, rfl⟩
  rw [← hc81]
  have ha81 : ¬ (c81 < (0 : Int32)) := by rw [hc81]; exact (own_c16 _).1
  have hb81 : ¬ ((65535 : Int32) < c81) := by rw [hc81]; exact (own_c16 _).2.1
  have hn81 : nar .char c81 = c81 := by rw [hc81]; exact (own_c16 _).2.2
  refine sO X0 hx y at_20 #[iv p0, iv p1, iv p2, iv p3, iv p4, iv 3, iv c80, iv c81, .unset, .unset, .unset, .unset, .unset] rfl ?_
  refine sI X0 hx y at_22 rfl ?_
  refine own_step (X0.ldcInt hx ho (mvT hZ (oW hw 1 rfl)) (g := (mkF m 23 #[iv p0, iv p1, iv p2, iv p3, iv p4, iv 3, iv c80, iv c81, .unset, .unset, .unset, .unset, .unset] [.int p3])) rfl (hb y at_23)) ?_
  refine oS (XS.iand X0.here hx rfl (hb y at_25) rfl) ?_
  refine oS (XS.i2c X0.here hx rfl (hb y at_26) rfl) ?_
  show own_Wp p e u _ s₁ (mkF m 27 #[iv p0, iv p1, iv p2, iv p3, iv p4, iv 3, iv c80, iv c81, .unset, .unset, .unset, .unset, .unset] [.int ((p3 &&& (65535 : Int32)).toUInt32.toUInt16.toUInt32.toInt32)])
  obtain ⟨c82, hc82⟩ : ∃ z, z = ((p3 &&& (65535 : Int32)).toUInt32.toUInt16.toUInt32.toInt32) := ⟨_, rfl⟩
  rw [← hc82]
  have ha82 : ¬ (c82 < (0 : Int32)) := by rw [hc82]; exact (own_c16 _).1
  have hb82 : ¬ ((65535 : Int32) < c82) := by rw [hc82]; exact (own_c16 _).2.1
  have hn82 : nar .char c82 = c82 := by rw [hc82]; exact (own_c16 _).2.2
  refine sO X0 hx y at_27 #[iv p0, iv p1, iv p2, iv p3, iv p4, iv 3, iv c80, iv c81, iv c82, .unset, .unset, .unset, .unset] rfl ?_
  refine sJ X0 hx y at_29 rfl ?_
  refine own_step (X0.ldcInt hx ho (mvT hZ (oW hw 1 rfl)) (g := (mkF m 31 #[iv p0, iv p1, iv p2, iv p3, iv p4, iv 3, iv c80, iv c81, iv c82, .unset, .unset, .unset, .unset] [.int p4])) rfl (hb y at_31)) ?_
  refine oS (XS.iand X0.here hx rfl (hb y at_33) rfl) ?_
  refine oS (XS.i2c X0.here hx rfl (hb y at_34) rfl) ?_
  show own_Wp p e u _ s₁ (mkF m 35 #[iv p0, iv p1, iv p2, iv p3, iv p4, iv 3, iv c80, iv c81, iv c82, .unset, .unset, .unset, .unset] [.int ((p4 &&& (65535 : Int32)).toUInt32.toUInt16.toUInt32.toInt32)])
  obtain ⟨c83, hc83⟩ : ∃ z, z = ((p4 &&& (65535 : Int32)).toUInt32.toUInt16.toUInt32.toInt32) := ⟨_, rfl⟩
  rw [← hc83]
  refine sO X0 hx y at_35 #[iv p0, iv p1, iv p2, iv p3, iv p4, iv 3, iv c80, iv c81, iv c82, iv c83, .unset, .unset, .unset] rfl ?_
  refine sJ X0 hx y at_37 rfl ?_
  refine sT X0 hx y at_39 (by decide) ?_
  refine sJ X0 hx y at_42 rfl ?_
  refine oCS X0 hx hZ ho (oW hw 2 rfl) (bu3 hw) (rm1_0 hw hS O0 c80) 0 (by decide) [.int c80] rfl (lenOf pd4 rfl) hml rfl rfl rfl y at_44 e0 ?_
  rintro _ T84 _ X84 (⟨rfl, N84aq, e84a⟩ | ⟨hq84b_0, hq84b_1, rfl, N84bq, e84b⟩)
  ·
   have N84a := Fr.app (Fr.nil n0) N84aq
   refine sS X84 hx y at_47 (by decide) 104 (by decide) ?_
   refine sC X84 hx y at_104 ?_
   refine sO X84 hx y at_105 #[iv p0, iv p1, iv p2, iv p3, iv p4, iv 3, iv c80, iv c81, iv c82, iv c83, iv 0, .unset, .unset] rfl ?_
   refine sJ X84 hx y at_107 rfl ?_
   refine sT X84 hx y at_109 (by decide) ?_
   refine sC X84 hx y at_112 ?_
   exact own_retNH X84 hS0 (by rw [e84a]; exact (Nat.zero_le _)) hZ (own_EW hw) (by rw [e84a]; exact (CHr.refl H0)) hx (t := .boolean) hr (by simp) hl (hb y at_113) (by decide) (by decide) ⟨rfl, N84a⟩
  ·
   have N84b := Fr.app (Fr.nil n0) N84bq
   refine sT X84 hx y at_47 (by decide) ?_
   refine sJ X84 hx y at_50 rfl ?_
   refine sC X84 hx y at_52 ?_
   refine sV X84 hx y at_53 (by decide) ?_
   refine sJ X84 hx y at_56 rfl ?_
   refine oCS X84 hx hZ ho (oW hw 2 rfl) (bu3 hw) (rm1_0 hw hS O0 c81) 0 (by decide) [.int c81] rfl (lenOf pd4 rfl) hml rfl rfl rfl y at_58 e84b ?_
   rintro _ T85 _ X85 (⟨rfl, N85aq, e85a⟩ | ⟨hq85b_0, hq85b_1, rfl, N85bq, e85b⟩)
   ·
    have N85a := Fr.app N84b N85aq
    refine sS X85 hx y at_61 (by decide) 104 (by decide) ?_
    refine sC X85 hx y at_104 ?_
    refine sO X85 hx y at_105 #[iv p0, iv p1, iv p2, iv p3, iv p4, iv 3, iv c80, iv c81, iv c82, iv c83, iv 0, .unset, .unset] rfl ?_
    refine sJ X85 hx y at_107 rfl ?_
    refine sT X85 hx y at_109 (by decide) ?_
    refine sC X85 hx y at_112 ?_
    exact own_retNH X85 hS0 (by rw [e85a]; exact (Nat.zero_le _)) hZ (own_EW hw) (by rw [e85a]; exact (CHr.refl H0)) hx (t := .boolean) hr (by simp) hl (hb y at_113) (by decide) (by decide) ⟨rfl, N85a⟩
   ·
    have N85b := Fr.app N84b N85bq
    refine sT X85 hx y at_61 (by decide) ?_
    refine sJ X85 hx y at_64 rfl ?_
    refine sC X85 hx y at_66 ?_
    refine sV X85 hx y at_67 (by decide) ?_
    refine sJ X85 hx y at_70 rfl ?_
    refine oCS X85 hx hZ ho (oW hw 2 rfl) (bu3 hw) (rm1_0 hw hS O0 c82) 0 (by decide) [.int c82] rfl (lenOf pd4 rfl) hml rfl rfl rfl y at_72 e85b ?_
    rintro _ T86 _ X86 (⟨rfl, N86aq, e86a⟩ | ⟨hq86b_0, hq86b_1, rfl, N86bq, e86b⟩)
    ·
     have N86a := Fr.app N85b N86aq
     refine sS X86 hx y at_75 (by decide) 104 (by decide) ?_
     refine sC X86 hx y at_104 ?_
     refine sO X86 hx y at_105 #[iv p0, iv p1, iv p2, iv p3, iv p4, iv 3, iv c80, iv c81, iv c82, iv c83, iv 0, .unset, .unset] rfl ?_
     refine sJ X86 hx y at_107 rfl ?_
     refine sT X86 hx y at_109 (by decide) ?_
     refine sC X86 hx y at_112 ?_
     exact own_retNH X86 hS0 (by rw [e86a]; exact (Nat.zero_le _)) hZ (own_EW hw) (by rw [e86a]; exact (CHr.refl H0)) hx (t := .boolean) hr (by simp) hl (hb y at_113) (by decide) (by decide) ⟨rfl, N86a⟩
    ·
     have N86b := Fr.app N85b N86bq
     refine sT X86 hx y at_75 (by decide) ?_
     refine sJ X86 hx y at_78 rfl ?_
     refine sC X86 hx y at_80 ?_
     refine sU X86 hx y at_81 (by decide) 92 (by decide) ?_
     refine sJ X86 hx y at_92 rfl ?_
     refine oCS X86 hx hZ ho (oW hw 6 rfl) (bu7 hw) (rm2_1 hw hS O0 c80) 0 (by decide) [.int c80] rfl (lenOf pd4 rfl) hml rfl rfl rfl y at_94 e86b ?_
     rintro _ T87 _ X87 (⟨rfl, N87aq, e87a⟩ | ⟨hq87b_0, hq87b_1, hq87b_2, hq87b_3, rfl, N87bq, e87b⟩)
     ·
      have N87a := Fr.app N86b N87aq
      refine sS X87 hx y at_97 (by decide) 104 (by decide) ?_
      refine sC X87 hx y at_104 ?_
      refine sO X87 hx y at_105 #[iv p0, iv p1, iv p2, iv p3, iv p4, iv 3, iv c80, iv c81, iv c82, iv c83, iv 0, .unset, .unset] rfl ?_
      refine sJ X87 hx y at_107 rfl ?_
      refine sT X87 hx y at_109 (by decide) ?_
      refine sC X87 hx y at_112 ?_
      exact own_retNH X87 hS0 (by rw [e87a]; exact (Nat.zero_le _)) hZ (own_EW hw) (by rw [e87a]; exact (CHr.refl H0)) hx (t := .boolean) hr (by simp) hl (hb y at_113) (by decide) (by decide) ⟨rfl, N87a⟩
     ·
      have N87b := Fr.app N86b N87bq
      refine sT X87 hx y at_97 (by decide) ?_
      refine sC X87 hx y at_100 ?_
      refine sR X87 hx y at_101 105 (by decide) ?_
      refine sO X87 hx y at_105 #[iv p0, iv p1, iv p2, iv p3, iv p4, iv 3, iv c80, iv c81, iv c82, iv c83, iv 1, .unset, .unset] rfl ?_
      refine sJ X87 hx y at_107 rfl ?_
      refine sS X87 hx y at_109 (by decide) 114 (by decide) ?_
      refine sJ X87 hx y at_114 rfl ?_
      refine sJ X87 hx y at_116 rfl ?_
      refine sJ X87 hx y at_118 rfl ?_
      refine sJ X87 hx y at_120 rfl ?_
      refine sJ X87 hx y at_122 rfl ?_
      refine oCS X87 hx hZ ho (oW hw 9 rfl) (bu53 hw) (rm3_102 hw hS O0 c80 c81 c82 c83 hn80 hn81 hn82 ha80 hb80 ha81 hb81 ha82 hb82) 0 (by decide) [.int 3, .int c80, .int c81, .int c82, .int c83] rfl (lenOf pd54 rfl) hml rfl rfl rfl y at_124 e87b ?_
      rintro _ T88 _ X88 (⟨b89, b90, k91, rfl, N88aq, K88aq, y88a_0, y88a_1, m88a_0, F88a_0, F88a_1, F88a_2, F88a_3⟩ | ⟨b92, b93, k94, hq88b_0, hq88b_1, hq88b_2, rfl, N88bq, K88bq, y88b_0, y88b_1, m88b_0, F88b_0, F88b_1, F88b_2, F88b_3⟩)
      ·
       have N88a := Fr.app N87b N88aq
       have R88a := CHr.trans (CHr.refl H0) (CHr.keep K88aq sf0 (CHr.refl H0).1)
       have O88a := O0.keep K88aq all0
       refine sQ X88 hx y at_127 rfl #[iv p0, iv p1, iv p2, iv p3, iv p4, iv 3, iv c80, iv c81, iv c82, iv c83, iv 1, rv b89, .unset] rfl ?_
       refine sB X88 hx y at_129 rfl rfl ?_
       obtain ⟨b95, T95, h95, k95, X95, e95, E95, hS95, hk95, hZ95, hown95, hC95, -, st95⟩ := ldcOH X88 hx hZ ho (oW hw 42 rfl) (fun d hd => hw d (own_satoms d hd)) rfl hS0 (Nat.zero_le _) (own_EW hw) R88a.1 (g := (mkF m 131 #[iv p0, iv p1, iv p2, iv p3, iv p4, iv 3, iv c80, iv c81, iv c82, iv c83, iv 1, rv b89, .unset] [.ref b89])) rfl (hb y at_131) (n := 4) (by decide) (by decide) (by decide) (by decide)
       refine own_step st95 ?_
       have O95 := O88a.ext E95
       have R95 := CHr.trans R88a hC95
       have f96 := (F88a_0.ext E95)
       have f97 := (F88a_1.ext E95)
       have f98 := (F88a_2.ext E95)
       have f99 := (F88a_3.ext E95)
       obtain ⟨_, T100, L100, X100, hS100, hZ100, hown100, hC100, hQ100, st100⟩ := own_callSH X95 hx hZ95 hS95 hk95 (own_EW hw) R95.1 hown95 (oW hw 45 rfl) (oW hw 46 rfl) (oW hw 47 rfl) (oW hw 48 rfl) (by decide) (rm10_124 hw hS O95 b89 b95 b90 c80 c81 c82 k91 f96 f97 f98 f99 hn80 hn81 hn82 ha80 hb80 ha81 hb81 ha82 hb82 hq84b_0 hq84b_1 hq85b_0 hq85b_1 hq86b_0 hq86b_1 hq87b_0 hq87b_1 hq87b_2 hq87b_3) (W := 0) (by decide) (by decide) [(.ref b89), (.ref b95)] rfl (lenOf pd113 rfl) (Ls := #[iv p0, iv p1, iv p2, iv p3, iv p4, iv 3, iv c80, iv c81, iv c82, iv c83, iv 1, rv b89, .unset]) (by rw [hml]; rfl) (rest := []) (Nat.le_of_eq rfl) (hb y at_133) e95 (by decide) (by decide)
       refine st100 _ ?_
       obtain ⟨rfl, N100q, K100q⟩ := hQ100
       have N100 := Fr.app N88a N100q
       have R100 := CHr.trans R95 hC100
       have O100 := O95.keep K100q all0
       refine sQ X100 hx y at_136 rfl #[iv p0, iv p1, iv p2, iv p3, iv p4, iv 3, iv c80, iv c81, iv c82, iv c83, iv 1, rv b89, rv b89] rfl ?_
       refine sB X100 hx y at_138 rfl rfl ?_
       refine oS (XS.ifnullNo X100.here hx rfl (hb y at_140) rfl) ?_
       refine sB X100 hx y at_143 rfl rfl ?_
       have f101 := (f96.keep K100q)
       have f102 := (f97.keep K100q nin0)
       have f103 := (f98.keep K100q nin0)
       have f104 := (f99.keep K100q nin0)
       refine oCV X100 hx hZ100 hown100 (oW hw 114 rfl) (bu66 hw) f101 (rm12_104 hw hS O100 b89 b90 c80 c81 c82 k91 f101 f102 f103 f104) 0 (by decide) [] rfl (lenOf pd67 rfl) hml rfl rfl rfl y at_145 rfl ?_
       rintro _ T105 _ X105 ⟨rfl, N105q, e105⟩
       have N105 := Fr.app N100 N105q
       refine sJ X105 hx y at_148 rfl ?_
       refine sV X105 hx y at_150 (by decide) ?_
       refine sB X105 hx y at_153 rfl rfl ?_
       refine sB X105 hx y at_155 rfl rfl ?_
       refine oCV X105 hx hZ100 hown100 (oW hw 115 rfl) (bu116 hw) f101 (rm26_33 hw hS O100 b89) 0 (by decide) [.ref b89] rfl (lenOf pd117 rfl) hml rfl rfl rfl y at_157 e105 ?_
       rintro _ T106 _ X106 ⟨rfl, N106q, e106⟩
       have N106 := Fr.app N105 N106q
       refine sT X106 hx y at_160 (by decide) ?_
       refine sC X106 hx y at_163 ?_
       refine sR X106 hx y at_164 168 (by decide) ?_
       exact own_retNH X106 hS100 (by rw [e106]; exact (Nat.le_refl _)) hZ100 (own_EW hw) (by rw [e106]; exact R100) hx (t := .boolean) hr (by simp) hl (hb y at_168) (by decide) (by decide) ⟨rfl, N106⟩
      ·
       have N88b := Fr.app N87b N88bq
       have R88b := CHr.trans (CHr.refl H0) (CHr.keep K88bq sf0 (CHr.refl H0).1)
       have O88b := O0.keep K88bq all0
       refine sQ X88 hx y at_127 rfl #[iv p0, iv p1, iv p2, iv p3, iv p4, iv 3, iv c80, iv c81, iv c82, iv c83, iv 1, rv b92, .unset] rfl ?_
       refine sB X88 hx y at_129 rfl rfl ?_
       obtain ⟨b107, T107, h107, k107, X107, e107, E107, hS107, hk107, hZ107, hown107, hC107, -, st107⟩ := ldcOH X88 hx hZ ho (oW hw 42 rfl) (fun d hd => hw d (own_satoms d hd)) rfl hS0 (Nat.zero_le _) (own_EW hw) R88b.1 (g := (mkF m 131 #[iv p0, iv p1, iv p2, iv p3, iv p4, iv 3, iv c80, iv c81, iv c82, iv c83, iv 1, rv b92, .unset] [.ref b92])) rfl (hb y at_131) (n := 4) (by decide) (by decide) (by decide) (by decide)
       refine own_step st107 ?_
       have O107 := O88b.ext E107
       have R107 := CHr.trans R88b hC107
       have f108 := (F88b_0.ext E107)
       have f109 := (F88b_1.ext E107)
       have f110 := (F88b_2.ext E107)
       have f111 := (F88b_3.ext E107)
       obtain ⟨_, T112, L112, X112, hS112, hZ112, hown112, hC112, hQ112, st112⟩ := own_callSH X107 hx hZ107 hS107 hk107 (own_EW hw) R107.1 hown107 (oW hw 45 rfl) (oW hw 46 rfl) (oW hw 47 rfl) (oW hw 48 rfl) (by decide) (rm10_133 hw hS O107 b92 b107 b93 c80 c81 c82 k94 f108 f109 f110 f111 hn80 hn81 hn82 ha80 ha81 ha82 hq84b_0 hq84b_1 hq85b_0 hq85b_1 hq86b_0 hq86b_1 hq87b_0 hq87b_1 hq87b_2 hq87b_3 hq88b_0 hq88b_1 hq88b_2) (W := 0) (by decide) (by decide) [(.ref b92), (.ref b107)] rfl (lenOf pd113 rfl) (Ls := #[iv p0, iv p1, iv p2, iv p3, iv p4, iv 3, iv c80, iv c81, iv c82, iv c83, iv 1, rv b92, .unset]) (by rw [hml]; rfl) (rest := []) (Nat.le_of_eq rfl) (hb y at_133) e107 (by decide) (by decide)
       refine st112 _ ?_
       obtain ⟨rfl, N112q, K112q⟩ := hQ112
       have N112 := Fr.app N88b N112q
       have R112 := CHr.trans R107 hC112
       have O112 := O107.keep K112q all0
       refine sQ X112 hx y at_136 rfl #[iv p0, iv p1, iv p2, iv p3, iv p4, iv 3, iv c80, iv c81, iv c82, iv c83, iv 1, rv b92, rv b92] rfl ?_
       refine sB X112 hx y at_138 rfl rfl ?_
       refine oS (XS.ifnullNo X112.here hx rfl (hb y at_140) rfl) ?_
       refine sB X112 hx y at_143 rfl rfl ?_
       have f113 := (f108.keep K112q)
       have f114 := (f109.keep K112q nin0)
       have f115 := (f110.keep K112q nin0)
       have f116 := (f111.keep K112q nin0)
       refine oCV X112 hx hZ112 hown112 (oW hw 114 rfl) (bu66 hw) f113 (rm12_126 hw hS O112 b92 b93 c80 c81 c82 k94 f113 f114 f115 f116) 0 (by decide) [] rfl (lenOf pd67 rfl) hml rfl rfl rfl y at_145 rfl ?_
       rintro _ T117 _ X117 ⟨rfl, N117q, e117⟩
       have N117 := Fr.app N112 N117q
       refine sJ X117 hx y at_148 rfl ?_
       refine sV X117 hx y at_150 (by decide) ?_
       refine sB X117 hx y at_153 rfl rfl ?_
       refine sB X117 hx y at_155 rfl rfl ?_
       refine oCV X117 hx hZ112 hown112 (oW hw 115 rfl) (bu116 hw) f113 (rm26_33 hw hS O112 b92) 0 (by decide) [.ref b92] rfl (lenOf pd117 rfl) hml rfl rfl rfl y at_157 e117 ?_
       rintro _ T118 _ X118 ⟨rfl, N118q, e118⟩
       have N118 := Fr.app N117 N118q
       refine sT X118 hx y at_160 (by decide) ?_
       refine sC X118 hx y at_163 ?_
       refine sR X118 hx y at_164 168 (by decide) ?_
       exact own_retNH X118 hS112 (by rw [e118]; exact (Nat.le_refl _)) hZ112 (own_EW hw) (by rw [e118]; exact R112) hx (t := .boolean) hr (by simp) hl (hb y at_168) (by decide) (by decide) ⟨rfl, N118⟩
 ·
  rw [hm]
  refine sO X0 hx y at_6 #[iv p0, iv p1, iv p2, iv p3, iv p4, iv 4, .unset, .unset, .unset, .unset, .unset, .unset, .unset] rfl ?_
  refine sI X0 hx y at_8 rfl ?_
  refine own_step (X0.ldcInt hx ho (mvT hZ (oW hw 1 rfl)) (g := (mkF m 9 #[iv p0, iv p1, iv p2, iv p3, iv p4, iv 4, .unset, .unset, .unset, .unset, .unset, .unset, .unset] [.int p1])) rfl (hb y at_9)) ?_
  refine oS (XS.iand X0.here hx rfl (hb y at_11) rfl) ?_
  refine oS (XS.i2c X0.here hx rfl (hb y at_12) rfl) ?_
  show own_Wp p e u _ s₁ (mkF m 13 #[iv p0, iv p1, iv p2, iv p3, iv p4, iv 4, .unset, .unset, .unset, .unset, .unset, .unset, .unset] [.int ((p1 &&& (65535 : Int32)).toUInt32.toUInt16.toUInt32.toInt32)])
  obtain ⟨c119, hc119⟩ : ∃ z, z = ((p1 &&& (65535 : Int32)).toUInt32.toUInt16.toUInt32.toInt32) := ⟨_, rfl⟩
  rw [← hc119]
  have ha119 : ¬ (c119 < (0 : Int32)) := by rw [hc119]; exact (own_c16 _).1
  have hb119 : ¬ ((65535 : Int32) < c119) := by rw [hc119]; exact (own_c16 _).2.1
  have hn119 : nar .char c119 = c119 := by rw [hc119]; exact (own_c16 _).2.2
  refine sO X0 hx y at_13 #[iv p0, iv p1, iv p2, iv p3, iv p4, iv 4, iv c119, .unset, .unset, .unset, .unset, .unset, .unset] rfl ?_
  refine sI X0 hx y at_15 rfl ?_
  refine own_step (X0.ldcInt hx ho (mvT hZ (oW hw 1 rfl)) (g := (mkF m 16 #[iv p0, iv p1, iv p2, iv p3, iv p4, iv 4, iv c119, .unset, .unset, .unset, .unset, .unset, .unset] [.int p2])) rfl (hb y at_16)) ?_
  refine oS (XS.iand X0.here hx rfl (hb y at_18) rfl) ?_
  refine oS (XS.i2c X0.here hx rfl (hb y at_19) rfl) ?_
  show own_Wp p e u _ s₁ (mkF m 20 #[iv p0, iv p1, iv p2, iv p3, iv p4, iv 4, iv c119, .unset, .unset, .unset, .unset, .unset, .unset] [.int ((p2 &&& (65535 : Int32)).toUInt32.toUInt16.toUInt32.toInt32)])
  obtain ⟨c120, hc120⟩ : ∃ z, z = ((p2 &&& (65535 : Int32)).toUInt32.toUInt16.toUInt32.toInt32) := ⟨_, rfl⟩
  rw [← hc120]
  have ha120 : ¬ (c120 < (0 : Int32)) := by rw [hc120]; exact (own_c16 _).1
  have hb120 : ¬ ((65535 : Int32) < c120) := by rw [hc120]; exact (own_c16 _).2.1
  have hn120 : nar .char c120 = c120 := by rw [hc120]; exact (own_c16 _).2.2
  refine sO X0 hx y at_20 #[iv p0, iv p1, iv p2, iv p3, iv p4, iv 4, iv c119, iv c120, .unset, .unset, .unset, .unset, .unset] rfl ?_
  refine sI X0 hx y at_22 rfl ?_
  refine own_step (X0.ldcInt hx ho (mvT hZ (oW hw 1 rfl)) (g := (mkF m 23 #[iv p0, iv p1, iv p2, iv p3, iv p4, iv 4, iv c119, iv c120, .unset, .unset, .unset, .unset, .unset] [.int p3])) rfl (hb y at_23)) ?_
  refine oS (XS.iand X0.here hx rfl (hb y at_25) rfl) ?_
  refine oS (XS.i2c X0.here hx rfl (hb y at_26) rfl) ?_
  show own_Wp p e u _ s₁ (mkF m 27 #[iv p0, iv p1, iv p2, iv p3, iv p4, iv 4, iv c119, iv c120, .unset, .unset, .unset, .unset, .unset] [.int ((p3 &&& (65535 : Int32)).toUInt32.toUInt16.toUInt32.toInt32)])
  obtain ⟨c121, hc121⟩ : ∃ z, z = ((p3 &&& (65535 : Int32)).toUInt32.toUInt16.toUInt32.toInt32) := ⟨_, rfl⟩
  rw [← hc121]
  have ha121 : ¬ (c121 < (0 : Int32)) := by rw [hc121]; exact (own_c16 _).1
  have hb121 : ¬ ((65535 : Int32) < c121) := by rw [hc121]; exact (own_c16 _).2.1
  have hn121 : nar .char c121 = c121 := by rw [hc121]; exact (own_c16 _).2.2
  refine sO X0 hx y at_27 #[iv p0, iv p1, iv p2, iv p3, iv p4, iv 4, iv c119, iv c120, iv c121, .unset, .unset, .unset, .unset] rfl ?_
  refine sJ X0 hx y at_29 rfl ?_
  refine own_step (X0.ldcInt hx ho (mvT hZ (oW hw 1 rfl)) (g := (mkF m 31 #[iv p0, iv p1, iv p2, iv p3, iv p4, iv 4, iv c119, iv c120, iv c121, .unset, .unset, .unset, .unset] [.int p4])) rfl (hb y at_31)) ?_
  refine oS (XS.iand X0.here hx rfl (hb y at_33) rfl) ?_
  refine oS (XS.i2c X0.here hx rfl (hb y at_34) rfl) ?_
  show own_Wp p e u _ s₁ (mkF m 35 #[iv p0, iv p1, iv p2, iv p3, iv p4, iv 4, iv c119, iv c120, iv c121, .unset, .unset, .unset, .unset] [.int ((p4 &&& (65535 : Int32)).toUInt32.toUInt16.toUInt32.toInt32)])
  obtain ⟨c122, hc122⟩ : ∃ z, z = ((p4 &&& (65535 : Int32)).toUInt32.toUInt16.toUInt32.toInt32) := ⟨_, rfl⟩
  rw [← hc122]
  have ha122 : ¬ (c122 < (0 : Int32)) := by rw [hc122]; exact (own_c16 _).1
  have hb122 : ¬ ((65535 : Int32) < c122) := by rw [hc122]; exact (own_c16 _).2.1
  have hn122 : nar .char c122 = c122 := by rw [hc122]; exact (own_c16 _).2.2
  refine sO X0 hx y at_35 #[iv p0, iv p1, iv p2, iv p3, iv p4, iv 4, iv c119, iv c120, iv c121, iv c122, .unset, .unset, .unset] rfl ?_
  refine sJ X0 hx y at_37 rfl ?_
  refine sT X0 hx y at_39 (by decide) ?_
  refine sJ X0 hx y at_42 rfl ?_
  refine oCS X0 hx hZ ho (oW hw 2 rfl) (bu3 hw) (rm1_0 hw hS O0 c119) 0 (by decide) [.int c119] rfl (lenOf pd4 rfl) hml rfl rfl rfl y at_44 e0 ?_
  rintro _ T123 _ X123 (⟨rfl, N123aq, e123a⟩ | ⟨hq123b_0, hq123b_1, rfl, N123bq, e123b⟩)
  ·
   have N123a := Fr.app (Fr.nil n0) N123aq
   refine sS X123 hx y at_47 (by decide) 104 (by decide) ?_
   refine sC X123 hx y at_104 ?_
   refine sO X123 hx y at_105 #[iv p0, iv p1, iv p2, iv p3, iv p4, iv 4, iv c119, iv c120, iv c121, iv c122, iv 0, .unset, .unset] rfl ?_
   refine sJ X123 hx y at_107 rfl ?_
   refine sT X123 hx y at_109 (by decide) ?_
   refine sC X123 hx y at_112 ?_
   exact own_retNH X123 hS0 (by rw [e123a]; exact (Nat.zero_le _)) hZ (own_EW hw) (by rw [e123a]; exact (CHr.refl H0)) hx (t := .boolean) hr (by simp) hl (hb y at_113) (by decide) (by decide) ⟨rfl, N123a⟩
  ·
   have N123b := Fr.app (Fr.nil n0) N123bq
   refine sT X123 hx y at_47 (by decide) ?_
   refine sJ X123 hx y at_50 rfl ?_
   refine sC X123 hx y at_52 ?_
   refine sV X123 hx y at_53 (by decide) ?_
   refine sJ X123 hx y at_56 rfl ?_
   refine oCS X123 hx hZ ho (oW hw 2 rfl) (bu3 hw) (rm1_0 hw hS O0 c120) 0 (by decide) [.int c120] rfl (lenOf pd4 rfl) hml rfl rfl rfl y at_58 e123b ?_
   rintro _ T124 _ X124 (⟨rfl, N124aq, e124a⟩ | ⟨hq124b_0, hq124b_1, rfl, N124bq, e124b⟩)
   ·
    have N124a := Fr.app N123b N124aq
    refine sS X124 hx y at_61 (by decide) 104 (by decide) ?_
    refine sC X124 hx y at_104 ?_
    refine sO X124 hx y at_105 #[iv p0, iv p1, iv p2, iv p3, iv p4, iv 4, iv c119, iv c120, iv c121, iv c122, iv 0, .unset, .unset] rfl ?_
    refine sJ X124 hx y at_107 rfl ?_
    refine sT X124 hx y at_109 (by decide) ?_
    refine sC X124 hx y at_112 ?_
    exact own_retNH X124 hS0 (by rw [e124a]; exact (Nat.zero_le _)) hZ (own_EW hw) (by rw [e124a]; exact (CHr.refl H0)) hx (t := .boolean) hr (by simp) hl (hb y at_113) (by decide) (by decide) ⟨rfl, N124a⟩
   ·
    have N124b := Fr.app N123b N124bq
    refine sT X124 hx y at_61 (by decide) ?_
    refine sJ X124 hx y at_64 rfl ?_
    refine sC X124 hx y at_66 ?_
    refine sV X124 hx y at_67 (by decide) ?_
    refine sJ X124 hx y at_70 rfl ?_
    refine oCS X124 hx hZ ho (oW hw 2 rfl) (bu3 hw) (rm1_0 hw hS O0 c121) 0 (by decide) [.int c121] rfl (lenOf pd4 rfl) hml rfl rfl rfl y at_72 e124b ?_
    rintro _ T125 _ X125 (⟨rfl, N125aq, e125a⟩ | ⟨hq125b_0, hq125b_1, rfl, N125bq, e125b⟩)
    ·
     have N125a := Fr.app N124b N125aq
     refine sS X125 hx y at_75 (by decide) 104 (by decide) ?_
     refine sC X125 hx y at_104 ?_
     refine sO X125 hx y at_105 #[iv p0, iv p1, iv p2, iv p3, iv p4, iv 4, iv c119, iv c120, iv c121, iv c122, iv 0, .unset, .unset] rfl ?_
     refine sJ X125 hx y at_107 rfl ?_
     refine sT X125 hx y at_109 (by decide) ?_
     refine sC X125 hx y at_112 ?_
     exact own_retNH X125 hS0 (by rw [e125a]; exact (Nat.zero_le _)) hZ (own_EW hw) (by rw [e125a]; exact (CHr.refl H0)) hx (t := .boolean) hr (by simp) hl (hb y at_113) (by decide) (by decide) ⟨rfl, N125a⟩
    ·
     have N125b := Fr.app N124b N125bq
     refine sT X125 hx y at_75 (by decide) ?_
     refine sJ X125 hx y at_78 rfl ?_
     refine sC X125 hx y at_80 ?_
     refine sV X125 hx y at_81 (by decide) ?_
     refine sJ X125 hx y at_84 rfl ?_
     refine oCS X125 hx hZ ho (oW hw 2 rfl) (bu3 hw) (rm1_0 hw hS O0 c122) 0 (by decide) [.int c122] rfl (lenOf pd4 rfl) hml rfl rfl rfl y at_86 e125b ?_
     rintro _ T126 _ X126 (⟨rfl, N126aq, e126a⟩ | ⟨hq126b_0, hq126b_1, rfl, N126bq, e126b⟩)
     ·
      have N126a := Fr.app N125b N126aq
      refine sS X126 hx y at_89 (by decide) 104 (by decide) ?_
      refine sC X126 hx y at_104 ?_
      refine sO X126 hx y at_105 #[iv p0, iv p1, iv p2, iv p3, iv p4, iv 4, iv c119, iv c120, iv c121, iv c122, iv 0, .unset, .unset] rfl ?_
      refine sJ X126 hx y at_107 rfl ?_
      refine sT X126 hx y at_109 (by decide) ?_
      refine sC X126 hx y at_112 ?_
      exact own_retNH X126 hS0 (by rw [e126a]; exact (Nat.zero_le _)) hZ (own_EW hw) (by rw [e126a]; exact (CHr.refl H0)) hx (t := .boolean) hr (by simp) hl (hb y at_113) (by decide) (by decide) ⟨rfl, N126a⟩
     ·
      have N126b := Fr.app N125b N126bq
      refine sT X126 hx y at_89 (by decide) ?_
      refine sJ X126 hx y at_92 rfl ?_
      refine oCS X126 hx hZ ho (oW hw 6 rfl) (bu7 hw) (rm2_1 hw hS O0 c119) 0 (by decide) [.int c119] rfl (lenOf pd4 rfl) hml rfl rfl rfl y at_94 e126b ?_
      rintro _ T127 _ X127 (⟨rfl, N127aq, e127a⟩ | ⟨hq127b_0, hq127b_1, hq127b_2, hq127b_3, rfl, N127bq, e127b⟩)
      ·
       have N127a := Fr.app N126b N127aq
       refine sS X127 hx y at_97 (by decide) 104 (by decide) ?_
       refine sC X127 hx y at_104 ?_
       refine sO X127 hx y at_105 #[iv p0, iv p1, iv p2, iv p3, iv p4, iv 4, iv c119, iv c120, iv c121, iv c122, iv 0, .unset, .unset] rfl ?_
       refine sJ X127 hx y at_107 rfl ?_
       refine sT X127 hx y at_109 (by decide) ?_
       refine sC X127 hx y at_112 ?_
       exact own_retNH X127 hS0 (by rw [e127a]; exact (Nat.zero_le _)) hZ (own_EW hw) (by rw [e127a]; exact (CHr.refl H0)) hx (t := .boolean) hr (by simp) hl (hb y at_113) (by decide) (by decide) ⟨rfl, N127a⟩
      ·
       have N127b := Fr.app N126b N127bq
       refine sT X127 hx y at_97 (by decide) ?_
       refine sC X127 hx y at_100 ?_
       refine sR X127 hx y at_101 105 (by decide) ?_
       refine sO X127 hx y at_105 #[iv p0, iv p1, iv p2, iv p3, iv p4, iv 4, iv c119, iv c120, iv c121, iv c122, iv 1, .unset, .unset] rfl ?_
       refine sJ X127 hx y at_107 rfl ?_
       refine sS X127 hx y at_109 (by decide) 114 (by decide) ?_
       refine sJ X127 hx y at_114 rfl ?_
       refine sJ X127 hx y at_116 rfl ?_
       refine sJ X127 hx y at_118 rfl ?_
       refine sJ X127 hx y at_120 rfl ?_
       refine sJ X127 hx y at_122 rfl ?_
       refine oCS X127 hx hZ ho (oW hw 9 rfl) (bu53 hw) (rm3_151 hw hS O0 c119 c120 c121 c122 hn119 hn120 hn121 hn122 ha119 hb119 ha120 hb120 ha121 hb121 ha122 hb122) 0 (by decide) [.int 4, .int c119, .int c120, .int c121, .int c122] rfl (lenOf pd54 rfl) hml rfl rfl rfl y at_124 e127b ?_
       rintro _ T128 _ X128 (⟨b129, b130, k131, rfl, N128aq, K128aq, y128a_0, y128a_1, m128a_0, F128a_0, F128a_1, F128a_2, F128a_3⟩ | ⟨b132, b133, k134, hq128b_0, hq128b_1, hq128b_2, hq128b_3, rfl, N128bq, K128bq, y128b_0, y128b_1, m128b_0, F128b_0, F128b_1, F128b_2, F128b_3⟩)
       ·
        have N128a := Fr.app N127b N128aq
        have R128a := CHr.trans (CHr.refl H0) (CHr.keep K128aq sf0 (CHr.refl H0).1)
        have O128a := O0.keep K128aq all0
        refine sQ X128 hx y at_127 rfl #[iv p0, iv p1, iv p2, iv p3, iv p4, iv 4, iv c119, iv c120, iv c121, iv c122, iv 1, rv b129, .unset] rfl ?_
        refine sB X128 hx y at_129 rfl rfl ?_
        obtain ⟨b135, T135, h135, k135, X135, e135, E135, hS135, hk135, hZ135, hown135, hC135, -, st135⟩ := ldcOH X128 hx hZ ho (oW hw 42 rfl) (fun d hd => hw d (own_satoms d hd)) rfl hS0 (Nat.zero_le _) (own_EW hw) R128a.1 (g := (mkF m 131 #[iv p0, iv p1, iv p2, iv p3, iv p4, iv 4, iv c119, iv c120, iv c121, iv c122, iv 1, rv b129, .unset] [.ref b129])) rfl (hb y at_131) (n := 4) (by decide) (by decide) (by decide) (by decide)
        refine own_step st135 ?_
        have O135 := O128a.ext E135
        have R135 := CHr.trans R128a hC135
        have f136 := (F128a_0.ext E135)
        have f137 := (F128a_1.ext E135)
        have f138 := (F128a_2.ext E135)
        have f139 := (F128a_3.ext E135)
        obtain ⟨_, T140, L140, X140, hS140, hZ140, hown140, hC140, hQ140, st140⟩ := own_callSH X135 hx hZ135 hS135 hk135 (own_EW hw) R135.1 hown135 (oW hw 45 rfl) (oW hw 46 rfl) (oW hw 47 rfl) (oW hw 48 rfl) (by decide) (rm10_179 hw hS O135 b129 b135 b130 c119 c120 c121 c122 k131 f136 f137 f138 f139 hn119 hn120 hn121 hn122 ha119 hb119 ha120 hb120 ha121 hb121 ha122 hb122 hq123b_0 hq123b_1 hq124b_0 hq124b_1 hq125b_0 hq125b_1 hq126b_0 hq126b_1 hq127b_0 hq127b_1 hq127b_2 hq127b_3) (W := 0) (by decide) (by decide) [(.ref b129), (.ref b135)] rfl (lenOf pd113 rfl) (Ls := #[iv p0, iv p1, iv p2, iv p3, iv p4, iv 4, iv c119, iv c120, iv c121, iv c122, iv 1, rv b129, .unset]) (by rw [hml]; rfl) (rest := []) (Nat.le_of_eq rfl) (hb y at_133) e135 (by decide) (by decide)
        refine st140 _ ?_
        obtain ⟨rfl, N140q, K140q⟩ := hQ140
        have N140 := Fr.app N128a N140q
        have R140 := CHr.trans R135 hC140
        have O140 := O135.keep K140q all0
        refine sQ X140 hx y at_136 rfl #[iv p0, iv p1, iv p2, iv p3, iv p4, iv 4, iv c119, iv c120, iv c121, iv c122, iv 1, rv b129, rv b129] rfl ?_
        refine sB X140 hx y at_138 rfl rfl ?_
        refine oS (XS.ifnullNo X140.here hx rfl (hb y at_140) rfl) ?_
        refine sB X140 hx y at_143 rfl rfl ?_
        have f141 := (f136.keep K140q)
        have f142 := (f137.keep K140q nin0)
        have f143 := (f138.keep K140q nin0)
        have f144 := (f139.keep K140q nin0)
        refine oCV X140 hx hZ140 hown140 (oW hw 114 rfl) (bu66 hw) f141 (rm12_153 hw hS O140 b129 b130 c119 c120 c121 c122 k131 f141 f142 f143 f144) 0 (by decide) [] rfl (lenOf pd67 rfl) hml rfl rfl rfl y at_145 rfl ?_
        rintro _ T145 _ X145 ⟨rfl, N145q, e145⟩
        have N145 := Fr.app N140 N145q
        refine sJ X145 hx y at_148 rfl ?_
        refine sV X145 hx y at_150 (by decide) ?_
        refine sB X145 hx y at_153 rfl rfl ?_
        refine sB X145 hx y at_155 rfl rfl ?_
        refine oCV X145 hx hZ140 hown140 (oW hw 115 rfl) (bu116 hw) f141 (rm26_33 hw hS O140 b129) 0 (by decide) [.ref b129] rfl (lenOf pd117 rfl) hml rfl rfl rfl y at_157 e145 ?_
        rintro _ T146 _ X146 ⟨rfl, N146q, e146⟩
        have N146 := Fr.app N145 N146q
        refine sT X146 hx y at_160 (by decide) ?_
        refine sC X146 hx y at_163 ?_
        refine sR X146 hx y at_164 168 (by decide) ?_
        exact own_retNH X146 hS140 (by rw [e146]; exact (Nat.le_refl _)) hZ140 (own_EW hw) (by rw [e146]; exact R140) hx (t := .boolean) hr (by simp) hl (hb y at_168) (by decide) (by decide) ⟨rfl, N146⟩
       ·
        have N128b := Fr.app N127b N128bq
        have R128b := CHr.trans (CHr.refl H0) (CHr.keep K128bq sf0 (CHr.refl H0).1)
        have O128b := O0.keep K128bq all0
        refine sQ X128 hx y at_127 rfl #[iv p0, iv p1, iv p2, iv p3, iv p4, iv 4, iv c119, iv c120, iv c121, iv c122, iv 1, rv b132, .unset] rfl ?_
        refine sB X128 hx y at_129 rfl rfl ?_
        obtain ⟨b147, T147, h147, k147, X147, e147, E147, hS147, hk147, hZ147, hown147, hC147, -, st147⟩ := ldcOH X128 hx hZ ho (oW hw 42 rfl) (fun d hd => hw d (own_satoms d hd)) rfl hS0 (Nat.zero_le _) (own_EW hw) R128b.1 (g := (mkF m 131 #[iv p0, iv p1, iv p2, iv p3, iv p4, iv 4, iv c119, iv c120, iv c121, iv c122, iv 1, rv b132, .unset] [.ref b132])) rfl (hb y at_131) (n := 4) (by decide) (by decide) (by decide) (by decide)
        refine own_step st147 ?_
        have O147 := O128b.ext E147
        have R147 := CHr.trans R128b hC147
        have f148 := (F128b_0.ext E147)
        have f149 := (F128b_1.ext E147)
        have f150 := (F128b_2.ext E147)
        have f151 := (F128b_3.ext E147)
        obtain ⟨_, T152, L152, X152, hS152, hZ152, hown152, hC152, hQ152, st152⟩ := own_callSH X147 hx hZ147 hS147 hk147 (own_EW hw) R147.1 hown147 (oW hw 45 rfl) (oW hw 46 rfl) (oW hw 47 rfl) (oW hw 48 rfl) (by decide) (rm10_190 hw hS O147 b132 b147 b133 c119 c120 c121 c122 k134 f148 f149 f150 f151 hn119 hn120 hn121 hn122 ha119 ha120 ha121 ha122 hq123b_0 hq123b_1 hq124b_0 hq124b_1 hq125b_0 hq125b_1 hq126b_0 hq126b_1 hq127b_0 hq127b_1 hq127b_2 hq127b_3 hq128b_0 hq128b_1 hq128b_2 hq128b_3) (W := 0) (by decide) (by decide) [(.ref b132), (.ref b147)] rfl (lenOf pd113 rfl) (Ls := #[iv p0, iv p1, iv p2, iv p3, iv p4, iv 4, iv c119, iv c120, iv c121, iv c122, iv 1, rv b132, .unset]) (by rw [hml]; rfl) (rest := []) (Nat.le_of_eq rfl) (hb y at_133) e147 (by decide) (by decide)
        refine st152 _ ?_
        obtain ⟨rfl, N152q, K152q⟩ := hQ152
        have N152 := Fr.app N128b N152q
        have R152 := CHr.trans R147 hC152
        have O152 := O147.keep K152q all0
        refine sQ X152 hx y at_136 rfl #[iv p0, iv p1, iv p2, iv p3, iv p4, iv 4, iv c119, iv c120, iv c121, iv c122, iv 1, rv b132, rv b132] rfl ?_
        refine sB X152 hx y at_138 rfl rfl ?_
        refine oS (XS.ifnullNo X152.here hx rfl (hb y at_140) rfl) ?_
        refine sB X152 hx y at_143 rfl rfl ?_
        have f153 := (f148.keep K152q)
        have f154 := (f149.keep K152q nin0)
        have f155 := (f150.keep K152q nin0)
        have f156 := (f151.keep K152q nin0)
        refine oCV X152 hx hZ152 hown152 (oW hw 114 rfl) (bu66 hw) f153 (rm12_181 hw hS O152 b132 b133 c119 c120 c121 c122 k134 f153 f154 f155 f156) 0 (by decide) [] rfl (lenOf pd67 rfl) hml rfl rfl rfl y at_145 rfl ?_
        rintro _ T157 _ X157 ⟨rfl, N157q, e157⟩
        have N157 := Fr.app N152 N157q
        refine sJ X157 hx y at_148 rfl ?_
        refine sV X157 hx y at_150 (by decide) ?_
        refine sB X157 hx y at_153 rfl rfl ?_
        refine sB X157 hx y at_155 rfl rfl ?_
        refine oCV X157 hx hZ152 hown152 (oW hw 115 rfl) (bu116 hw) f153 (rm26_33 hw hS O152 b132) 0 (by decide) [.ref b132] rfl (lenOf pd117 rfl) hml rfl rfl rfl y at_157 e157 ?_
        rintro _ T158 _ X158 ⟨rfl, N158q, e158⟩
        have N158 := Fr.app N157 N158q
        refine sT X158 hx y at_160 (by decide) ?_
        refine sC X158 hx y at_163 ?_
        refine sR X158 hx y at_164 168 (by decide) ?_
        exact own_retNH X158 hS152 (by rw [e158]; exact (Nat.le_refl _)) hZ152 (own_EW hw) (by rw [e158]; exact R152) hx (t := .boolean) hr (by simp) hl (hb y at_168) (by decide) (by decide) ⟨rfl, N158⟩
theorem comes_1 {Post : Tables → Env → Array Value → State → Outcome → State → Prop} (hpost : ∀ tb e args s v u, (limb_1_1.after args s (.returned v) u = true ∧ limb_1_2.after args s (.returned v) u = true ∧ True) → ReturnedEndW s (.returned v) u (Jvm.fieldLocs frame_1_writes args s ++ Jvm.arrayLocs frame_1_arrays args s ++ Jvm.staticLocs frame_1_statics s) 24 2176 → Post tb e args s (.returned v) u) :
    ArmFor flags0 classFile x code maxLocals ret World_1 tables_1 room_1 Calls_1 rest_1 Pre_1 Post := by
  intro l hfl _ _ p e ha hc hk s m args below hf hA hF happ hP
  obtain ⟨hcalls, hrest, hpre⟩ := hP
  obtain ⟨-, -, -, hnamed, -, -, -, hat⟩ := (Spec.applies_iff hf).mp happ
  obtain ⟨hg, hn⟩ := and_e (Cond.before_iff.mp (show (Jvm.Cond.and given_1 narrow_1).before args s = true from hpre))
  obtain ⟨gg1, gg2⟩ := and_e hg
  obtain ⟨gg3, gg4⟩ := and_e gg2
  obtain ⟨gg5, gg6⟩ := and_e gg4
  obtain ⟨gg7, gg8⟩ := and_e gg6
  obtain ⟨gg9, gg10⟩ := and_e gg8
  obtain ⟨w0, w1, w2, w3, w4, rfl⟩ : ∃ w0 w1 w2 w3 w4 : Value, args = #[w0, w1, w2, w3, w4] := by
    have hs : args.size = 5 := by simpa [Cond.value, given_1] using gg1
    obtain ⟨L⟩ := args
    match L, hs with
    | [w0, w1, w2, w3, w4], _ => exact ⟨w0, w1, w2, w3, w4, rfl⟩
  have hw := fun d (hd : d ∈ tables_1) => atoms_spec (ws := Jvm.Cond.code x code maxLocals ret :: tables_1) hat d (List.mem_cons_of_mem _ hd)
  have hfit : Fit s := fun {y c} hc i hi => by
    obtain ⟨ha, rfl⟩ := Array.getElem?_eq_some_iff.mp hc
    have q := List.all_eq_true.mp ((Array.all_eq_true_iff_forall_mem.mp hF) _ (Array.getElem_mem ha)) i (List.mem_range.mpr hi)
    simpa [Array.getElem?_eq_getElem hi] using q
  obtain ⟨hsets, hown0⟩ := atoms_of _ (rest_1_c_eq ▸ (show rest_1_c.before _ s = true from hrest))
  have hr0 := Cond.before_iff.mp hown0
  obtain ⟨i0, ei0⟩ := is_v gg3
  obtain rfl : w0 = (.int i0) := Option.some.inj ei0
  obtain ⟨i1, ei1⟩ := is_v gg5
  obtain rfl : w1 = (.int i1) := Option.some.inj ei1
  obtain ⟨i2, ei2⟩ := is_v gg7
  obtain rfl : w2 = (.int i2) := Option.some.inj ei2
  obtain ⟨i3, ei3⟩ := is_v gg9
  obtain rfl : w3 = (.int i3) := Option.some.inj ei3
  obtain ⟨i4, ei4⟩ := is_v gg10
  obtain rfl : w4 = (.int i4) := Option.some.inj ei4
  obtain ⟨n, o, h1, h2, h3, _, L, rfl, ⟨rfl, N⟩, -, hq⟩ := rm0 l s _ hw hsets tables_1 i0 i1 i2 i3 i4 s.heap s.heap.size (Old.start s) p e ha hc hk s m _ below hf ((Spec.applies_iff_loose hf).mp happ).1 ⟨rfl, State.Warmed39.refl s, rfl, CHv.start (own_EW hw) (fun q hq => hcalls.1 q hq) (hsets _ (List.mem_of_getElem? (i := 2) rfl)) (oW hw 31 rfl) (oW hw 13 rfl)⟩ trivial
  refine ⟨n, _, h1, h2, h3, hpost _ _ _ _ _ _ ⟨Cond.after_iff.mpr rfl, Cond.after_iff.mpr (eq_i res_at (Term.int_eval (1)) rfl), trivial⟩ ⟨hq.1, hq.2.1, hq.2.2.1, (hq.2.2.2.sift fun y hy => Or.inr (N y hy)).mono (by decide) (by decide)⟩⟩
theorem main_1_1 : Claimed_1_1 := comes_1 fun _ _ _ _ _ _ h hF => ⟨h.1, hF⟩
theorem main_1_2 : Claimed_1_2 := comes_1 fun _ _ _ _ _ _ h hF => ⟨h.2.1, hF⟩

end Jvm.Pilot.@@N@@
namespace Jvm.Pilot.@@N@@
open Jvm Jvm.ClassFile Sem Op Lib Jvm.Free Jvm.Stand Jvm.Pilot.@@N@@.Jvm.D
/-! MADE BY PROGRAM (witnessworld.py) out of the Statement's table words and the real class files: 21 classes; the members and pool entries that the words name. The judged class is class 1, her method 1. -/
namespace start1
open Jvm.ClassFile
def u (s : String) : CpInfo := .utf8 (stringToUtf16 s)
/-- a pool by its gaps: so many unusable entries, then the entry; so many at the end -/
def gap : Nat → List CpInfo → List CpInfo
  | 0, r => r
  | n + 1, r => .unusable :: gap n r
def poolList (es : List (Nat × CpInfo)) (last : Nat) : List CpInfo := es.foldr (fun e r => gap e.1 (e.2 :: r)) (gap last [])
def pool (es : List (Nat × CpInfo)) (last : Nat) : Array CpInfo := ⟨poolList es last⟩
def fileOf (pool : Array CpInfo) (this : Nat) (attrs : Array Attribute := #[]) (ms : Array MethodInfo := #[]) (fl : Nat := 33) (sup : Nat := 0) (ifs : Array Nat := #[]) (fds : Array FieldInfo := #[]) : ClassFile where
  minorVersion := 0
  majorVersion := 65
  constantPool := pool
  accessFlags := fl
  thisClass := this
  superClass := sup
  interfaces := ifs
  fields := fds
  methods := ms
  attributes := attrs
def plain (name : String) (sup : Option ClassId) : Class where
  name := name
  kind := .ordinary
  loader := none
  accessFlags := 33
  super := sup
  interfaces := #[]
  cf := none
  fields := #[]
  methods := #[]
  instanceTypes := #[]
  staticTypes := #[]
  resolved := #[]
  callSites := []
  init := .initialized
  statics := none
  mirror := none

def pool0 : Array CpInfo := pool [(5, u "<init>"), (0, u "()V"), (1, .class_ 10), (1, u "java/lang/Object")] 113

def k0c0 : Code := { maxStack := 0, maxLocals := 1, code := object_method_1_code, exceptionTable := #[], attributes := #[] }
def k0m0 : Method := { name := "<init>", desc := "()V", sig := { parameters := [], returnType := none }, accessFlags := 1, code := some k0c0 }
/-- java/lang/Object -/
def k0 : Class := { plain "java/lang/Object" none with
  accessFlags := 33
  interfaces := #[]
  cf := some (fileOf pool0 8 #[] #[{ accessFlags := 1, nameIndex := 5, descriptorIndex := 6, attributes := #[] }] 33 0 #[] #[])
  fields := #[]
  methods := #[k0m0]
  instanceTypes := #[]
  staticTypes := #[]
  resolved := Array.replicate 124 none
  statics := none }

def pool1 : Array CpInfo := pool [(2, .class_ 4), (1, u "java/lang/Object"), (0, u "<init>"), (0, u "()V"), (0, .integer 2147483647), (0, .integer 65535), (0, .methodref 10 11), (0, .class_ 12), (0, .nameAndType 13 14), (0, u "com/example/linepack/linepack/ValuesIdPinLaw"), (0, u "plain"), (0, u "(C)Z"), (0, .methodref 10 16), (0, .nameAndType 17 14), (0, u "formulaStart"), (0, .methodref 10 19), (0, .nameAndType 20 21), (0, u "make"), (0, u "(ICCCC)Ljava/lang/String;"), (0, .string 23), (0, u "w"), (0, .methodref 25 26), (0, .class_ 27), (0, .nameAndType 28 29), (0, u "com/example/linepack/linepack/Values"), (0, u "id"), (0, u "(Ljava/lang/String;Ljava/lang/String;)Ljava/lang/String;"), (0, .methodref 31 32), (0, .class_ 33), (0, .nameAndType 34 35), (0, u "java/lang/String"), (0, u "length"), (0, u "()I"), (0, .methodref 31 37), (0, .nameAndType 38 39), (0, u "equals"), (0, u "(Ljava/lang/Object;)Z"), (0, .methodref 31 41), (0, .nameAndType 5 42), (0, u "([C)V"), (2, u "law"), (0, u "(IIIII)Z")] 6

def k1m0 : Method := { name := "<init>", desc := "()V", sig := { parameters := [], returnType := none }, accessFlags := 2, code := none }
def k1c1 : Code := { maxStack := 5, maxLocals := 13, code := code, exceptionTable := #[], attributes := #[] }
def k1m1 : Method := { name := "law", desc := "(IIIII)Z", sig := { parameters := [.int, .int, .int, .int, .int], returnType := some .boolean }, accessFlags := 9, code := some k1c1 }
def k1c2 : Code := { maxStack := 2, maxLocals := 1, code := method_3_code, exceptionTable := #[], attributes := #[] }
def k1m2 : Method := { name := "plain", desc := "(C)Z", sig := { parameters := [.char], returnType := some .boolean }, accessFlags := 10, code := some k1c2 }
def k1c3 : Code := { maxStack := 2, maxLocals := 1, code := method_4_code, exceptionTable := #[], attributes := #[] }
def k1m3 : Method := { name := "formulaStart", desc := "(C)Z", sig := { parameters := [.char], returnType := some .boolean }, accessFlags := 10, code := some k1c3 }
def k1c4 : Code := { maxStack := 6, maxLocals := 5, code := method_5_code, exceptionTable := #[], attributes := #[] }
def k1m4 : Method := { name := "make", desc := "(ICCCC)Ljava/lang/String;", sig := { parameters := [.int, .char, .char, .char, .char], returnType := some (.object "java/lang/String") }, accessFlags := 10, code := some k1c4 }
/-- com/example/linepack/linepack/ValuesIdPinLaw -/
def k1 : Class := { plain "com/example/linepack/linepack/ValuesIdPinLaw" (some 0) with
  accessFlags := 49
  interfaces := #[]
  cf := some (fileOf pool1 10 #[] #[{ accessFlags := 2, nameIndex := 5, descriptorIndex := 6, attributes := #[] }, { accessFlags := 9, nameIndex := 45, descriptorIndex := 46, attributes := #[] }, { accessFlags := 10, nameIndex := 13, descriptorIndex := 14, attributes := #[] }, { accessFlags := 10, nameIndex := 17, descriptorIndex := 14, attributes := #[] }, { accessFlags := 10, nameIndex := 20, descriptorIndex := 21, attributes := #[] }] 49 2 #[] #[])
  fields := #[]
  methods := #[k1m0, k1m1, k1m2, k1m3, k1m4]
  instanceTypes := #[]
  staticTypes := #[]
  resolved := Array.replicate 53 none
  statics := none }

def pool2 : Array CpInfo := pool [(1, .class_ 2), (0, u "java/io/Serializable"), (0, .class_ 4), (0, u "java/lang/Object")] 2

/-- java/io/Serializable -/
def k2 : Class := { plain "java/io/Serializable" (some 0) with
  accessFlags := 1537
  interfaces := #[]
  cf := some (fileOf pool2 1 #[] #[] 1537 3 #[] #[])
  fields := #[]
  methods := #[]
  instanceTypes := #[]
  staticTypes := #[]
  resolved := Array.replicate 7 none
  statics := none }

def pool3 : Array CpInfo := pool [(1, .class_ 2), (0, u "java/lang/Comparable"), (0, .class_ 4), (0, u "java/lang/Object")] 7

/-- java/lang/Comparable -/
def k3 : Class := { plain "java/lang/Comparable" (some 0) with
  accessFlags := 1537
  interfaces := #[]
  cf := some (fileOf pool3 1 #[] #[] 1537 3 #[] #[])
  fields := #[]
  methods := #[]
  instanceTypes := #[]
  staticTypes := #[]
  resolved := Array.replicate 12 none
  statics := none }

def pool4 : Array CpInfo := pool [(2, .class_ 4), (1, u "java/lang/CharSequence"), (42, .class_ 48), (0, u "java/lang/CharSequence$1CodePointIterator"), (10, .class_ 60), (0, u "java/lang/CharSequence$1CharIterator"), (5, .class_ 67), (0, u "java/lang/Object")] 63

/-- java/lang/CharSequence -/
def k4 : Class := { plain "java/lang/CharSequence" (some 0) with
  accessFlags := 1537
  interfaces := #[]
  cf := some (fileOf pool4 2 #[.nestMembers #[47, 59]] #[] 1537 66 #[] #[])
  fields := #[]
  methods := #[]
  instanceTypes := #[]
  staticTypes := #[]
  resolved := Array.replicate 131 none
  statics := none }

def pool5 : Array CpInfo := pool [(1, .class_ 2), (0, u "java/lang/constant/Constable"), (0, .class_ 4), (0, u "java/lang/Object")] 6

/-- java/lang/constant/Constable -/
def k5 : Class := { plain "java/lang/constant/Constable" (some 0) with
  accessFlags := 1537
  interfaces := #[]
  cf := some (fileOf pool5 1 #[] #[] 1537 3 #[] #[])
  fields := #[]
  methods := #[]
  instanceTypes := #[]
  staticTypes := #[]
  resolved := Array.replicate 11 none
  statics := none }

def pool6 : Array CpInfo := pool [(1, .class_ 2), (0, u "java/lang/constant/ConstantDesc"), (0, .class_ 4), (0, u "java/lang/Object")] 32

/-- java/lang/constant/ConstantDesc -/
def k6 : Class := { plain "java/lang/constant/ConstantDesc" (some 0) with
  accessFlags := 1537
  interfaces := #[]
  cf := some (fileOf pool6 1 #[] #[] 1537 3 #[] #[])
  fields := #[]
  methods := #[]
  instanceTypes := #[]
  staticTypes := #[]
  resolved := Array.replicate 37 none
  statics := none }

def pool7 : Array CpInfo := pool [(1, .methodref 2 3), (0, .class_ 4), (0, .nameAndType 5 6), (0, u "java/lang/Object"), (0, u "<init>"), (0, u "()V"), (2, .fieldref 10 11), (0, .class_ 12), (0, .nameAndType 13 14), (0, u "java/lang/String"), (0, u "value"), (0, u "[B"), (0, .fieldref 10 16), (0, .nameAndType 17 18), (0, u "coder"), (0, u "B"), (2, u "hash"), (0, u "I"), (2, u "hashIsZero"), (0, u "Z"), (0, .methodref 10 28), (0, .nameAndType 5 29), (0, u "([CIILjava/lang/Void;)V"), (8, .fieldref 10 39), (0, .nameAndType 40 26), (0, u "COMPACT_STRINGS"), (1, .class_ 44), (1, u "java/lang/StringUTF16"), (0, u "compress"), (1, .methodref 42 48), (0, .nameAndType 49 50), (0, u "coderFromArrayLen"), (0, u "([BI)B"), (56, .class_ 109), (1, u "java/lang/StringLatin1"), (32, u "()Z"), (34, .methodref 42 178), (0, .nameAndType 45 179), (0, u "([CII)[B"), (154, u "()I"), (0, .methodref 10 336), (0, .nameAndType 17 337), (0, u "()B"), (25, u "([BI)C"), (27, u "(II)V"), (35, u "(I)C"), (64, .methodref 10 493), (0, .nameAndType 494 142), (0, u "isLatin1"), (0, .methodref 107 496), (0, .nameAndType 497 363), (0, u "charAt"), (0, .methodref 42 496), (2, u "checkIndex"), (3, .methodref 10 506), (0, .nameAndType 507 334), (0, u "length"), (35, u "equals"), (29, u "(Ljava/lang/Object;)Z"), (1, .class_ 576), (0, u "java/lang/CharSequence"), (22, u "CASE_INSENSITIVE_ORDER"), (0, u "Ljava/util/Comparator;"), (32, .methodref 10 634), (0, .nameAndType 635 636), (0, u "indexOf"), (0, u "(II)I"), (0, .methodref 107 638), (0, .nameAndType 635 639), (0, u "([BIII)I"), (52, u "isEmpty"), (72, u "(I)I"), (244, u "([C)V"), (42, .fieldref 1054 1055), (0, .class_ 1056), (0, .nameAndType 1057 1058), (0, u "jdk/internal/util/Preconditions"), (0, u "SIOOBE_FORMATTER"), (0, u "Ljava/util/function/BiFunction;"), (0, .methodref 1054 1060), (0, .nameAndType 501 1061), (0, u "(IILjava/util/function/BiFunction;)I"), (39, u "serialPersistentFields"), (0, u "[Ljava/io/ObjectStreamField;"), (0, .class_ 1104), (0, u "java/lang/String$CaseInsensitiveComparator"), (1, .class_ 1107), (0, u "java/io/Serializable"), (0, .class_ 1109), (0, u "java/lang/Comparable"), (0, .class_ 1111), (0, u "java/lang/constant/Constable"), (0, .class_ 1113), (0, u "java/lang/constant/ConstantDesc"), (2, u "serialVersionUID"), (0, u "J"), (3, u "REPL"), (0, u "C"), (2, u "LATIN1"), (1, u "UTF16")] 323

def k7m0 : Method := { name := "<init>", desc := "()V", sig := { parameters := [], returnType := none }, accessFlags := 1, code := none }
def k7c1 : Code := { maxStack := 5, maxLocals := 2, code := jdk_42_method_3_code, exceptionTable := #[], attributes := #[] }
def k7m1 : Method := { name := "<init>", desc := "([C)V", sig := { parameters := [(.array .char)], returnType := none }, accessFlags := 1, code := some k7c1 }
def k7c2 : Code := { maxStack := 2, maxLocals := 1, code := jdk_42_method_54_code, exceptionTable := #[], attributes := #[] }
def k7m2 : Method := { name := "length", desc := "()I", sig := { parameters := [], returnType := some .int }, accessFlags := 1, code := some k7c2 }
def k7c3 : Code := { maxStack := 1, maxLocals := 1, code := jdk_42_method_55_code, exceptionTable := #[], attributes := #[] }
def k7m3 : Method := { name := "isEmpty", desc := "()Z", sig := { parameters := [], returnType := some .boolean }, accessFlags := 1, code := some k7c3 }
def k7c4 : Code := { maxStack := 2, maxLocals := 2, code := jdk_42_method_56_code, exceptionTable := #[], attributes := #[] }
def k7m4 : Method := { name := "charAt", desc := "(I)C", sig := { parameters := [.int], returnType := some .char }, accessFlags := 1, code := some k7c4 }
def k7c5 : Code := { maxStack := 2, maxLocals := 3, code := jdk_42_method_66_code, exceptionTable := #[], attributes := #[] }
def k7m5 : Method := { name := "equals", desc := "(Ljava/lang/Object;)Z", sig := { parameters := [(.object "java/lang/Object")], returnType := some .boolean }, accessFlags := 1, code := some k7c5 }
def k7c6 : Code := { maxStack := 3, maxLocals := 2, code := jdk_42_method_79_code, exceptionTable := #[], attributes := #[] }
def k7m6 : Method := { name := "indexOf", desc := "(I)I", sig := { parameters := [.int], returnType := some .int }, accessFlags := 1, code := some k7c6 }
def k7c7 : Code := { maxStack := 4, maxLocals := 3, code := jdk_42_method_80_code, exceptionTable := #[], attributes := #[] }
def k7m7 : Method := { name := "indexOf", desc := "(II)I", sig := { parameters := [.int, .int], returnType := some .int }, accessFlags := 1, code := some k7c7 }
def k7c8 : Code := { maxStack := 4, maxLocals := 6, code := jdk_42_method_149_code, exceptionTable := #[], attributes := #[] }
def k7m8 : Method := { name := "<init>", desc := "([CIILjava/lang/Void;)V", sig := { parameters := [(.array .char), .int, .int, (.object "java/lang/Void")], returnType := none }, accessFlags := 2, code := some k7c8 }
def k7c9 : Code := { maxStack := 1, maxLocals := 1, code := jdk_42_method_152_code, exceptionTable := #[], attributes := #[] }
def k7m9 : Method := { name := "coder", desc := "()B", sig := { parameters := [], returnType := some .byte }, accessFlags := 0, code := some k7c9 }
def k7c10 : Code := { maxStack := 1, maxLocals := 1, code := jdk_42_method_154_code, exceptionTable := #[], attributes := #[] }
def k7m10 : Method := { name := "isLatin1", desc := "()Z", sig := { parameters := [], returnType := some .boolean }, accessFlags := 0, code := some k7c10 }
def k7c11 : Code := { maxStack := 3, maxLocals := 2, code := jdk_42_method_155_code, exceptionTable := #[], attributes := #[] }
def k7m11 : Method := { name := "checkIndex", desc := "(II)V", sig := { parameters := [.int, .int], returnType := none }, accessFlags := 8, code := some k7c11 }
/-- java/lang/String -/
def k7 : Class := { plain "java/lang/String" (some 0) with
  accessFlags := 49
  interfaces := #[2, 3, 4, 5, 6]
  cf := some (fileOf pool7 10 #[.nestMembers #[1103]] #[{ accessFlags := 1, nameIndex := 5, descriptorIndex := 6, attributes := #[] }, { accessFlags := 1, nameIndex := 5, descriptorIndex := 1010, attributes := #[] }, { accessFlags := 1, nameIndex := 507, descriptorIndex := 334, attributes := #[] }, { accessFlags := 1, nameIndex := 692, descriptorIndex := 142, attributes := #[] }, { accessFlags := 1, nameIndex := 497, descriptorIndex := 427, attributes := #[] }, { accessFlags := 1, nameIndex := 543, descriptorIndex := 573, attributes := #[] }, { accessFlags := 1, nameIndex := 635, descriptorIndex := 765, attributes := #[] }, { accessFlags := 1, nameIndex := 635, descriptorIndex := 636, attributes := #[] }, { accessFlags := 2, nameIndex := 5, descriptorIndex := 29, attributes := #[] }, { accessFlags := 0, nameIndex := 17, descriptorIndex := 337, attributes := #[] }, { accessFlags := 0, nameIndex := 494, descriptorIndex := 142, attributes := #[] }, { accessFlags := 8, nameIndex := 501, descriptorIndex := 391, attributes := #[] }] 49 2 #[1106, 1108, 575, 1110, 1112] #[{ accessFlags := 18, nameIndex := 13, descriptorIndex := 14, attributes := #[] }, { accessFlags := 18, nameIndex := 17, descriptorIndex := 18, attributes := #[] }, { accessFlags := 2, nameIndex := 21, descriptorIndex := 22, attributes := #[] }, { accessFlags := 2, nameIndex := 25, descriptorIndex := 26, attributes := #[] }, { accessFlags := 26, nameIndex := 1116, descriptorIndex := 1117, attributes := #[] }, { accessFlags := 24, nameIndex := 40, descriptorIndex := 26, attributes := #[] }, { accessFlags := 26, nameIndex := 1101, descriptorIndex := 1102, attributes := #[] }, { accessFlags := 26, nameIndex := 1121, descriptorIndex := 1122, attributes := #[] }, { accessFlags := 25, nameIndex := 599, descriptorIndex := 600, attributes := #[] }, { accessFlags := 24, nameIndex := 1125, descriptorIndex := 18, attributes := #[] }, { accessFlags := 24, nameIndex := 1127, descriptorIndex := 18, attributes := #[] }])
  fields := #[{ name := "value", type := (.array .byte), accessFlags := 18, slot := 0, constantValue := 0 }, { name := "coder", type := .byte, accessFlags := 18, slot := 1, constantValue := 0 }, { name := "hash", type := .int, accessFlags := 2, slot := 2, constantValue := 0 }, { name := "hashIsZero", type := .boolean, accessFlags := 2, slot := 3, constantValue := 0 }, { name := "serialVersionUID", type := .long, accessFlags := 26, slot := 0, constantValue := 0 }, { name := "COMPACT_STRINGS", type := .boolean, accessFlags := 24, slot := 1, constantValue := 0 }, { name := "serialPersistentFields", type := (.array (.object "java/io/ObjectStreamField")), accessFlags := 26, slot := 2, constantValue := 0 }, { name := "REPL", type := .char, accessFlags := 26, slot := 3, constantValue := 0 }, { name := "CASE_INSENSITIVE_ORDER", type := (.object "java/util/Comparator"), accessFlags := 25, slot := 4, constantValue := 0 }, { name := "LATIN1", type := .byte, accessFlags := 24, slot := 5, constantValue := 0 }, { name := "UTF16", type := .byte, accessFlags := 24, slot := 6, constantValue := 0 }]
  methods := #[k7m0, k7m1, k7m2, k7m3, k7m4, k7m5, k7m6, k7m7, k7m8, k7m9, k7m10, k7m11]
  instanceTypes := #[(.array .byte), .byte, .int, .boolean]
  staticTypes := #[.long, .boolean, (.array (.object "java/io/ObjectStreamField")), .char, (.object "java/util/Comparator"), .byte, .byte]
  resolved := Array.replicate 1451 none
  statics := some 0 }

def pool8 : Array CpInfo := pool [(3, .class_ 4), (0, u "java/lang/String"), (1, .class_ 8), (1, u "java/lang/Object"), (0, u "<init>"), (0, u "()V"), (0, .methodref 12 13), (0, .class_ 14), (0, .nameAndType 15 16), (0, u "java/lang/StringUTF16"), (0, u "newBytesLength"), (0, u "(I)I"), (3, .integer 1073741823), (23, .fieldref 12 45), (0, .nameAndType 46 47), (0, u "$assertionsDisabled"), (0, u "Z"), (0, .methodref 12 49), (0, .nameAndType 50 51), (0, u "length"), (0, u "([B)I"), (7, .fieldref 12 60), (0, .nameAndType 61 62), (0, u "HI_BYTE_SHIFT"), (0, u "I"), (0, .fieldref 12 64), (0, .nameAndType 65 62), (0, u "LO_BYTE_SHIFT"), (1, .methodref 12 68), (0, .nameAndType 69 70), (0, u "checkIndex"), (0, u "(I[B)V"), (0, .methodref 12 72), (0, .nameAndType 73 74), (0, u "getChar"), (0, u "([BI)C"), (32, .methodref 12 108), (0, .nameAndType 109 110), (0, u "newBytesFor"), (0, u "(I)[B"), (0, .methodref 12 112), (0, .nameAndType 113 114), (0, u "putChar"), (0, u "([BII)V"), (0, .methodref 12 116), (0, .nameAndType 117 118), (0, u "compress"), (0, u "([CI[BII)I"), (0, .methodref 12 120), (0, .nameAndType 121 122), (0, u "toBytes"), (0, u "([CII)[B"), (138, u "coderFromArrayLen"), (0, u "([BI)B"), (106, .class_ 371), (1, u "java/lang/StringUTF16$LinesSpliterator"), (20, u "charAt"), (21, .methodref 3 415), (0, .nameAndType 69 416), (0, u "(II)V"), (13, u "MAX_LENGTH"), (196, .class_ 628), (0, u "java/lang/StringUTF16$CodePointsSpliterator"), (0, .class_ 630), (0, u "java/lang/StringUTF16$CharsSpliterator")] 4

def k8m0 : Method := { name := "<init>", desc := "()V", sig := { parameters := [], returnType := none }, accessFlags := 0, code := none }
def k8c1 : Code := { maxStack := 1, maxLocals := 1, code := jdk_52_method_2_code, exceptionTable := #[], attributes := #[] }
def k8m1 : Method := { name := "newBytesFor", desc := "(I)[B", sig := { parameters := [.int], returnType := some (.array .byte) }, accessFlags := 9, code := some k8c1 }
def k8c2 : Code := { maxStack := 4, maxLocals := 1, code := jdk_52_method_3_code, exceptionTable := #[], attributes := #[] }
def k8m2 : Method := { name := "newBytesLength", desc := "(I)I", sig := { parameters := [.int], returnType := some .int }, accessFlags := 9, code := some k8c2 }
def k8c3 : Code := { maxStack := 4, maxLocals := 3, code := jdk_52_method_4_code, exceptionTable := #[], attributes := #[] }
def k8m3 : Method := { name := "putChar", desc := "([BII)V", sig := { parameters := [(.array .byte), .int, .int], returnType := none }, accessFlags := 8, code := some k8c3 }
def k8c4 : Code := { maxStack := 3, maxLocals := 2, code := jdk_52_method_5_code, exceptionTable := #[], attributes := #[] }
def k8m4 : Method := { name := "getChar", desc := "([BI)C", sig := { parameters := [(.array .byte), .int], returnType := some .char }, accessFlags := 8, code := some k8c4 }
def k8c5 : Code := { maxStack := 2, maxLocals := 1, code := jdk_52_method_6_code, exceptionTable := #[], attributes := #[] }
def k8m5 : Method := { name := "length", desc := "([B)I", sig := { parameters := [(.array .byte)], returnType := some .int }, accessFlags := 9, code := some k8c5 }
def k8c6 : Code := { maxStack := 4, maxLocals := 5, code := jdk_52_method_14_code, exceptionTable := #[], attributes := #[] }
def k8m6 : Method := { name := "toBytes", desc := "([CII)[B", sig := { parameters := [(.array .char), .int, .int], returnType := some (.array .byte) }, accessFlags := 9, code := some k8c6 }
def k8c7 : Code := { maxStack := 2, maxLocals := 2, code := jdk_52_method_15_code, exceptionTable := #[], attributes := #[] }
def k8m7 : Method := { name := "coderFromArrayLen", desc := "([BI)B", sig := { parameters := [(.array .byte), .int], returnType := some .byte }, accessFlags := 8, code := some k8c7 }
def k8c8 : Code := { maxStack := 5, maxLocals := 6, code := jdk_52_method_16_code, exceptionTable := #[], attributes := #[] }
def k8m8 : Method := { name := "compress", desc := "([CII)[B", sig := { parameters := [(.array .char), .int, .int], returnType := some (.array .byte) }, accessFlags := 9, code := some k8c8 }
def k8c9 : Code := { maxStack := 3, maxLocals := 7, code := jdk_52_method_21_code, exceptionTable := #[], attributes := #[] }
def k8m9 : Method := { name := "compress", desc := "([CI[BII)I", sig := { parameters := [(.array .char), .int, (.array .byte), .int, .int], returnType := some .int }, accessFlags := 9, code := some k8c9 }
def k8c10 : Code := { maxStack := 2, maxLocals := 2, code := jdk_52_method_83_code, exceptionTable := #[], attributes := #[] }
def k8m10 : Method := { name := "charAt", desc := "([BI)C", sig := { parameters := [(.array .byte), .int], returnType := some .char }, accessFlags := 9, code := some k8c10 }
def k8c11 : Code := { maxStack := 2, maxLocals := 2, code := jdk_52_method_91_code, exceptionTable := #[], attributes := #[] }
def k8m11 : Method := { name := "checkIndex", desc := "(I[B)V", sig := { parameters := [.int, (.array .byte)], returnType := none }, accessFlags := 9, code := some k8c11 }
/-- java/lang/StringUTF16 -/
def k8 : Class := { plain "java/lang/StringUTF16" (some 0) with
  accessFlags := 48
  interfaces := #[]
  cf := some (fileOf pool8 12 #[.nestMembers #[627, 629, 369]] #[{ accessFlags := 0, nameIndex := 9, descriptorIndex := 10, attributes := #[] }, { accessFlags := 9, nameIndex := 109, descriptorIndex := 110, attributes := #[] }, { accessFlags := 9, nameIndex := 15, descriptorIndex := 16, attributes := #[] }, { accessFlags := 8, nameIndex := 113, descriptorIndex := 114, attributes := #[] }, { accessFlags := 8, nameIndex := 73, descriptorIndex := 74, attributes := #[] }, { accessFlags := 9, nameIndex := 50, descriptorIndex := 51, attributes := #[] }, { accessFlags := 9, nameIndex := 121, descriptorIndex := 122, attributes := #[] }, { accessFlags := 8, nameIndex := 261, descriptorIndex := 262, attributes := #[] }, { accessFlags := 9, nameIndex := 117, descriptorIndex := 122, attributes := #[] }, { accessFlags := 9, nameIndex := 117, descriptorIndex := 118, attributes := #[] }, { accessFlags := 9, nameIndex := 392, descriptorIndex := 74, attributes := #[] }, { accessFlags := 9, nameIndex := 69, descriptorIndex := 70, attributes := #[] }] 48 6 #[] #[{ accessFlags := 26, nameIndex := 61, descriptorIndex := 62, attributes := #[] }, { accessFlags := 26, nameIndex := 65, descriptorIndex := 62, attributes := #[] }, { accessFlags := 24, nameIndex := 430, descriptorIndex := 62, attributes := #[] }, { accessFlags := 4120, nameIndex := 46, descriptorIndex := 47, attributes := #[] }])
  fields := #[{ name := "HI_BYTE_SHIFT", type := .int, accessFlags := 26, slot := 0, constantValue := 0 }, { name := "LO_BYTE_SHIFT", type := .int, accessFlags := 26, slot := 1, constantValue := 0 }, { name := "MAX_LENGTH", type := .int, accessFlags := 24, slot := 2, constantValue := 0 }, { name := "$assertionsDisabled", type := .boolean, accessFlags := 4120, slot := 3, constantValue := 0 }]
  methods := #[k8m0, k8m1, k8m2, k8m3, k8m4, k8m5, k8m6, k8m7, k8m8, k8m9, k8m10, k8m11]
  instanceTypes := #[]
  staticTypes := #[.int, .int, .int, .boolean]
  resolved := Array.replicate 635 none
  statics := some 1 }

def pool9 : Array CpInfo := pool [(1, .class_ 2), (0, u "com/example/linepack/linepack/Values"), (1, .class_ 6), (1, u "java/lang/Object"), (0, u "<init>"), (0, u "()V"), (6, .class_ 16), (0, u "java/lang/String"), (33, u "(Ljava/lang/String;Ljava/lang/String;)Ljava/lang/String;"), (3, .methodref 15 55), (0, .nameAndType 56 57), (0, u "isEmpty"), (0, u "()Z"), (3, .methodref 15 62), (0, .nameAndType 63 64), (0, u "length"), (0, u "()I"), (0, .methodref 15 66), (0, .nameAndType 67 68), (0, u "charAt"), (0, u "(I)C"), (1, .string 71), (0, u "=+-@"), (0, .methodref 15 73), (0, .nameAndType 74 75), (0, u "indexOf"), (0, u "(I)I"), (125, u "BYTE_ORDER"), (0, u "Ljava/util/Comparator;"), (0, u "DATE"), (0, u "Ljava/lang/String;"), (1, u "MONTH"), (0, u "TIME_OF_DAY"), (0, u "DATE_TIME"), (0, u "FORMULA_STARTS"), (0, u "DELETE"), (0, u "C"), (3, u "MONEY_SCALE"), (0, u "I"), (1, u "BELOW_ZERO"), (9, u "id")] 94

def k9m0 : Method := { name := "<init>", desc := "()V", sig := { parameters := [], returnType := none }, accessFlags := 2, code := none }
def k9c1 : Code := { maxStack := 4, maxLocals := 4, code := prog_15_method_3_code, exceptionTable := #[], attributes := #[] }
def k9m1 : Method := { name := "id", desc := "(Ljava/lang/String;Ljava/lang/String;)Ljava/lang/String;", sig := { parameters := [(.object "java/lang/String"), (.object "java/lang/String")], returnType := some (.object "java/lang/String") }, accessFlags := 8, code := some k9c1 }
/-- com/example/linepack/linepack/Values -/
def k9 : Class := { plain "com/example/linepack/linepack/Values" (some 0) with
  accessFlags := 48
  interfaces := #[]
  cf := some (fileOf pool9 1 #[] #[{ accessFlags := 2, nameIndex := 7, descriptorIndex := 8, attributes := #[] }, { accessFlags := 8, nameIndex := 228, descriptorIndex := 50, attributes := #[] }] 48 4 #[] #[{ accessFlags := 26, nameIndex := 203, descriptorIndex := 204, attributes := #[] }, { accessFlags := 26, nameIndex := 206, descriptorIndex := 204, attributes := #[] }, { accessFlags := 26, nameIndex := 207, descriptorIndex := 204, attributes := #[] }, { accessFlags := 26, nameIndex := 208, descriptorIndex := 204, attributes := #[] }, { accessFlags := 26, nameIndex := 209, descriptorIndex := 204, attributes := #[] }, { accessFlags := 26, nameIndex := 210, descriptorIndex := 211, attributes := #[] }, { accessFlags := 24, nameIndex := 201, descriptorIndex := 202, attributes := #[] }, { accessFlags := 24, nameIndex := 215, descriptorIndex := 216, attributes := #[] }, { accessFlags := 26, nameIndex := 218, descriptorIndex := 204, attributes := #[] }])
  fields := #[{ name := "DATE", type := (.object "java/lang/String"), accessFlags := 26, slot := 0, constantValue := 0 }, { name := "MONTH", type := (.object "java/lang/String"), accessFlags := 26, slot := 1, constantValue := 0 }, { name := "TIME_OF_DAY", type := (.object "java/lang/String"), accessFlags := 26, slot := 2, constantValue := 0 }, { name := "DATE_TIME", type := (.object "java/lang/String"), accessFlags := 26, slot := 3, constantValue := 0 }, { name := "FORMULA_STARTS", type := (.object "java/lang/String"), accessFlags := 26, slot := 4, constantValue := 0 }, { name := "DELETE", type := .char, accessFlags := 26, slot := 5, constantValue := 0 }, { name := "BYTE_ORDER", type := (.object "java/util/Comparator"), accessFlags := 24, slot := 6, constantValue := 0 }, { name := "MONEY_SCALE", type := .int, accessFlags := 24, slot := 7, constantValue := 0 }, { name := "BELOW_ZERO", type := (.object "java/lang/String"), accessFlags := 26, slot := 8, constantValue := 0 }]
  methods := #[k9m0, k9m1]
  instanceTypes := #[]
  staticTypes := #[(.object "java/lang/String"), (.object "java/lang/String"), (.object "java/lang/String"), (.object "java/lang/String"), (.object "java/lang/String"), .char, (.object "java/util/Comparator"), .int, (.object "java/lang/String")]
  resolved := Array.replicate 323 none
  statics := none }

def pool10 : Array CpInfo := pool [(1, .class_ 2), (0, u "java/lang/String"), (1, .class_ 6), (1, u "java/lang/Object"), (0, u "<init>"), (0, u "()V"), (0, .methodref 1 10), (0, .nameAndType 11 12), (0, u "checkIndex"), (0, u "(II)V"), (1, .class_ 16), (1, u "java/lang/StringLatin1"), (21, .methodref 39 40), (0, .class_ 41), (0, .nameAndType 42 43), (0, u "java/lang/Math"), (0, u "min"), (0, u "(II)I"), (9, u "([BI)C"), (34, .methodref 14 89), (0, .nameAndType 90 91), (0, u "canEncode"), (0, u "(I)Z"), (0, .methodref 39 93), (0, .nameAndType 94 43), (0, u "max"), (0, .methodref 14 96), (0, .nameAndType 97 98), (0, u "indexOfChar"), (0, u "([BIII)I"), (2, u "indexOf"), (19, u "$assertionsDisabled"), (0, u "Z"), (98, .class_ 223), (1, u "java/lang/StringLatin1$LinesSpliterator"), (28, u "charAt"), (137, .class_ 391), (0, u "java/lang/StringLatin1$CharsSpliterator")] 3

def k10m0 : Method := { name := "<init>", desc := "()V", sig := { parameters := [], returnType := none }, accessFlags := 0, code := none }
def k10c1 : Code := { maxStack := 2, maxLocals := 2, code := jdk_43_method_2_code, exceptionTable := #[], attributes := #[] }
def k10m1 : Method := { name := "charAt", desc := "([BI)C", sig := { parameters := [(.array .byte), .int], returnType := some .char }, accessFlags := 9, code := some k10c1 }
def k10c2 : Code := { maxStack := 2, maxLocals := 1, code := jdk_43_method_4_code, exceptionTable := #[], attributes := #[] }
def k10m2 : Method := { name := "canEncode", desc := "(I)Z", sig := { parameters := [.int], returnType := some .boolean }, accessFlags := 9, code := some k10c2 }
def k10c3 : Code := { maxStack := 4, maxLocals := 4, code := jdk_43_method_22_code, exceptionTable := #[], attributes := #[] }
def k10m3 : Method := { name := "indexOf", desc := "([BIII)I", sig := { parameters := [(.array .byte), .int, .int, .int], returnType := some .int }, accessFlags := 9, code := some k10c3 }
def k10c4 : Code := { maxStack := 2, maxLocals := 6, code := jdk_43_method_23_code, exceptionTable := #[], attributes := #[] }
def k10m4 : Method := { name := "indexOfChar", desc := "([BIII)I", sig := { parameters := [(.array .byte), .int, .int, .int], returnType := some .int }, accessFlags := 10, code := some k10c4 }
/-- java/lang/StringLatin1 -/
def k10 : Class := { plain "java/lang/StringLatin1" (some 0) with
  accessFlags := 48
  interfaces := #[]
  cf := some (fileOf pool10 14 #[.nestMembers #[390, 221]] #[{ accessFlags := 0, nameIndex := 7, descriptorIndex := 8, attributes := #[] }, { accessFlags := 9, nameIndex := 252, descriptorIndex := 53, attributes := #[] }, { accessFlags := 9, nameIndex := 90, descriptorIndex := 91, attributes := #[] }, { accessFlags := 9, nameIndex := 101, descriptorIndex := 98, attributes := #[] }, { accessFlags := 10, nameIndex := 97, descriptorIndex := 98, attributes := #[] }] 48 4 #[] #[{ accessFlags := 4120, nameIndex := 121, descriptorIndex := 122, attributes := #[] }])
  fields := #[{ name := "$assertionsDisabled", type := .boolean, accessFlags := 4120, slot := 0, constantValue := 0 }]
  methods := #[k10m0, k10m1, k10m2, k10m3, k10m4]
  instanceTypes := #[]
  staticTypes := #[.boolean]
  resolved := Array.replicate 395 none
  statics := none }

def pool11 : Array CpInfo := pool [(2, .class_ 4), (1, u "java/lang/Object"), (0, u "<init>"), (0, u "()V"), (17, .class_ 26), (1, u "jdk/internal/util/Preconditions"), (6, u "checkIndex"), (21, .class_ 56), (0, u "jdk/internal/util/Preconditions$4"), (57, .class_ 115), (0, u "jdk/internal/util/Preconditions$1"), (7, u "SIOOBE_FORMATTER"), (0, u "Ljava/util/function/BiFunction;"), (0, .class_ 126), (0, u "jdk/internal/util/Preconditions$2"), (3, u "AIOOBE_FORMATTER"), (0, .class_ 132), (0, u "jdk/internal/util/Preconditions$3"), (3, u "IOOBE_FORMATTER"), (41, u "(IILjava/util/function/BiFunction;)I")] 15

def k11m0 : Method := { name := "<init>", desc := "()V", sig := { parameters := [], returnType := none }, accessFlags := 1, code := none }
def k11c1 : Code := { maxStack := 3, maxLocals := 3, code := jdk_41_method_11_code, exceptionTable := #[], attributes := #[] }
def k11m1 : Method := { name := "checkIndex", desc := "(IILjava/util/function/BiFunction;)I", sig := { parameters := [.int, .int, (.object "java/util/function/BiFunction")], returnType := some .int }, accessFlags := 9, code := some k11c1 }
/-- jdk/internal/util/Preconditions -/
def k11 : Class := { plain "jdk/internal/util/Preconditions" (some 0) with
  accessFlags := 33
  interfaces := #[]
  cf := some (fileOf pool11 24 #[.nestMembers #[55, 131, 125, 114]] #[{ accessFlags := 1, nameIndex := 5, descriptorIndex := 6, attributes := #[] }, { accessFlags := 9, nameIndex := 33, descriptorIndex := 178, attributes := #[] }] 33 2 #[] #[{ accessFlags := 25, nameIndex := 123, descriptorIndex := 124, attributes := #[] }, { accessFlags := 25, nameIndex := 130, descriptorIndex := 124, attributes := #[] }, { accessFlags := 25, nameIndex := 136, descriptorIndex := 124, attributes := #[] }])
  fields := #[{ name := "SIOOBE_FORMATTER", type := (.object "java/util/function/BiFunction"), accessFlags := 25, slot := 0, constantValue := 0 }, { name := "AIOOBE_FORMATTER", type := (.object "java/util/function/BiFunction"), accessFlags := 25, slot := 1, constantValue := 0 }, { name := "IOOBE_FORMATTER", type := (.object "java/util/function/BiFunction"), accessFlags := 25, slot := 2, constantValue := 0 }]
  methods := #[k11m0, k11m1]
  instanceTypes := #[]
  staticTypes := #[(.object "java/util/function/BiFunction"), (.object "java/util/function/BiFunction"), (.object "java/util/function/BiFunction")]
  resolved := Array.replicate 194 none
  statics := some 2 }

def pool12 : Array CpInfo := pool [(1, .class_ 2), (0, u "java/lang/Math"), (1, .class_ 6), (1, u "java/lang/Object"), (0, u "<init>"), (0, u "()V"), (89, .class_ 100), (1, u "java/lang/Math$RandomNumberGeneratorHolder"), (71, u "negativeZeroFloatBits"), (0, u "J"), (2, u "negativeZeroDoubleBits"), (21, u "max"), (2, u "min"), (43, u "$assertionsDisabled"), (0, u "Z"), (88, u "(II)I"), (2, u "twoToTheDoubleScaleDown"), (0, u "D"), (4, u "twoToTheDoubleScaleUp"), (9, u "E"), (3, u "PI"), (2, u "TAU"), (2, u "DEGREES_TO_RADIANS"), (0, u "RADIANS_TO_DEGREES")] 94

def k12m0 : Method := { name := "<init>", desc := "()V", sig := { parameters := [], returnType := none }, accessFlags := 2, code := none }
def k12c1 : Code := { maxStack := 2, maxLocals := 2, code := jdk_29_method_65_code, exceptionTable := #[], attributes := #[] }
def k12m1 : Method := { name := "max", desc := "(II)I", sig := { parameters := [.int, .int], returnType := some .int }, accessFlags := 9, code := some k12c1 }
def k12c2 : Code := { maxStack := 2, maxLocals := 2, code := jdk_29_method_69_code, exceptionTable := #[], attributes := #[] }
def k12m2 : Method := { name := "min", desc := "(II)I", sig := { parameters := [.int, .int], returnType := some .int }, accessFlags := 9, code := some k12c2 }
/-- java/lang/Math -/
def k12 : Class := { plain "java/lang/Math" (some 0) with
  accessFlags := 49
  interfaces := #[]
  cf := some (fileOf pool12 1 #[.nestMembers #[98]] #[{ accessFlags := 2, nameIndex := 7, descriptorIndex := 8, attributes := #[] }, { accessFlags := 9, nameIndex := 198, descriptorIndex := 335, attributes := #[] }, { accessFlags := 9, nameIndex := 201, descriptorIndex := 335, attributes := #[] }] 49 4 #[] #[{ accessFlags := 25, nameIndex := 354, descriptorIndex := 339, attributes := #[] }, { accessFlags := 25, nameIndex := 358, descriptorIndex := 339, attributes := #[] }, { accessFlags := 25, nameIndex := 361, descriptorIndex := 339, attributes := #[] }, { accessFlags := 26, nameIndex := 364, descriptorIndex := 339, attributes := #[] }, { accessFlags := 26, nameIndex := 365, descriptorIndex := 339, attributes := #[] }, { accessFlags := 26, nameIndex := 172, descriptorIndex := 173, attributes := #[] }, { accessFlags := 26, nameIndex := 176, descriptorIndex := 173, attributes := #[] }, { accessFlags := 8, nameIndex := 344, descriptorIndex := 339, attributes := #[] }, { accessFlags := 8, nameIndex := 338, descriptorIndex := 339, attributes := #[] }, { accessFlags := 4120, nameIndex := 245, descriptorIndex := 246, attributes := #[] }])
  fields := #[{ name := "E", type := .double, accessFlags := 25, slot := 0, constantValue := 0 }, { name := "PI", type := .double, accessFlags := 25, slot := 1, constantValue := 0 }, { name := "TAU", type := .double, accessFlags := 25, slot := 2, constantValue := 0 }, { name := "DEGREES_TO_RADIANS", type := .double, accessFlags := 26, slot := 3, constantValue := 0 }, { name := "RADIANS_TO_DEGREES", type := .double, accessFlags := 26, slot := 4, constantValue := 0 }, { name := "negativeZeroFloatBits", type := .long, accessFlags := 26, slot := 5, constantValue := 0 }, { name := "negativeZeroDoubleBits", type := .long, accessFlags := 26, slot := 6, constantValue := 0 }, { name := "twoToTheDoubleScaleUp", type := .double, accessFlags := 8, slot := 7, constantValue := 0 }, { name := "twoToTheDoubleScaleDown", type := .double, accessFlags := 8, slot := 8, constantValue := 0 }, { name := "$assertionsDisabled", type := .boolean, accessFlags := 4120, slot := 9, constantValue := 0 }]
  methods := #[k12m0, k12m1, k12m2]
  instanceTypes := #[]
  staticTypes := #[.double, .double, .double, .double, .double, .long, .long, .double, .double, .boolean]
  resolved := Array.replicate 460 none
  statics := none }

def pool13 : Array CpInfo := pool [(9, u "<init>"), (6, .class_ 18), (1, u "java/lang/Object"), (0, u "()V"), (1, .class_ 23), (1, u "jdk/internal/util/ArraysSupport"), (0, u "LOG2_ARRAY_LONG_INDEX_SCALE"), (0, u "I"), (2, u "U"), (0, u "Ljdk/internal/misc/Unsafe;"), (8, u "BIG_ENDIAN"), (0, u "Z"), (8, u "LOG2_BYTE_BIT_SIZE"), (4, u "LOG2_ARRAY_INT_INDEX_SCALE"), (54, u "JLA"), (0, u "Ljdk/internal/access/JavaLangAccess;"), (11, u "LOG2_ARRAY_BOOLEAN_INDEX_SCALE"), (9, u "LOG2_ARRAY_BYTE_INDEX_SCALE"), (5, u "LOG2_ARRAY_CHAR_INDEX_SCALE"), (5, u "LOG2_ARRAY_SHORT_INDEX_SCALE"), (18, u "LOG2_ARRAY_FLOAT_INDEX_SCALE"), (24, u "LOG2_ARRAY_DOUBLE_INDEX_SCALE"), (89, u "T_BOOLEAN"), (2, u "T_CHAR"), (1, u "T_FLOAT"), (1, u "T_DOUBLE"), (1, u "T_BYTE"), (1, u "T_SHORT"), (1, u "T_INT"), (1, u "T_LONG"), (1, u "SOFT_MAX_ARRAY_LENGTH")] 83

def k13m0 : Method := { name := "<init>", desc := "()V", sig := { parameters := [], returnType := none }, accessFlags := 2, code := none }
/-- jdk/internal/util/ArraysSupport -/
def k13 : Class := { plain "jdk/internal/util/ArraysSupport" (some 0) with
  accessFlags := 33
  interfaces := #[]
  cf := some (fileOf pool13 21 #[] #[{ accessFlags := 2, nameIndex := 9, descriptorIndex := 19, attributes := #[] }] 33 16 #[] #[{ accessFlags := 24, nameIndex := 28, descriptorIndex := 29, attributes := #[] }, { accessFlags := 26, nameIndex := 38, descriptorIndex := 39, attributes := #[] }, { accessFlags := 25, nameIndex := 121, descriptorIndex := 25, attributes := #[] }, { accessFlags := 25, nameIndex := 131, descriptorIndex := 25, attributes := #[] }, { accessFlags := 25, nameIndex := 137, descriptorIndex := 25, attributes := #[] }, { accessFlags := 25, nameIndex := 143, descriptorIndex := 25, attributes := #[] }, { accessFlags := 25, nameIndex := 53, descriptorIndex := 25, attributes := #[] }, { accessFlags := 25, nameIndex := 24, descriptorIndex := 25, attributes := #[] }, { accessFlags := 25, nameIndex := 162, descriptorIndex := 25, attributes := #[] }, { accessFlags := 25, nameIndex := 187, descriptorIndex := 25, attributes := #[] }, { accessFlags := 26, nameIndex := 48, descriptorIndex := 25, attributes := #[] }, { accessFlags := 25, nameIndex := 277, descriptorIndex := 25, attributes := #[] }, { accessFlags := 25, nameIndex := 280, descriptorIndex := 25, attributes := #[] }, { accessFlags := 25, nameIndex := 282, descriptorIndex := 25, attributes := #[] }, { accessFlags := 25, nameIndex := 284, descriptorIndex := 25, attributes := #[] }, { accessFlags := 25, nameIndex := 286, descriptorIndex := 25, attributes := #[] }, { accessFlags := 25, nameIndex := 288, descriptorIndex := 25, attributes := #[] }, { accessFlags := 25, nameIndex := 290, descriptorIndex := 25, attributes := #[] }, { accessFlags := 25, nameIndex := 292, descriptorIndex := 25, attributes := #[] }, { accessFlags := 26, nameIndex := 108, descriptorIndex := 109, attributes := #[] }, { accessFlags := 25, nameIndex := 294, descriptorIndex := 25, attributes := #[] }])
  fields := #[{ name := "U", type := (.object "jdk/internal/misc/Unsafe"), accessFlags := 24, slot := 0, constantValue := 0 }, { name := "BIG_ENDIAN", type := .boolean, accessFlags := 26, slot := 1, constantValue := 0 }, { name := "LOG2_ARRAY_BOOLEAN_INDEX_SCALE", type := .int, accessFlags := 25, slot := 2, constantValue := 0 }, { name := "LOG2_ARRAY_BYTE_INDEX_SCALE", type := .int, accessFlags := 25, slot := 3, constantValue := 0 }, { name := "LOG2_ARRAY_CHAR_INDEX_SCALE", type := .int, accessFlags := 25, slot := 4, constantValue := 0 }, { name := "LOG2_ARRAY_SHORT_INDEX_SCALE", type := .int, accessFlags := 25, slot := 5, constantValue := 0 }, { name := "LOG2_ARRAY_INT_INDEX_SCALE", type := .int, accessFlags := 25, slot := 6, constantValue := 0 }, { name := "LOG2_ARRAY_LONG_INDEX_SCALE", type := .int, accessFlags := 25, slot := 7, constantValue := 0 }, { name := "LOG2_ARRAY_FLOAT_INDEX_SCALE", type := .int, accessFlags := 25, slot := 8, constantValue := 0 }, { name := "LOG2_ARRAY_DOUBLE_INDEX_SCALE", type := .int, accessFlags := 25, slot := 9, constantValue := 0 }, { name := "LOG2_BYTE_BIT_SIZE", type := .int, accessFlags := 26, slot := 10, constantValue := 0 }, { name := "T_BOOLEAN", type := .int, accessFlags := 25, slot := 11, constantValue := 0 }, { name := "T_CHAR", type := .int, accessFlags := 25, slot := 12, constantValue := 0 }, { name := "T_FLOAT", type := .int, accessFlags := 25, slot := 13, constantValue := 0 }, { name := "T_DOUBLE", type := .int, accessFlags := 25, slot := 14, constantValue := 0 }, { name := "T_BYTE", type := .int, accessFlags := 25, slot := 15, constantValue := 0 }, { name := "T_SHORT", type := .int, accessFlags := 25, slot := 16, constantValue := 0 }, { name := "T_INT", type := .int, accessFlags := 25, slot := 17, constantValue := 0 }, { name := "T_LONG", type := .int, accessFlags := 25, slot := 18, constantValue := 0 }, { name := "JLA", type := (.object "jdk/internal/access/JavaLangAccess"), accessFlags := 26, slot := 19, constantValue := 0 }, { name := "SOFT_MAX_ARRAY_LENGTH", type := .int, accessFlags := 25, slot := 20, constantValue := 0 }]
  methods := #[k13m0]
  instanceTypes := #[]
  staticTypes := #[(.object "jdk/internal/misc/Unsafe"), .boolean, .int, .int, .int, .int, .int, .int, .int, .int, .int, .int, .int, .int, .int, .int, .int, .int, .int, (.object "jdk/internal/access/JavaLangAccess"), .int]
  resolved := Array.replicate 378 none
  statics := none }

def pool14 : Array CpInfo := pool [(1, u "java/lang/Cloneable"), (0, .class_ 1), (0, u "java/lang/Object"), (0, .class_ 3)] 3

/-- java/lang/Cloneable -/
def k14 : Class := { plain "java/lang/Cloneable" (some 0) with
  accessFlags := 1537
  interfaces := #[]
  cf := some (fileOf pool14 2 #[] #[] 1537 4 #[] #[])
  fields := #[]
  methods := #[]
  instanceTypes := #[]
  staticTypes := #[]
  resolved := Array.replicate 8 none
  statics := none }

/-- the primitive byte -/
def k15 : Class := { plain "byte" none with kind := .primitive 'B', accessFlags := 0x411 }
/-- [B -/
def k16 : Class := { plain "[B" (some 0) with kind := .array 15 .byte, interfaces := #[14, 2], accessFlags := 1041 }

/-- the primitive char -/
def k17 : Class := { plain "char" none with kind := .primitive 'C', accessFlags := 0x411 }
/-- [C -/
def k18 : Class := { plain "[C" (some 0) with kind := .array 17 .char, interfaces := #[14, 2], accessFlags := 1041 }

/-- the primitive int -/
def k19 : Class := { plain "int" none with kind := .primitive 'I', accessFlags := 0x411 }
/-- [I -/
def k20 : Class := { plain "[I" (some 0) with kind := .array 19 .int, interfaces := #[14, 2], accessFlags := 1041 }

def heap : Heap := #[{ cls := 7, slots := #[.long 0, .int 1, .null, .int 0, .null, .int 0, .int 0], vm := .statics 7 },
  { cls := 8, slots := #[.int 0, .int 8, .int 0, .int 1], vm := .statics 8 },
  { cls := 11, slots := #[.null, .null, .null], vm := .statics 11 }]
def classes : Array Class := #[k0, k1, k2, k3, k4, k5, k6, k7, k8, k9, k10, k11, k12, k13, k14, k15, k16, k17, k18, k19, k20]
def interned : List (Array UInt16 × Addr) := []
def slotsUsed : Nat := 14
def theMethod : MethodId := ⟨1, 1⟩
def args0 : Array Value := #[.int 1, .int 65, .int 66, .int 67, .int 68]
def aboutOver (below : List Frame) : State where
  vm := { classes := classes, interned := interned.toArray }
  heap := heap
  slotsUsed := slotsUsed
  threads := #[{ frames := .invoking theMethod args0 :: below }]
def below0 : List Frame := [.native { method := ⟨0, 0⟩, args := #[] }]
def about1 : State := aboutOver below0
def p0 : Program := .bare "" "" ""
def e0 : Env := launch0.env 0 0 0
theorem w_frames : about1.frames = Frame.invoking theMethod args0 :: below0 := rfl
set_option maxRecDepth 65536 in
theorem w_args : argsFit about1.vm theMethod args0 = true := by decide +kernel
set_option maxRecDepth 65536 in
theorem w_heap : heapFits about1 = true := by decide +kernel
set_option maxRecDepth 65536 in
theorem w_runnable : about1.curStatus? = some .runnable := by decide +kernel
set_option maxRecDepth 65536 in
theorem w_alone : about1.alone = true := by decide +kernel
set_option maxRecDepth 65536 in
theorem w_named : about1.methodNamed? x = some theMethod := by decide +kernel
set_option maxRecDepth 65536 in
theorem w_hears : about1.hears theMethod below0 = true := by decide +kernel
set_option maxRecDepth 65536 in
theorem w_ripe : about1.ripe theMethod args0 below0 = true := by decide +kernel
theorem w_running : about1.status = .running := rfl
set_option maxRecDepth 65536 in
theorem w_room : about1.hasRoom e0.platform room_1 = true :=
  launch0.hasRoom_least _ room_1 (by decide +kernel) (by decide +kernel) (by decide +kernel) (by decide +kernel) (by decide +kernel) (by decide +kernel)
theorem allAtoms_all (ts : List Jvm.Cond) (a : Array Jvm.Value) (st : Jvm.State) : (allAtoms ts).before a st = ts.all (fun c => c.before a st) := by
  induction ts with
  | nil => rfl
  | cons c t ih =>
    show (Jvm.Cond.and c (allAtoms t)).before a st = _
    rw [Jvm.Cond.before_and, ih, List.all_cons]
def words1 : List Jvm.Cond := Jvm.Cond.code x code maxLocals ret :: tables_1
/-- a 'code' word, met by the world's own term for the bytes: nothing is compared byte by byte -/
theorem code_word {y : MethodName} {bytes : ByteArray} {mx : Nat} {rt : Option FieldType} {a : Array Value} {s : State} {m : MethodId} {meth : Method} {c : Code} (h1 : s.methodNamed? y = some m) (h2 : s.vm.method? m = some meth) (h3 : meth.code = some c) (h4 : c.code = bytes)
    (h5 : (c.maxLocals == mx && c.exceptionTable.isEmpty && decide (c.maxStack ≤ mostOperands) && decide (meth.sig.returnType = rt) && !meth.locks && decide (parseMethodDescriptor y.desc = some meth.sig)) = true) : (Jvm.Cond.code y bytes mx rt).before a s = true := by
  simp only [Bool.and_eq_true, beq_iff_eq, Bool.not_eq_true', decide_eq_true_eq] at h5
  obtain ⟨⟨⟨⟨⟨g1, g2⟩, g3⟩, g4⟩, g5⟩, g6⟩ := h5
  simp [Cond.before, Cond.holds, Cond.value, h1, h2, h3, h4, g1, g2, g3, g4, g5, g6]
def isCode : Jvm.Cond → Bool
  | .code _ _ _ _ => true
  | _ => false
theorem all_split {L : List Jvm.Cond} {P : Jvm.Cond → Bool} (h1 : L.all (fun c => isCode c || P c) = true) (h2 : ∀ c ∈ L.filter isCode, P c = true) : L.all P = true := by
  refine List.all_eq_true.mpr fun c hc => ?_
  have h := List.all_eq_true.mp h1 c hc
  rcases Bool.eq_false_or_eq_true (isCode c) with hi | hi
  · exact h2 c (List.mem_filter.mpr ⟨hc, hi⟩)
  · simpa [hi] using h
set_option maxRecDepth 65536 in
theorem w_c0 : (Jvm.Cond.code x code maxLocals ret).before args0 about1 = true := code_word (m := ⟨1, 1⟩) (meth := k1m1) (c := k1c1) (by decide +kernel) rfl rfl rfl (by decide +kernel)
set_option maxRecDepth 65536 in
theorem w_c1 : (Jvm.Cond.code ({ cls := "com/example/linepack/linepack/ValuesIdPinLaw", name := "plain", desc := "(C)Z" } : Jvm.MethodName) method_3_code (1 : Nat) (Option.some Jvm.ClassFile.FieldType.boolean)).before args0 about1 = true := code_word (m := ⟨1, 2⟩) (meth := k1m2) (c := k1c2) (by decide +kernel) rfl rfl rfl (by decide +kernel)
set_option maxRecDepth 65536 in
theorem w_c2 : (Jvm.Cond.code ({ cls := "com/example/linepack/linepack/ValuesIdPinLaw", name := "formulaStart", desc := "(C)Z" } : Jvm.MethodName) method_4_code (1 : Nat) (Option.some Jvm.ClassFile.FieldType.boolean)).before args0 about1 = true := code_word (m := ⟨1, 3⟩) (meth := k1m3) (c := k1c3) (by decide +kernel) rfl rfl rfl (by decide +kernel)
set_option maxRecDepth 65536 in
theorem w_c3 : (Jvm.Cond.code ({ cls := "com/example/linepack/linepack/ValuesIdPinLaw", name := "make", desc := "(ICCCC)Ljava/lang/String;" } : Jvm.MethodName) method_5_code (5 : Nat) (Option.some (Jvm.ClassFile.FieldType.object "java/lang/String"))).before args0 about1 = true := code_word (m := ⟨1, 4⟩) (meth := k1m4) (c := k1c4) (by decide +kernel) rfl rfl rfl (by decide +kernel)
set_option maxRecDepth 65536 in
theorem w_c4 : (Jvm.Cond.code ({ cls := "java/lang/String", name := "<init>", desc := "([C)V" } : Jvm.MethodName) jdk_42_method_3_code (2 : Nat) (Option.none : Option Jvm.ClassFile.FieldType)).before args0 about1 = true := code_word (m := ⟨7, 1⟩) (meth := k7m1) (c := k7c1) (by decide +kernel) rfl rfl rfl (by decide +kernel)
set_option maxRecDepth 65536 in
theorem w_c5 : (Jvm.Cond.code ({ cls := "java/lang/String", name := "<init>", desc := "([CIILjava/lang/Void;)V" } : Jvm.MethodName) jdk_42_method_149_code (6 : Nat) (Option.none : Option Jvm.ClassFile.FieldType)).before args0 about1 = true := code_word (m := ⟨7, 8⟩) (meth := k7m8) (c := k7c8) (by decide +kernel) rfl rfl rfl (by decide +kernel)
set_option maxRecDepth 65536 in
theorem w_c6 : (Jvm.Cond.code ({ cls := "java/lang/Object", name := "<init>", desc := "()V" } : Jvm.MethodName) object_method_1_code (1 : Nat) (Option.none : Option Jvm.ClassFile.FieldType)).before args0 about1 = true := code_word (m := ⟨0, 0⟩) (meth := k0m0) (c := k0c0) (by decide +kernel) rfl rfl rfl (by decide +kernel)
set_option maxRecDepth 65536 in
theorem w_c7 : (Jvm.Cond.code ({ cls := "java/lang/StringUTF16", name := "compress", desc := "([CII)[B" } : Jvm.MethodName) jdk_52_method_16_code (6 : Nat) (Option.some (Jvm.ClassFile.FieldType.array Jvm.ClassFile.FieldType.byte))).before args0 about1 = true := code_word (m := ⟨8, 8⟩) (meth := k8m8) (c := k8c8) (by decide +kernel) rfl rfl rfl (by decide +kernel)
set_option maxRecDepth 65536 in
theorem w_c8 : (Jvm.Cond.code ({ cls := "java/lang/StringUTF16", name := "compress", desc := "([CI[BII)I" } : Jvm.MethodName) jdk_52_method_21_code (7 : Nat) (Option.some Jvm.ClassFile.FieldType.int)).before args0 about1 = true := code_word (m := ⟨8, 9⟩) (meth := k8m9) (c := k8c9) (by decide +kernel) rfl rfl rfl (by decide +kernel)
set_option maxRecDepth 65536 in
theorem w_c9 : (Jvm.Cond.code ({ cls := "java/lang/StringUTF16", name := "coderFromArrayLen", desc := "([BI)B" } : Jvm.MethodName) jdk_52_method_15_code (2 : Nat) (Option.some Jvm.ClassFile.FieldType.byte)).before args0 about1 = true := code_word (m := ⟨8, 7⟩) (meth := k8m7) (c := k8c7) (by decide +kernel) rfl rfl rfl (by decide +kernel)
set_option maxRecDepth 65536 in
theorem w_c10 : (Jvm.Cond.code ({ cls := "com/example/linepack/linepack/Values", name := "id", desc := "(Ljava/lang/String;Ljava/lang/String;)Ljava/lang/String;" } : Jvm.MethodName) prog_15_method_3_code (4 : Nat) (Option.some (Jvm.ClassFile.FieldType.object "java/lang/String"))).before args0 about1 = true := code_word (m := ⟨9, 1⟩) (meth := k9m1) (c := k9c1) (by decide +kernel) rfl rfl rfl (by decide +kernel)
set_option maxRecDepth 65536 in
theorem w_c11 : (Jvm.Cond.code ({ cls := "java/lang/String", name := "isEmpty", desc := "()Z" } : Jvm.MethodName) jdk_42_method_55_code (1 : Nat) (Option.some Jvm.ClassFile.FieldType.boolean)).before args0 about1 = true := code_word (m := ⟨7, 3⟩) (meth := k7m3) (c := k7c3) (by decide +kernel) rfl rfl rfl (by decide +kernel)
set_option maxRecDepth 65536 in
theorem w_c12 : (Jvm.Cond.code ({ cls := "java/lang/String", name := "length", desc := "()I" } : Jvm.MethodName) jdk_42_method_54_code (1 : Nat) (Option.some Jvm.ClassFile.FieldType.int)).before args0 about1 = true := code_word (m := ⟨7, 2⟩) (meth := k7m2) (c := k7c2) (by decide +kernel) rfl rfl rfl (by decide +kernel)
set_option maxRecDepth 65536 in
theorem w_c13 : (Jvm.Cond.code ({ cls := "java/lang/String", name := "coder", desc := "()B" } : Jvm.MethodName) jdk_42_method_152_code (1 : Nat) (Option.some Jvm.ClassFile.FieldType.byte)).before args0 about1 = true := code_word (m := ⟨7, 9⟩) (meth := k7m9) (c := k7c9) (by decide +kernel) rfl rfl rfl (by decide +kernel)
set_option maxRecDepth 65536 in
theorem w_c14 : (Jvm.Cond.code ({ cls := "java/lang/String", name := "charAt", desc := "(I)C" } : Jvm.MethodName) jdk_42_method_56_code (2 : Nat) (Option.some Jvm.ClassFile.FieldType.char)).before args0 about1 = true := code_word (m := ⟨7, 4⟩) (meth := k7m4) (c := k7c4) (by decide +kernel) rfl rfl rfl (by decide +kernel)
set_option maxRecDepth 65536 in
theorem w_c15 : (Jvm.Cond.code ({ cls := "java/lang/String", name := "isLatin1", desc := "()Z" } : Jvm.MethodName) jdk_42_method_154_code (1 : Nat) (Option.some Jvm.ClassFile.FieldType.boolean)).before args0 about1 = true := code_word (m := ⟨7, 10⟩) (meth := k7m10) (c := k7c10) (by decide +kernel) rfl rfl rfl (by decide +kernel)
set_option maxRecDepth 65536 in
theorem w_c16 : (Jvm.Cond.code ({ cls := "java/lang/StringLatin1", name := "charAt", desc := "([BI)C" } : Jvm.MethodName) jdk_43_method_2_code (2 : Nat) (Option.some Jvm.ClassFile.FieldType.char)).before args0 about1 = true := code_word (m := ⟨10, 1⟩) (meth := k10m1) (c := k10c1) (by decide +kernel) rfl rfl rfl (by decide +kernel)
set_option maxRecDepth 65536 in
theorem w_c17 : (Jvm.Cond.code ({ cls := "java/lang/String", name := "checkIndex", desc := "(II)V" } : Jvm.MethodName) jdk_42_method_155_code (2 : Nat) (Option.none : Option Jvm.ClassFile.FieldType)).before args0 about1 = true := code_word (m := ⟨7, 11⟩) (meth := k7m11) (c := k7c11) (by decide +kernel) rfl rfl rfl (by decide +kernel)
set_option maxRecDepth 65536 in
theorem w_c18 : (Jvm.Cond.code ({ cls := "jdk/internal/util/Preconditions", name := "checkIndex", desc := "(IILjava/util/function/BiFunction;)I" } : Jvm.MethodName) jdk_41_method_11_code (3 : Nat) (Option.some Jvm.ClassFile.FieldType.int)).before args0 about1 = true := code_word (m := ⟨11, 1⟩) (meth := k11m1) (c := k11c1) (by decide +kernel) rfl rfl rfl (by decide +kernel)
set_option maxRecDepth 65536 in
theorem w_c19 : (Jvm.Cond.code ({ cls := "java/lang/String", name := "indexOf", desc := "(I)I" } : Jvm.MethodName) jdk_42_method_79_code (2 : Nat) (Option.some Jvm.ClassFile.FieldType.int)).before args0 about1 = true := code_word (m := ⟨7, 6⟩) (meth := k7m6) (c := k7c6) (by decide +kernel) rfl rfl rfl (by decide +kernel)
set_option maxRecDepth 65536 in
theorem w_c20 : (Jvm.Cond.code ({ cls := "java/lang/String", name := "indexOf", desc := "(II)I" } : Jvm.MethodName) jdk_42_method_80_code (3 : Nat) (Option.some Jvm.ClassFile.FieldType.int)).before args0 about1 = true := code_word (m := ⟨7, 7⟩) (meth := k7m7) (c := k7c7) (by decide +kernel) rfl rfl rfl (by decide +kernel)
set_option maxRecDepth 65536 in
theorem w_c21 : (Jvm.Cond.code ({ cls := "java/lang/StringLatin1", name := "indexOf", desc := "([BIII)I" } : Jvm.MethodName) jdk_43_method_22_code (4 : Nat) (Option.some Jvm.ClassFile.FieldType.int)).before args0 about1 = true := code_word (m := ⟨10, 3⟩) (meth := k10m3) (c := k10c3) (by decide +kernel) rfl rfl rfl (by decide +kernel)
set_option maxRecDepth 65536 in
theorem w_c22 : (Jvm.Cond.code ({ cls := "java/lang/StringLatin1", name := "canEncode", desc := "(I)Z" } : Jvm.MethodName) jdk_43_method_4_code (1 : Nat) (Option.some Jvm.ClassFile.FieldType.boolean)).before args0 about1 = true := code_word (m := ⟨10, 2⟩) (meth := k10m2) (c := k10c2) (by decide +kernel) rfl rfl rfl (by decide +kernel)
set_option maxRecDepth 65536 in
theorem w_c23 : (Jvm.Cond.code ({ cls := "java/lang/Math", name := "max", desc := "(II)I" } : Jvm.MethodName) jdk_29_method_65_code (2 : Nat) (Option.some Jvm.ClassFile.FieldType.int)).before args0 about1 = true := code_word (m := ⟨12, 1⟩) (meth := k12m1) (c := k12c1) (by decide +kernel) rfl rfl rfl (by decide +kernel)
set_option maxRecDepth 65536 in
theorem w_c24 : (Jvm.Cond.code ({ cls := "java/lang/Math", name := "min", desc := "(II)I" } : Jvm.MethodName) jdk_29_method_69_code (2 : Nat) (Option.some Jvm.ClassFile.FieldType.int)).before args0 about1 = true := code_word (m := ⟨12, 2⟩) (meth := k12m2) (c := k12c2) (by decide +kernel) rfl rfl rfl (by decide +kernel)
set_option maxRecDepth 65536 in
theorem w_c25 : (Jvm.Cond.code ({ cls := "java/lang/StringLatin1", name := "indexOfChar", desc := "([BIII)I" } : Jvm.MethodName) jdk_43_method_23_code (6 : Nat) (Option.some Jvm.ClassFile.FieldType.int)).before args0 about1 = true := code_word (m := ⟨10, 4⟩) (meth := k10m4) (c := k10c4) (by decide +kernel) rfl rfl rfl (by decide +kernel)
set_option maxRecDepth 65536 in
theorem w_c26 : (Jvm.Cond.code ({ cls := "java/lang/String", name := "equals", desc := "(Ljava/lang/Object;)Z" } : Jvm.MethodName) jdk_42_method_66_code (3 : Nat) (Option.some Jvm.ClassFile.FieldType.boolean)).before args0 about1 = true := code_word (m := ⟨7, 5⟩) (meth := k7m5) (c := k7c5) (by decide +kernel) rfl rfl rfl (by decide +kernel)
set_option maxRecDepth 65536 in
theorem w_c27 : (Jvm.Cond.code ({ cls := "java/lang/StringUTF16", name := "toBytes", desc := "([CII)[B" } : Jvm.MethodName) jdk_52_method_14_code (5 : Nat) (Option.some (Jvm.ClassFile.FieldType.array Jvm.ClassFile.FieldType.byte))).before args0 about1 = true := code_word (m := ⟨8, 6⟩) (meth := k8m6) (c := k8c6) (by decide +kernel) rfl rfl rfl (by decide +kernel)
set_option maxRecDepth 65536 in
theorem w_c28 : (Jvm.Cond.code ({ cls := "java/lang/StringUTF16", name := "newBytesFor", desc := "(I)[B" } : Jvm.MethodName) jdk_52_method_2_code (1 : Nat) (Option.some (Jvm.ClassFile.FieldType.array Jvm.ClassFile.FieldType.byte))).before args0 about1 = true := code_word (m := ⟨8, 1⟩) (meth := k8m1) (c := k8c1) (by decide +kernel) rfl rfl rfl (by decide +kernel)
set_option maxRecDepth 65536 in
theorem w_c29 : (Jvm.Cond.code ({ cls := "java/lang/StringUTF16", name := "newBytesLength", desc := "(I)I" } : Jvm.MethodName) jdk_52_method_3_code (1 : Nat) (Option.some Jvm.ClassFile.FieldType.int)).before args0 about1 = true := code_word (m := ⟨8, 2⟩) (meth := k8m2) (c := k8c2) (by decide +kernel) rfl rfl rfl (by decide +kernel)
set_option maxRecDepth 65536 in
theorem w_c30 : (Jvm.Cond.code ({ cls := "java/lang/StringUTF16", name := "putChar", desc := "([BII)V" } : Jvm.MethodName) jdk_52_method_4_code (3 : Nat) (Option.none : Option Jvm.ClassFile.FieldType)).before args0 about1 = true := code_word (m := ⟨8, 3⟩) (meth := k8m3) (c := k8c3) (by decide +kernel) rfl rfl rfl (by decide +kernel)
set_option maxRecDepth 65536 in
theorem w_c31 : (Jvm.Cond.code ({ cls := "java/lang/StringUTF16", name := "getChar", desc := "([BI)C" } : Jvm.MethodName) jdk_52_method_5_code (2 : Nat) (Option.some Jvm.ClassFile.FieldType.char)).before args0 about1 = true := code_word (m := ⟨8, 4⟩) (meth := k8m4) (c := k8c4) (by decide +kernel) rfl rfl rfl (by decide +kernel)
set_option maxRecDepth 65536 in
theorem w_c32 : (Jvm.Cond.code ({ cls := "java/lang/StringUTF16", name := "charAt", desc := "([BI)C" } : Jvm.MethodName) jdk_52_method_83_code (2 : Nat) (Option.some Jvm.ClassFile.FieldType.char)).before args0 about1 = true := code_word (m := ⟨8, 10⟩) (meth := k8m10) (c := k8c10) (by decide +kernel) rfl rfl rfl (by decide +kernel)
set_option maxRecDepth 65536 in
theorem w_c33 : (Jvm.Cond.code ({ cls := "java/lang/StringUTF16", name := "checkIndex", desc := "(I[B)V" } : Jvm.MethodName) jdk_52_method_91_code (2 : Nat) (Option.none : Option Jvm.ClassFile.FieldType)).before args0 about1 = true := code_word (m := ⟨8, 11⟩) (meth := k8m11) (c := k8c11) (by decide +kernel) rfl rfl rfl (by decide +kernel)
set_option maxRecDepth 65536 in
theorem w_c34 : (Jvm.Cond.code ({ cls := "java/lang/StringUTF16", name := "length", desc := "([B)I" } : Jvm.MethodName) jdk_52_method_6_code (1 : Nat) (Option.some Jvm.ClassFile.FieldType.int)).before args0 about1 = true := code_word (m := ⟨8, 5⟩) (meth := k8m5) (c := k8c5) (by decide +kernel) rfl rfl rfl (by decide +kernel)
def codes1 : List Jvm.Cond := [Jvm.Cond.code x code maxLocals ret, Jvm.Cond.code ({ cls := "com/example/linepack/linepack/ValuesIdPinLaw", name := "plain", desc := "(C)Z" } : Jvm.MethodName) method_3_code (1 : Nat) (Option.some Jvm.ClassFile.FieldType.boolean), Jvm.Cond.code ({ cls := "com/example/linepack/linepack/ValuesIdPinLaw", name := "formulaStart", desc := "(C)Z" } : Jvm.MethodName) method_4_code (1 : Nat) (Option.some Jvm.ClassFile.FieldType.boolean), Jvm.Cond.code ({ cls := "com/example/linepack/linepack/ValuesIdPinLaw", name := "make", desc := "(ICCCC)Ljava/lang/String;" } : Jvm.MethodName) method_5_code (5 : Nat) (Option.some (Jvm.ClassFile.FieldType.object "java/lang/String")), Jvm.Cond.code ({ cls := "java/lang/String", name := "<init>", desc := "([C)V" } : Jvm.MethodName) jdk_42_method_3_code (2 : Nat) (Option.none : Option Jvm.ClassFile.FieldType), Jvm.Cond.code ({ cls := "java/lang/String", name := "<init>", desc := "([CIILjava/lang/Void;)V" } : Jvm.MethodName) jdk_42_method_149_code (6 : Nat) (Option.none : Option Jvm.ClassFile.FieldType), Jvm.Cond.code ({ cls := "java/lang/Object", name := "<init>", desc := "()V" } : Jvm.MethodName) object_method_1_code (1 : Nat) (Option.none : Option Jvm.ClassFile.FieldType), Jvm.Cond.code ({ cls := "java/lang/StringUTF16", name := "compress", desc := "([CII)[B" } : Jvm.MethodName) jdk_52_method_16_code (6 : Nat) (Option.some (Jvm.ClassFile.FieldType.array Jvm.ClassFile.FieldType.byte)), Jvm.Cond.code ({ cls := "java/lang/StringUTF16", name := "compress", desc := "([CI[BII)I" } : Jvm.MethodName) jdk_52_method_21_code (7 : Nat) (Option.some Jvm.ClassFile.FieldType.int), Jvm.Cond.code ({ cls := "java/lang/StringUTF16", name := "coderFromArrayLen", desc := "([BI)B" } : Jvm.MethodName) jdk_52_method_15_code (2 : Nat) (Option.some Jvm.ClassFile.FieldType.byte), Jvm.Cond.code ({ cls := "com/example/linepack/linepack/Values", name := "id", desc := "(Ljava/lang/String;Ljava/lang/String;)Ljava/lang/String;" } : Jvm.MethodName) prog_15_method_3_code (4 : Nat) (Option.some (Jvm.ClassFile.FieldType.object "java/lang/String")), Jvm.Cond.code ({ cls := "java/lang/String", name := "isEmpty", desc := "()Z" } : Jvm.MethodName) jdk_42_method_55_code (1 : Nat) (Option.some Jvm.ClassFile.FieldType.boolean), Jvm.Cond.code ({ cls := "java/lang/String", name := "length", desc := "()I" } : Jvm.MethodName) jdk_42_method_54_code (1 : Nat) (Option.some Jvm.ClassFile.FieldType.int), Jvm.Cond.code ({ cls := "java/lang/String", name := "coder", desc := "()B" } : Jvm.MethodName) jdk_42_method_152_code (1 : Nat) (Option.some Jvm.ClassFile.FieldType.byte), Jvm.Cond.code ({ cls := "java/lang/String", name := "charAt", desc := "(I)C" } : Jvm.MethodName) jdk_42_method_56_code (2 : Nat) (Option.some Jvm.ClassFile.FieldType.char), Jvm.Cond.code ({ cls := "java/lang/String", name := "isLatin1", desc := "()Z" } : Jvm.MethodName) jdk_42_method_154_code (1 : Nat) (Option.some Jvm.ClassFile.FieldType.boolean), Jvm.Cond.code ({ cls := "java/lang/StringLatin1", name := "charAt", desc := "([BI)C" } : Jvm.MethodName) jdk_43_method_2_code (2 : Nat) (Option.some Jvm.ClassFile.FieldType.char), Jvm.Cond.code ({ cls := "java/lang/String", name := "checkIndex", desc := "(II)V" } : Jvm.MethodName) jdk_42_method_155_code (2 : Nat) (Option.none : Option Jvm.ClassFile.FieldType), Jvm.Cond.code ({ cls := "jdk/internal/util/Preconditions", name := "checkIndex", desc := "(IILjava/util/function/BiFunction;)I" } : Jvm.MethodName) jdk_41_method_11_code (3 : Nat) (Option.some Jvm.ClassFile.FieldType.int), Jvm.Cond.code ({ cls := "java/lang/String", name := "indexOf", desc := "(I)I" } : Jvm.MethodName) jdk_42_method_79_code (2 : Nat) (Option.some Jvm.ClassFile.FieldType.int), Jvm.Cond.code ({ cls := "java/lang/String", name := "indexOf", desc := "(II)I" } : Jvm.MethodName) jdk_42_method_80_code (3 : Nat) (Option.some Jvm.ClassFile.FieldType.int), Jvm.Cond.code ({ cls := "java/lang/StringLatin1", name := "indexOf", desc := "([BIII)I" } : Jvm.MethodName) jdk_43_method_22_code (4 : Nat) (Option.some Jvm.ClassFile.FieldType.int), Jvm.Cond.code ({ cls := "java/lang/StringLatin1", name := "canEncode", desc := "(I)Z" } : Jvm.MethodName) jdk_43_method_4_code (1 : Nat) (Option.some Jvm.ClassFile.FieldType.boolean), Jvm.Cond.code ({ cls := "java/lang/Math", name := "max", desc := "(II)I" } : Jvm.MethodName) jdk_29_method_65_code (2 : Nat) (Option.some Jvm.ClassFile.FieldType.int), Jvm.Cond.code ({ cls := "java/lang/Math", name := "min", desc := "(II)I" } : Jvm.MethodName) jdk_29_method_69_code (2 : Nat) (Option.some Jvm.ClassFile.FieldType.int), Jvm.Cond.code ({ cls := "java/lang/StringLatin1", name := "indexOfChar", desc := "([BIII)I" } : Jvm.MethodName) jdk_43_method_23_code (6 : Nat) (Option.some Jvm.ClassFile.FieldType.int), Jvm.Cond.code ({ cls := "java/lang/String", name := "equals", desc := "(Ljava/lang/Object;)Z" } : Jvm.MethodName) jdk_42_method_66_code (3 : Nat) (Option.some Jvm.ClassFile.FieldType.boolean), Jvm.Cond.code ({ cls := "java/lang/StringUTF16", name := "toBytes", desc := "([CII)[B" } : Jvm.MethodName) jdk_52_method_14_code (5 : Nat) (Option.some (Jvm.ClassFile.FieldType.array Jvm.ClassFile.FieldType.byte)), Jvm.Cond.code ({ cls := "java/lang/StringUTF16", name := "newBytesFor", desc := "(I)[B" } : Jvm.MethodName) jdk_52_method_2_code (1 : Nat) (Option.some (Jvm.ClassFile.FieldType.array Jvm.ClassFile.FieldType.byte)), Jvm.Cond.code ({ cls := "java/lang/StringUTF16", name := "newBytesLength", desc := "(I)I" } : Jvm.MethodName) jdk_52_method_3_code (1 : Nat) (Option.some Jvm.ClassFile.FieldType.int), Jvm.Cond.code ({ cls := "java/lang/StringUTF16", name := "putChar", desc := "([BII)V" } : Jvm.MethodName) jdk_52_method_4_code (3 : Nat) (Option.none : Option Jvm.ClassFile.FieldType), Jvm.Cond.code ({ cls := "java/lang/StringUTF16", name := "getChar", desc := "([BI)C" } : Jvm.MethodName) jdk_52_method_5_code (2 : Nat) (Option.some Jvm.ClassFile.FieldType.char), Jvm.Cond.code ({ cls := "java/lang/StringUTF16", name := "charAt", desc := "([BI)C" } : Jvm.MethodName) jdk_52_method_83_code (2 : Nat) (Option.some Jvm.ClassFile.FieldType.char), Jvm.Cond.code ({ cls := "java/lang/StringUTF16", name := "checkIndex", desc := "(I[B)V" } : Jvm.MethodName) jdk_52_method_91_code (2 : Nat) (Option.none : Option Jvm.ClassFile.FieldType), Jvm.Cond.code ({ cls := "java/lang/StringUTF16", name := "length", desc := "([B)I" } : Jvm.MethodName) jdk_52_method_6_code (1 : Nat) (Option.some Jvm.ClassFile.FieldType.int)]
set_option maxRecDepth 65536 in
theorem codes_eq : words1.filter isCode = codes1 := rfl
theorem w_codes : ∀ c ∈ words1.filter isCode, c.before args0 about1 = true := by
  rw [codes_eq]
  intro c hc
  simp only [codes1, List.mem_cons, List.not_mem_nil, or_false] at hc
  rcases hc with rfl | rfl | rfl | rfl | rfl | rfl | rfl | rfl | rfl | rfl | rfl | rfl | rfl | rfl | rfl | rfl | rfl | rfl | rfl | rfl | rfl | rfl | rfl | rfl | rfl | rfl | rfl | rfl | rfl | rfl | rfl | rfl | rfl | rfl | rfl
  · exact w_c0
  · exact w_c1
  · exact w_c2
  · exact w_c3
  · exact w_c4
  · exact w_c5
  · exact w_c6
  · exact w_c7
  · exact w_c8
  · exact w_c9
  · exact w_c10
  · exact w_c11
  · exact w_c12
  · exact w_c13
  · exact w_c14
  · exact w_c15
  · exact w_c16
  · exact w_c17
  · exact w_c18
  · exact w_c19
  · exact w_c20
  · exact w_c21
  · exact w_c22
  · exact w_c23
  · exact w_c24
  · exact w_c25
  · exact w_c26
  · exact w_c27
  · exact w_c28
  · exact w_c29
  · exact w_c30
  · exact w_c31
  · exact w_c32
  · exact w_c33
  · exact w_c34
set_option maxRecDepth 65536 in
theorem w_t1 : (words1.take 24).all (fun c => isCode c || c.before args0 about1) = true := by decide +kernel
set_option maxRecDepth 65536 in
theorem w_t2 : ((words1.drop 24).take 24).all (fun c => isCode c || c.before args0 about1) = true := by decide +kernel
set_option maxRecDepth 65536 in
theorem w_t3 : (((words1.drop 24).drop 24).take 24).all (fun c => isCode c || c.before args0 about1) = true := by decide +kernel
set_option maxRecDepth 65536 in
theorem w_t4 : ((((words1.drop 24).drop 24).drop 24).take 24).all (fun c => isCode c || c.before args0 about1) = true := by decide +kernel
set_option maxRecDepth 65536 in
theorem w_t5 : (((((words1.drop 24).drop 24).drop 24).drop 24).take 24).all (fun c => isCode c || c.before args0 about1) = true := by decide +kernel
set_option maxRecDepth 65536 in
theorem w_t6 : ((((((words1.drop 24).drop 24).drop 24).drop 24).drop 24).take 24).all (fun c => isCode c || c.before args0 about1) = true := by decide +kernel
set_option maxRecDepth 65536 in
theorem w_t7 : ((((((words1.drop 24).drop 24).drop 24).drop 24).drop 24).drop 24).all (fun c => isCode c || c.before args0 about1) = true := by decide +kernel
theorem w_tables : (allAtoms (Jvm.Cond.code x code maxLocals ret :: tables_1)).before args0 about1 = true := by
  rw [allAtoms_all]
  show words1.all (fun c => c.before args0 about1) = true
  refine all_split ?_ w_codes
  rw [← List.take_append_drop 24 words1, List.all_append, w_t1, ← List.take_append_drop 24 (words1.drop 24), List.all_append, w_t2, ← List.take_append_drop 24 ((words1.drop 24).drop 24), List.all_append, w_t3, ← List.take_append_drop 24 (((words1.drop 24).drop 24).drop 24), List.all_append, w_t4, ← List.take_append_drop 24 ((((words1.drop 24).drop 24).drop 24).drop 24), List.all_append, w_t5, ← List.take_append_drop 24 (((((words1.drop 24).drop 24).drop 24).drop 24).drop 24), List.all_append, w_t6, w_t7]
  rfl
set_option maxRecDepth 65536 in
theorem w_rest : rest_1_c.before args0 about1 = true := by decide +kernel
set_option maxRecDepth 65536 in
theorem w_case : (Jvm.Cond.and given_1 narrow_1).before args0 about1 = true := by decide +kernel
set_option maxRecDepth 65536 in
theorem w_consts : constsHeld consts_1 about1 := Jvm.Lit.constsHeldB_iff.mp (by decide +kernel)
theorem w_applies : (headSpec (Jvm.Cond.code x code maxLocals ret :: tables_1) room_1).applies x e0.platform about1 = true :=
  (Spec.applies_iff w_frames).mpr ⟨w_running, w_runnable, w_alone, w_named, w_hears, w_ripe, w_room, w_tables⟩
theorem atStart : AtStart classFile x code maxLocals ret World_1 tables_1 room_1 Calls_1 rest_1 Pre_1 launch0 p0 e0 about1 theMethod args0 below0 :=
  ⟨lists_1, trivial, launch0.admits_env _ _ _, launch0.least_env, fairChoices_fair.cas, fairChoices_fair.clock, w_frames, w_args, w_heap, w_applies, ⟨w_consts, trivial⟩, w_rest, w_case⟩
end start1
theorem witness_1 : WitnessClaimed_1 := ⟨start1.p0, start1.e0, start1.about1, start1.theMethod, start1.args0, start1.below0, start1.atStart⟩
end Jvm.Pilot.@@N@@
